import JvmDerived
import JvmDerived.Pilot.@@N@@Statement
import JvmDerived.Pilot.@@N@@Code
set_option linter.unusedVariables false
set_option linter.unusedSimpArgs false
namespace Jvm.RoadKit
open Sem ClassFile Op Lib Jvm.Stand Jvm.Free Jvm.LawKit
section Own
variable {p : Program} {l : Launch} {e : Env} {R : Room} {s : State} {m : MethodId} {args : Array Value} {below : List Frame} {meth : Method} {c : Code} {T : State} {locs : List Loc} {cells slots : Nat}
/-- the run from U comes to its end, and the end meets Q -/
def own_Go (p : Program) (e : Env) (below : List Frame) (args : Array Value) (s : State) (Q : Array Value → State → Outcome → State → Prop) (U : State) : Prop := ∃ s₂ o, Steps p.tables e below U s₂ ∧ s₂.status = .running ∧ Ended s₂ below o ∧ Q args s o s₂
theorem own_st {Q : Array Value → State → Outcome → State → Prop} {U V : State} (k : ∀ t, Steps p.tables e below V t → Steps p.tables e below U t) (h : own_Go p e below args s Q V) : own_Go p e below args s Q U := by
  obtain ⟨s2, o, h1, h2⟩ := h
  exact ⟨s2, o, k _ h1, h2⟩
theorem own_ret {Q : Option Value → Heap → List Loc → Prop} {rc rs : Nat} (X : Stand p l e R s m args below meth c T locs cells slots) (hx : p.tables.exec = Jvm.exec) {pc : Nat} {Ls : Array Slot} {w : Value} {t : FieldType} {i : Instr} {rest : List Value} (hlk : meth.locks = false) (hret : meth.sig.returnType = some t) (hn : narrow t w = w)
    (hi : (i = .ireturn ∧ (t = .int ∨ t = .boolean ∨ t = .byte ∨ t = .char ∨ t = .short) ∧ ∃ z, w = .int z) ∨ (i = .lreturn ∧ t = .long ∧ ∃ z, w = .long z) ∨ (i = .dreturn ∧ t = .double ∧ ∃ z, w = .double z) ∨ (i = .freturn ∧ t = .float ∧ ∃ z, w = .float z) ∨ (i = .areturn ∧ t.isReference = true ∧ w.isRef = true))
    (hd : decode c.code pc = .ok (i, 1)) (hc : cells ≤ rc) (hs : slots ≤ rs) (hQ : Q (some w) T.heap locs) :
    own_Go p e below args s (fun _ U o U' => ∃ v L, o = .returned v ∧ Q v U'.heap L ∧ FrameEnd U o U' L rc rs) (T.setTop (mkF m pc Ls (w :: rest))) := by
  obtain ⟨fs, hr, hrun, hended, hW, hsame⟩ := X.leave (v := some w) (fun h => by rw [hret] at h; cases h) hlk
  exact ⟨_, _, retOut X hx hret hn hi hd hr, hrun, hended, _, _, rfl, hQ, ⟨_, rfl⟩, hW, hsame.mono hc hs⟩
theorem own_ret0 {Q : Option Value → Heap → List Loc → Prop} {rc rs : Nat} (X : Stand p l e R s m args below meth c T locs cells slots) (hx : p.tables.exec = Jvm.exec) {pc : Nat} {Ls : Array Slot} (hlk : meth.locks = false) (hret : meth.sig.returnType = none)
    (hd : decode c.code pc = .ok (.return_, 1)) (hc : cells ≤ rc) (hs : slots ≤ rs) (hQ : Q none T.heap locs) :
    own_Go p e below args s (fun _ U o U' => ∃ v L, o = .returned v ∧ Q v U'.heap L ∧ FrameEnd U o U' L rc rs) (T.setTop (mkF m pc Ls [])) := by
  obtain ⟨fs, hr, hrun, hended, hW, hsame⟩ := X.leave (v := none) (fun _ => rfl) hlk
  exact ⟨_, _, X.returnOut hx hret hd hr, hrun, hended, _, _, rfl, hQ, ⟨_, rfl⟩, hW, hsame.mono hc hs⟩
theorem own_retN {Q : Option Value → Heap → List Loc → Prop} {rc rs : Nat} (X : Stand p l e R s m args below meth c T locs cells slots) (hx : p.tables.exec = Jvm.exec) {pc : Nat} {Ls : Array Slot} {w : Value} {t : FieldType} {i : Instr} {rest : List Value} (hlk : meth.locks = false) (hret : meth.sig.returnType = some t) (hn : narrow t w = w)
    (hi : (i = .ireturn ∧ (t = .int ∨ t = .boolean ∨ t = .byte ∨ t = .char ∨ t = .short) ∧ ∃ z, w = .int z) ∨ (i = .lreturn ∧ t = .long ∧ ∃ z, w = .long z) ∨ (i = .dreturn ∧ t = .double ∧ ∃ z, w = .double z) ∨ (i = .freturn ∧ t = .float ∧ ∃ z, w = .float z) ∨ (i = .areturn ∧ t.isReference = true ∧ w.isRef = true))
    (hd : decode c.code pc = .ok (i, 1)) (hc : cells ≤ rc) (hs : slots ≤ rs) (hQ : Q (some w) T.heap locs) :
    own_Go p e below args s (fun _ U o U' => ∃ v L, o = .returned v ∧ Q v U'.heap L ∧ ReturnedEndW U o U' L rc rs) (T.setTop (mkF m pc Ls (w :: rest))) := by
  obtain ⟨fs, hr, hrun, hended, hW, hsame⟩ := X.leave (v := some w) (fun h => by rw [hret] at h; cases h) hlk
  exact ⟨_, _, retOut X hx hret hn hi hd hr, hrun, hended, _, _, rfl, hQ, ReturnedEndW.of_narrow ⟨_, rfl⟩ hW (hsame.mono hc hs)⟩
theorem own_retW {Q : Option Value → Heap → List Loc → Prop} {rc rs : Nat} {vm₁ : Vm} {k1 : Nat} (hS : s.Since vm₁ k1) (hk : k1 ≤ T.heap.size) (X : Stand p l e R (s.setVm vm₁) m args below meth c T locs cells slots) (hx : p.tables.exec = Jvm.exec) {pc : Nat} {Ls : Array Slot} {w : Value} {t : FieldType} {i : Instr} {rest : List Value} (hlk : meth.locks = false) (hret : meth.sig.returnType = some t) (hn : narrow t w = w)
    (hi : (i = .ireturn ∧ (t = .int ∨ t = .boolean ∨ t = .byte ∨ t = .char ∨ t = .short) ∧ ∃ z, w = .int z) ∨ (i = .lreturn ∧ t = .long ∧ ∃ z, w = .long z) ∨ (i = .dreturn ∧ t = .double ∧ ∃ z, w = .double z) ∨ (i = .freturn ∧ t = .float ∧ ∃ z, w = .float z) ∨ (i = .areturn ∧ t.isReference = true ∧ w.isRef = true))
    (hd : decode c.code pc = .ok (i, 1)) (hc : cells ≤ rc) (hs : slots ≤ rs) (hQ : Q (some w) T.heap locs) :
    own_Go p e below args s (fun _ U o U' => ∃ v L, o = .returned v ∧ Q v U'.heap L ∧ ReturnedEndW U o U' L rc rs) (T.setTop (mkF m pc Ls (w :: rest))) := by
  obtain ⟨fs, hr, hrun, hended, hE⟩ := X.leaveW hS hk (v := some w) (fun h => by rw [hret] at h; cases h) hlk
  exact ⟨_, _, retOut X hx hret hn hi hd hr, hrun, hended, _, _, rfl, hQ, hE.1, hE.2.1, hE.2.2.1, hE.2.2.2.mono hc hs⟩
theorem own_ret0N {Q : Option Value → Heap → List Loc → Prop} {rc rs : Nat} (X : Stand p l e R s m args below meth c T locs cells slots) (hx : p.tables.exec = Jvm.exec) {pc : Nat} {Ls : Array Slot} (hlk : meth.locks = false) (hret : meth.sig.returnType = none)
    (hd : decode c.code pc = .ok (.return_, 1)) (hc : cells ≤ rc) (hs : slots ≤ rs) (hQ : Q none T.heap locs) :
    own_Go p e below args s (fun _ U o U' => ∃ v L, o = .returned v ∧ Q v U'.heap L ∧ ReturnedEndW U o U' L rc rs) (T.setTop (mkF m pc Ls [])) := by
  obtain ⟨fs, hr, hrun, hended, hW, hsame⟩ := X.leave (v := none) (fun _ => rfl) hlk
  exact ⟨_, _, X.returnOut hx hret hd hr, hrun, hended, _, _, rfl, hQ, ReturnedEndW.of_narrow ⟨_, rfl⟩ hW (hsame.mono hc hs)⟩
theorem own_ret0W {Q : Option Value → Heap → List Loc → Prop} {rc rs : Nat} {vm₁ : Vm} {k1 : Nat} (hS : s.Since vm₁ k1) (hk : k1 ≤ T.heap.size) (X : Stand p l e R (s.setVm vm₁) m args below meth c T locs cells slots) (hx : p.tables.exec = Jvm.exec) {pc : Nat} {Ls : Array Slot} (hlk : meth.locks = false) (hret : meth.sig.returnType = none)
    (hd : decode c.code pc = .ok (.return_, 1)) (hc : cells ≤ rc) (hs : slots ≤ rs) (hQ : Q none T.heap locs) :
    own_Go p e below args s (fun _ U o U' => ∃ v L, o = .returned v ∧ Q v U'.heap L ∧ ReturnedEndW U o U' L rc rs) (T.setTop (mkF m pc Ls [])) := by
  obtain ⟨fs, hr, hrun, hended, hE⟩ := X.leaveW hS hk (v := none) (fun _ => rfl) hlk
  exact ⟨_, _, X.returnOut hx hret hd hr, hrun, hended, _, _, rfl, hQ, hE.1, hE.2.1, hE.2.2.1, hE.2.2.2.mono hc hs⟩
/-- what the sheet says of a static that holds an object of its class -/
theorem own_sta {Z : State} {args : Array Value} {C n d K : String} (hx : (Jvm.Cond.exactly (.static C n d) K).value args Z none Z [] = some true) (wi : (Jvm.Cond.initialized C).before args Z = true) (wl : (Jvm.Cond.laysStatic C n d).before args Z = true) :
    ∃ a, Sta Z Z.heap C n d (.ref a) ∧ Exa Z Z.heap a K ∧ (Jvm.Term.static C n d).eval args Z none [] Z = some (.ref a) := by
  obtain ⟨a, ev⟩ := exa_v hx
  exact ⟨a, Sta.start ev (Or.inr ⟨wi, wl⟩), Exa.start ev hx, ev⟩
theorem own_eqi {Z : State} {args : Array Value} {t : Jvm.Term} {k : Int32} (h : (Jvm.Cond.eq t (.int k)).value args Z none Z [] = some true) : t.eval args Z none [] Z = some (.int k) := by
  cases hv : t.eval args Z none [] Z with
  | none => simp [Cond.value, Term.eval, hv] at h
  | some v => cases v <;> simp [Cond.value, Term.eval, hv] at h ⊢ <;> exact h
theorem own_fld {Z : State} {args : Array Value} {t : Jvm.Term} {C n d : String} {a : Addr} {k : Int32} (ev : t.eval args Z none [] Z = some (.ref a)) (h : (Jvm.Cond.eq (.field t C n d) (.int k)).value args Z none Z [] = some true) : Fld Z Z.heap a C n d (.int k) :=
  Fld.start ((fld_at ev).symm.trans (own_eqi h))
end Own
end Jvm.RoadKit
namespace Jvm.Pilot.@@N@@
open Jvm Jvm.ClassFile Sem Op Lib Jvm.Free Jvm.Stand Jvm.LawKit Jvm.RoadKit Bundle Jvm.Pilot.@@N@@.Jvm.D
theorem own_so {Z : State} {n0 : Nat} {h : Heap} {C n d : String} {v : Value} (O : Old Z n0 h) (S : Sta Z Z.heap C n d v) : Sta Z h C n d v := by
  obtain ⟨cf, i, k, f, st, cell, h1, h2, h3, h4, h5, h6⟩ := S
  exact ⟨cf, i, k, f, st, cell, h1, h2, h3, h4, O.2.2 _ _ h5, h6⟩
def Q_own_gmin (Z : State) (o1 : Addr) (f1 : Int64) (h0 : Heap) (n0 : Nat) (v : Option Value) (h : Heap) (L : List Loc) : Prop := v = some (.long f1) ∧ Fr n0 L ∧ h = h0
theorem own_d7_0 : decode jdk_2423_method_6_code 0 = .ok (.aload_n 0, 1) := by decide +kernel
theorem own_d7_1 : decode jdk_2423_method_6_code 1 = .ok (.getfield 33, 3) := by decide +kernel
theorem own_d7_4 : decode jdk_2423_method_6_code 4 = .ok (.lreturn, 1) := by decide +kernel
theorem own_pn_java_time_temporal_ValueRange : plainName "java/time/temporal/ValueRange" = true := by first | (simp [plainName, overriddenIn]; done) | decide +kernel
set_option maxRecDepth 65536 in
set_option maxHeartbeats 40000000 in
theorem own_gmin (l : Launch) (Z : State) (a0 : Array Value) (hw : ∀ d ∈ tables_1, d.before a0 Z = true) (ws : List Jvm.Cond) (o1 : Addr) (f1 : Int64) (h0 : Heap) (n0 : Nat) (Z0 : n0 ≤ h0.size) (F1 : Fld Z h0 o1 "java/time/temporal/ValueRange" "minSmallest" "J" (.long f1)) :
    MetFree l (⟨"java/time/temporal/ValueRange", "getMinimum", "()J"⟩ : MethodName) (head1 (Jvm.Cond.code (⟨"java/time/temporal/ValueRange", "getMinimum", "()J"⟩ : MethodName) jdk_2423_method_6_code 1 (some .long) :: ws) ({ frames := 0, cells := 0, slots := 0, locals := 0 } : Room)) (fun a U => a = #[(.ref o1)] ∧ Z.Warmed39 U.vm ∧ U.heap = h0) (fun _ _ _ _ _ => True) (fun _ U o U' => ∃ v L, o = .returned v ∧ Q_own_gmin Z o1 f1 h0 n0 v U'.heap L ∧ FrameEnd U o U' L ({ frames := 0, cells := 0, slots := 0, locals := 0 } : Room).cells ({ frames := 0, cells := 0, slots := 0, locals := 0 } : Room).slots) := by
  refine MetFree.of_bodySF (plainFor_of_name own_pn_java_time_temporal_ValueRange) hisR ?_
  intro p e s m args below meth c s₁ Bd hml0 hP hK
  obtain ⟨rfl, hZ, hh⟩ := hP
  have hx := Bd.exec
  have hby := Bd.bytes
  have hml : c.maxLocals = 1 := hml0
  have hown : s.vm.findClass "java/time/temporal/ValueRange" = some m.cls := findClass_of_methodNamed Bd.named
  have hnm := (name_of_methodNamed Bd.named Bd.method).1
  have hlk : meth.locks = false := BodyLoose.notSynchronized Bd
  have X0 : Stand p l e ({ frames := 0, cells := 0, slots := 0, locals := 0 } : Room) s m #[(.ref o1)] below meth c s₁ [] 0 0 := Stand.of_body Bd
  have e0 : s₁.heap = h0 := by rw [← hh, Bd.state]; rfl
  have N0 := Fr.nil n0
  show own_Go p e below #[(.ref o1)] s (fun _ U o U' => ∃ v L, o = .returned v ∧ Q_own_gmin Z o1 f1 h0 n0 v U'.heap L ∧ FrameEnd U o U' L ({ frames := 0, cells := 0, slots := 0, locals := 0 } : Room).cells ({ frames := 0, cells := 0, slots := 0, locals := 0 } : Room).slots) (s₁.setTop (entryFrame m #[(.ref o1)] 1))
  refine own_st (V := s₁.setTop (mkF m 0 #[.val (.ref o1)] [])) (fun t k => castTop (by first | (simp [entryFrame, mkF, argsToLocals, Value.category]; done) | rfl) k) ?_
  refine own_st (V := s₁.setTop (mkF m 1 #[.val (.ref o1)] [(.ref o1)])) (fun t k => XS.aloadN X0.here hx rfl (hb hby own_d7_0) rfl rfl k) ?_
  obtain ⟨T1, X1, e1, st1⟩ := getF X0 hx hZ hown (host := "") (Or.inl (hw _ (List.mem_of_getElem? (i := 42) rfl))) Via.refl e0 F1 (g := (mkF m 1 #[.val (.ref o1)] [(.ref o1)])) rfl rfl (hb hby own_d7_1)
  refine own_st (V := T1.setTop (mkF m 4 #[.val (.ref o1)] [(.long f1)])) (fun t k => st1 _ k) ?_
  exact own_ret X1 hx hlk Bd.returns rfl (Or.inr (Or.inl ⟨rfl, rfl, _, rfl⟩)) (hb hby own_d7_4) (by decide) (by decide) (by show Q_own_gmin Z o1 f1 h0 n0 _ T1.heap _; rw [e1]; exact ⟨rfl, N0, rfl⟩)
def Q_own_gmax (Z : State) (o1 : Addr) (f1 : Int64) (h0 : Heap) (n0 : Nat) (v : Option Value) (h : Heap) (L : List Loc) : Prop := v = some (.long f1) ∧ Fr n0 L ∧ h = h0
theorem own_d8_0 : decode jdk_2423_method_9_code 0 = .ok (.aload_n 0, 1) := by decide +kernel
theorem own_d8_1 : decode jdk_2423_method_9_code 1 = .ok (.getfield 43, 3) := by decide +kernel
theorem own_d8_4 : decode jdk_2423_method_9_code 4 = .ok (.lreturn, 1) := by decide +kernel
set_option maxRecDepth 65536 in
set_option maxHeartbeats 40000000 in
theorem own_gmax (l : Launch) (Z : State) (a0 : Array Value) (hw : ∀ d ∈ tables_1, d.before a0 Z = true) (ws : List Jvm.Cond) (o1 : Addr) (f1 : Int64) (h0 : Heap) (n0 : Nat) (Z0 : n0 ≤ h0.size) (F1 : Fld Z h0 o1 "java/time/temporal/ValueRange" "maxLargest" "J" (.long f1)) :
    MetFree l (⟨"java/time/temporal/ValueRange", "getMaximum", "()J"⟩ : MethodName) (head1 (Jvm.Cond.code (⟨"java/time/temporal/ValueRange", "getMaximum", "()J"⟩ : MethodName) jdk_2423_method_9_code 1 (some .long) :: ws) ({ frames := 0, cells := 0, slots := 0, locals := 0 } : Room)) (fun a U => a = #[(.ref o1)] ∧ Z.Warmed39 U.vm ∧ U.heap = h0) (fun _ _ _ _ _ => True) (fun _ U o U' => ∃ v L, o = .returned v ∧ Q_own_gmax Z o1 f1 h0 n0 v U'.heap L ∧ FrameEnd U o U' L ({ frames := 0, cells := 0, slots := 0, locals := 0 } : Room).cells ({ frames := 0, cells := 0, slots := 0, locals := 0 } : Room).slots) := by
  refine MetFree.of_bodySF (plainFor_of_name own_pn_java_time_temporal_ValueRange) hisR ?_
  intro p e s m args below meth c s₁ Bd hml0 hP hK
  obtain ⟨rfl, hZ, hh⟩ := hP
  have hx := Bd.exec
  have hby := Bd.bytes
  have hml : c.maxLocals = 1 := hml0
  have hown : s.vm.findClass "java/time/temporal/ValueRange" = some m.cls := findClass_of_methodNamed Bd.named
  have hnm := (name_of_methodNamed Bd.named Bd.method).1
  have hlk : meth.locks = false := BodyLoose.notSynchronized Bd
  have X0 : Stand p l e ({ frames := 0, cells := 0, slots := 0, locals := 0 } : Room) s m #[(.ref o1)] below meth c s₁ [] 0 0 := Stand.of_body Bd
  have e0 : s₁.heap = h0 := by rw [← hh, Bd.state]; rfl
  have N0 := Fr.nil n0
  show own_Go p e below #[(.ref o1)] s (fun _ U o U' => ∃ v L, o = .returned v ∧ Q_own_gmax Z o1 f1 h0 n0 v U'.heap L ∧ FrameEnd U o U' L ({ frames := 0, cells := 0, slots := 0, locals := 0 } : Room).cells ({ frames := 0, cells := 0, slots := 0, locals := 0 } : Room).slots) (s₁.setTop (entryFrame m #[(.ref o1)] 1))
  refine own_st (V := s₁.setTop (mkF m 0 #[.val (.ref o1)] [])) (fun t k => castTop (by first | (simp [entryFrame, mkF, argsToLocals, Value.category]; done) | rfl) k) ?_
  refine own_st (V := s₁.setTop (mkF m 1 #[.val (.ref o1)] [(.ref o1)])) (fun t k => XS.aloadN X0.here hx rfl (hb hby own_d8_0) rfl rfl k) ?_
  obtain ⟨T2, X2, e2, st2⟩ := getF X0 hx hZ hown (host := "") (Or.inl (hw _ (List.mem_of_getElem? (i := 49) rfl))) Via.refl e0 F1 (g := (mkF m 1 #[.val (.ref o1)] [(.ref o1)])) rfl rfl (hb hby own_d8_1)
  refine own_st (V := T2.setTop (mkF m 4 #[.val (.ref o1)] [(.long f1)])) (fun t k => st2 _ k) ?_
  exact own_ret X2 hx hlk Bd.returns rfl (Or.inr (Or.inl ⟨rfl, rfl, _, rfl⟩)) (hb hby own_d8_4) (by decide) (by decide) (by show Q_own_gmax Z o1 f1 h0 n0 _ T2.heap _; rw [e2]; exact ⟨rfl, N0, rfl⟩)
theorem own_lt1 {a b : Int64} (h : a.toInt < b.toInt) : lcmpW a b < (0 : Int32) := (lw_lt a b).mpr (Int64.lt_iff_toInt_lt.mpr h)
theorem own_lt0 {a b : Int64} (h : ¬ (a.toInt < b.toInt)) : ¬ (lcmpW a b < (0 : Int32)) := fun q => h (Int64.lt_iff_toInt_lt.mp ((lw_lt a b).mp q))
theorem own_gt1 {a b : Int64} (h : b.toInt < a.toInt) : (0 : Int32) < lcmpW a b := (lw_gt a b).mpr (Int64.lt_iff_toInt_lt.mpr h)
theorem own_gt0 {a b : Int64} (h : ¬ (b.toInt < a.toInt)) : ¬ ((0 : Int32) < lcmpW a b) := fun q => h (Int64.lt_iff_toInt_lt.mp ((lw_gt a b).mp q))
theorem own_eq1 {a b : Int64} (h : a.toInt = b.toInt) : lcmpW a b = (0 : Int32) := (lw_eq a b).mpr (Int64.toInt_inj.mp h)
theorem own_eq0 {a b : Int64} (h : ¬ (a.toInt = b.toInt)) : ¬ (lcmpW a b = (0 : Int32)) := fun q => h (congrArg Int64.toInt ((lw_eq a b).mp q))
def Q_own_ivv (Z : State) (o1 : Addr) (q1 f1 f2 : Int64) (h0 : Heap) (n0 : Nat) (v : Option Value) (h : Heap) (L : List Loc) : Prop := v = some (.int (1 : Int32)) ∧ Fr n0 L ∧ h = h0
theorem own_d6_0 : decode jdk_2423_method_11_code 0 = .ok (.lload_n 1, 1) := by decide +kernel
theorem own_d6_1 : decode jdk_2423_method_11_code 1 = .ok (.aload_n 0, 1) := by decide +kernel
theorem own_d6_2 : decode jdk_2423_method_11_code 2 = .ok (.invokevirtual 46, 3) := by decide +kernel
theorem own_pd0 : parseMethodDescriptor "()J" = some ⟨[], some .long⟩ := by decide +kernel
theorem own_d6_5 : decode jdk_2423_method_11_code 5 = .ok (.lcmp, 1) := by decide +kernel
theorem own_d6_6 : decode jdk_2423_method_11_code 6 = .ok (.ifCond .lt 16, 3) := by decide +kernel
theorem own_d6_9 : decode jdk_2423_method_11_code 9 = .ok (.lload_n 1, 1) := by decide +kernel
theorem own_d6_10 : decode jdk_2423_method_11_code 10 = .ok (.aload_n 0, 1) := by decide +kernel
theorem own_d6_11 : decode jdk_2423_method_11_code 11 = .ok (.invokevirtual 54, 3) := by decide +kernel
theorem own_d6_14 : decode jdk_2423_method_11_code 14 = .ok (.lcmp, 1) := by decide +kernel
theorem own_d6_15 : decode jdk_2423_method_11_code 15 = .ok (.ifCond .gt 7, 3) := by decide +kernel
theorem own_d6_18 : decode jdk_2423_method_11_code 18 = .ok (.iconst 1, 1) := by decide +kernel
theorem own_d6_19 : decode jdk_2423_method_11_code 19 = .ok (.goto 4, 3) := by decide +kernel
theorem own_d6_23 : decode jdk_2423_method_11_code 23 = .ok (.ireturn, 1) := by decide +kernel
set_option maxRecDepth 65536 in
set_option maxHeartbeats 40000000 in
theorem own_ivv (l : Launch) (Z : State) (a0 : Array Value) (hw : ∀ d ∈ tables_1, d.before a0 Z = true) (ws : List Jvm.Cond) (o1 : Addr) (q1 f1 f2 : Int64) (h0 : Heap) (n0 : Nat) (Z0 : n0 ≤ h0.size) (F1 : Fld Z h0 o1 "java/time/temporal/ValueRange" "minSmallest" "J" (.long f1)) (F2 : Fld Z h0 o1 "java/time/temporal/ValueRange" "maxLargest" "J" (.long f2)) (E1 : Exa Z h0 o1 "java/time/temporal/ValueRange") (ha : ¬ (q1.toInt < f1.toInt)) (hub : ¬ (f2.toInt < q1.toInt)) :
    MetFree l (⟨"java/time/temporal/ValueRange", "isValidValue", "(J)Z"⟩ : MethodName) (head1 (Jvm.Cond.code (⟨"java/time/temporal/ValueRange", "isValidValue", "(J)Z"⟩ : MethodName) jdk_2423_method_11_code 3 (some .boolean) :: ws) ({ frames := 1, cells := 0, slots := 0, locals := 14 } : Room)) (fun a U => a = #[(.ref o1), (.long q1)] ∧ Z.Warmed39 U.vm ∧ U.heap = h0) (fun _ _ _ _ _ => True) (fun _ U o U' => ∃ v L, o = .returned v ∧ Q_own_ivv Z o1 q1 f1 f2 h0 n0 v U'.heap L ∧ FrameEnd U o U' L ({ frames := 1, cells := 0, slots := 0, locals := 14 } : Room).cells ({ frames := 1, cells := 0, slots := 0, locals := 14 } : Room).slots) := by
  refine MetFree.of_bodySF (plainFor_of_name own_pn_java_time_temporal_ValueRange) hisR ?_
  intro p e s m args below meth c s₁ Bd hml0 hP hK
  obtain ⟨rfl, hZ, hh⟩ := hP
  have hx := Bd.exec
  have hby := Bd.bytes
  have hml : c.maxLocals = 3 := hml0
  have hown : s.vm.findClass "java/time/temporal/ValueRange" = some m.cls := findClass_of_methodNamed Bd.named
  have hnm := (name_of_methodNamed Bd.named Bd.method).1
  have hlk : meth.locks = false := BodyLoose.notSynchronized Bd
  have X0 : Stand p l e ({ frames := 1, cells := 0, slots := 0, locals := 14 } : Room) s m #[(.ref o1), (.long q1)] below meth c s₁ [] 0 0 := Stand.of_body Bd
  have e0 : s₁.heap = h0 := by rw [← hh, Bd.state]; rfl
  have N0 := Fr.nil n0
  show own_Go p e below #[(.ref o1), (.long q1)] s (fun _ U o U' => ∃ v L, o = .returned v ∧ Q_own_ivv Z o1 q1 f1 f2 h0 n0 v U'.heap L ∧ FrameEnd U o U' L ({ frames := 1, cells := 0, slots := 0, locals := 14 } : Room).cells ({ frames := 1, cells := 0, slots := 0, locals := 14 } : Room).slots) (s₁.setTop (entryFrame m #[(.ref o1), (.long q1)] 3))
  refine own_st (V := s₁.setTop (mkF m 0 #[.val (.ref o1), .val (.long q1), .second] [])) (fun t k => castTop (by first | (simp [entryFrame, mkF, argsToLocals, Value.category]; done) | rfl) k) ?_
  refine own_st (V := s₁.setTop (mkF m 1 #[.val (.ref o1), .val (.long q1), .second] [(.long q1)])) (fun t k => XS.lloadN X0.here hx rfl (hb hby own_d6_0) rfl k) ?_
  refine own_st (V := s₁.setTop (mkF m 2 #[.val (.ref o1), .val (.long q1), .second] [(.ref o1), (.long q1)])) (fun t k => XS.aloadN X0.here hx rfl (hb hby own_d6_1) rfl rfl k) ?_
  obtain ⟨cq3, kq3, q3a, q3b, q3c⟩ := isOf hZ e0 E1
  obtain ⟨_, _, ⟨T3, L3, k3, n3⟩, -, X3, ⟨Lc3, hQ3, l3, y3, z3⟩, st3⟩ := X0.virtualBack hx (y := (⟨"java/time/temporal/ValueRange", "getMinimum", "()J"⟩ : MethodName)) (z := (⟨"java/time/temporal/ValueRange", "getMinimum", "()J"⟩ : MethodName)) hown (mvT hZ (hw _ (List.mem_of_getElem? (i := 37) rfl))) (mvT hZ (hw _ (List.mem_of_getElem? (i := 38) rfl))) (notFace_of_selects (args := #[]) (mvT hZ (hw _ (List.mem_of_getElem? (i := 40) rfl)))) (mvT hZ (hw _ (List.mem_of_getElem? (i := 40) rfl))) (mvT hZ (hw _ (List.mem_of_getElem? (i := 39) rfl))) (by decide) (backOf (W := 2) (own_gmin l Z a0 hw [] o1 f1 h0 n0 Z0 F1) hZ (hw _ (List.mem_of_getElem? (i := 41) rfl)) (hw _ (List.mem_of_getElem? (i := 30) rfl)) (by decide) (by decide)) q3a q3c (g := (mkF m 2 #[.val (.ref o1), .val (.long q1), .second] [(.ref o1), (.long q1)])) rfl (by rw [hml]; rfl) (Steps.refl _) (argsL := []) (rest := [(.long q1)]) (lenOf own_pd0 rfl) rfl (by show 2 * 0 + _ ≤ _; exact Nat.le_of_eq rfl) (hb hby own_d6_2) (fun _ _ => ⟨rfl, e0, (by decide : 0 + 0 ≤ _), (by decide : 0 + 0 ≤ _)⟩)
  dsimp only [Pt.U, Pt.locs, Pt.cells, Pt.slots] at X3 l3 y3 z3 st3 hQ3
  subst l3 y3 z3
  obtain ⟨rfl, N3q, e3⟩ := hQ3
  have N3 := Fr.app N0 N3q
  refine own_st (V := T3.setTop (mkF m 5 #[.val (.ref o1), .val (.long q1), .second] [(.long f1), (.long q1)])) (fun t k => st3.trans k) ?_
  refine own_st (V := T3.setTop (mkF m 6 #[.val (.ref o1), .val (.long q1), .second] [(.int (lcmpW q1 f1))])) (fun t k => XS.lcmp X3.here hx rfl (hb hby own_d6_5) rfl k) ?_
  refine own_st (V := T3.setTop (mkF m 9 #[.val (.ref o1), .val (.long q1), .second] [])) (fun t k => XS.ifNo X3.here hx rfl (hb hby own_d6_6) rfl ((if0 _ _).trans (flt (own_lt0 ha)).1) k) ?_
  refine own_st (V := T3.setTop (mkF m 10 #[.val (.ref o1), .val (.long q1), .second] [(.long q1)])) (fun t k => XS.lloadN X3.here hx rfl (hb hby own_d6_9) rfl k) ?_
  refine own_st (V := T3.setTop (mkF m 11 #[.val (.ref o1), .val (.long q1), .second] [(.ref o1), (.long q1)])) (fun t k => XS.aloadN X3.here hx rfl (hb hby own_d6_10) rfl rfl k) ?_
  obtain ⟨cq4, kq4, q4a, q4b, q4c⟩ := isOf hZ e3 E1
  obtain ⟨_, _, ⟨T4, L4, k4, n4⟩, -, X4, ⟨Lc4, hQ4, l4, y4, z4⟩, st4⟩ := X3.virtualBack hx (y := (⟨"java/time/temporal/ValueRange", "getMaximum", "()J"⟩ : MethodName)) (z := (⟨"java/time/temporal/ValueRange", "getMaximum", "()J"⟩ : MethodName)) hown (mvT hZ (hw _ (List.mem_of_getElem? (i := 44) rfl))) (mvT hZ (hw _ (List.mem_of_getElem? (i := 45) rfl))) (notFace_of_selects (args := #[]) (mvT hZ (hw _ (List.mem_of_getElem? (i := 47) rfl)))) (mvT hZ (hw _ (List.mem_of_getElem? (i := 47) rfl))) (mvT hZ (hw _ (List.mem_of_getElem? (i := 46) rfl))) (by decide) (backOf (W := 2) (own_gmax l Z a0 hw [] o1 f2 h0 n0 Z0 F2) hZ (hw _ (List.mem_of_getElem? (i := 48) rfl)) (hw _ (List.mem_of_getElem? (i := 30) rfl)) (by decide) (by decide)) q4a q4c (g := (mkF m 11 #[.val (.ref o1), .val (.long q1), .second] [(.ref o1), (.long q1)])) rfl (by rw [hml]; rfl) (Steps.refl _) (argsL := []) (rest := [(.long q1)]) (lenOf own_pd0 rfl) rfl (by show 2 * 0 + _ ≤ _; exact Nat.le_of_eq rfl) (hb hby own_d6_11) (fun _ _ => ⟨rfl, e3, (by decide : 0 + 0 ≤ _), (by decide : 0 + 0 ≤ _)⟩)
  dsimp only [Pt.U, Pt.locs, Pt.cells, Pt.slots] at X4 l4 y4 z4 st4 hQ4
  subst l4 y4 z4
  obtain ⟨rfl, N4q, e4⟩ := hQ4
  have N4 := Fr.app N3 N4q
  refine own_st (V := T4.setTop (mkF m 14 #[.val (.ref o1), .val (.long q1), .second] [(.long f2), (.long q1)])) (fun t k => st4.trans k) ?_
  refine own_st (V := T4.setTop (mkF m 15 #[.val (.ref o1), .val (.long q1), .second] [(.int (lcmpW q1 f2))])) (fun t k => XS.lcmp X4.here hx rfl (hb hby own_d6_14) rfl k) ?_
  refine own_st (V := T4.setTop (mkF m 18 #[.val (.ref o1), .val (.long q1), .second] [])) (fun t k => XS.ifNo X4.here hx rfl (hb hby own_d6_15) rfl ((if0 _ _).trans (flt (own_gt0 hub)).2.2.1) k) ?_
  refine own_st (V := T4.setTop (mkF m 19 #[.val (.ref o1), .val (.long q1), .second] [(.int (1 : Int32))])) (fun t k => XS.iconst X4.here hx rfl (hb hby own_d6_18) k) ?_
  refine own_st (V := T4.setTop (mkF m 23 #[.val (.ref o1), .val (.long q1), .second] [(.int (1 : Int32))])) (fun t k => XS.goto X4.here hx rfl (pc0 := 19) (pc' := 23) rfl (hb hby own_d6_19) (by decide) (by decide) k) ?_
  exact own_ret X4 hx hlk Bd.returns (by decide +kernel) (Or.inl ⟨rfl, by simp, _, rfl⟩) (hb hby own_d6_23) (by decide) (by decide) (by show Q_own_ivv Z o1 q1 f1 f2 h0 n0 _ T4.heap _; rw [e4]; exact ⟨rfl, N4, rfl⟩)
def Q_own_vcv (Z : State) (o1 o2 : Addr) (q1 f1 f2 : Int64) (h0 : Heap) (n0 : Nat) (v : Option Value) (h : Heap) (L : List Loc) : Prop := v = some (.long q1) ∧ Fr n0 L ∧ h = h0
theorem own_d5_0 : decode jdk_2423_method_13_code 0 = .ok (.aload_n 0, 1) := by decide +kernel
theorem own_d5_1 : decode jdk_2423_method_13_code 1 = .ok (.lload_n 1, 1) := by decide +kernel
theorem own_d5_2 : decode jdk_2423_method_13_code 2 = .ok (.invokevirtual 63, 3) := by decide +kernel
theorem own_pd1 : parseMethodDescriptor "(J)Z" = some ⟨[.long], some .boolean⟩ := by decide +kernel
theorem own_d5_5 : decode jdk_2423_method_13_code 5 = .ok (.ifCond .ne 17, 3) := by decide +kernel
theorem own_d5_22 : decode jdk_2423_method_13_code 22 = .ok (.lload_n 1, 1) := by decide +kernel
theorem own_d5_23 : decode jdk_2423_method_13_code 23 = .ok (.lreturn, 1) := by decide +kernel
set_option maxRecDepth 65536 in
set_option maxHeartbeats 40000000 in
theorem own_vcv (l : Launch) (Z : State) (a0 : Array Value) (hw : ∀ d ∈ tables_1, d.before a0 Z = true) (ws : List Jvm.Cond) (o1 o2 : Addr) (q1 f1 f2 : Int64) (h0 : Heap) (n0 : Nat) (Z0 : n0 ≤ h0.size) (F1 : Fld Z h0 o1 "java/time/temporal/ValueRange" "minSmallest" "J" (.long f1)) (F2 : Fld Z h0 o1 "java/time/temporal/ValueRange" "maxLargest" "J" (.long f2)) (E1 : Exa Z h0 o1 "java/time/temporal/ValueRange") (ha : ¬ (q1.toInt < f1.toInt)) (hub : ¬ (f2.toInt < q1.toInt)) :
    MetFree l (⟨"java/time/temporal/ValueRange", "checkValidValue", "(JLjava/time/temporal/TemporalField;)J"⟩ : MethodName) (head1 (Jvm.Cond.code (⟨"java/time/temporal/ValueRange", "checkValidValue", "(JLjava/time/temporal/TemporalField;)J"⟩ : MethodName) jdk_2423_method_13_code 4 (some .long) :: ws) ({ frames := 2, cells := 0, slots := 0, locals := 28 } : Room)) (fun a U => a = #[(.ref o1), (.long q1), (.ref o2)] ∧ Z.Warmed39 U.vm ∧ U.heap = h0) (fun _ _ _ _ _ => True) (fun _ U o U' => ∃ v L, o = .returned v ∧ Q_own_vcv Z o1 o2 q1 f1 f2 h0 n0 v U'.heap L ∧ FrameEnd U o U' L ({ frames := 2, cells := 0, slots := 0, locals := 28 } : Room).cells ({ frames := 2, cells := 0, slots := 0, locals := 28 } : Room).slots) := by
  refine MetFree.of_bodySF (plainFor_of_name own_pn_java_time_temporal_ValueRange) hisR ?_
  intro p e s m args below meth c s₁ Bd hml0 hP hK
  obtain ⟨rfl, hZ, hh⟩ := hP
  have hx := Bd.exec
  have hby := Bd.bytes
  have hml : c.maxLocals = 4 := hml0
  have hown : s.vm.findClass "java/time/temporal/ValueRange" = some m.cls := findClass_of_methodNamed Bd.named
  have hnm := (name_of_methodNamed Bd.named Bd.method).1
  have hlk : meth.locks = false := BodyLoose.notSynchronized Bd
  have X0 : Stand p l e ({ frames := 2, cells := 0, slots := 0, locals := 28 } : Room) s m #[(.ref o1), (.long q1), (.ref o2)] below meth c s₁ [] 0 0 := Stand.of_body Bd
  have e0 : s₁.heap = h0 := by rw [← hh, Bd.state]; rfl
  have N0 := Fr.nil n0
  show own_Go p e below #[(.ref o1), (.long q1), (.ref o2)] s (fun _ U o U' => ∃ v L, o = .returned v ∧ Q_own_vcv Z o1 o2 q1 f1 f2 h0 n0 v U'.heap L ∧ FrameEnd U o U' L ({ frames := 2, cells := 0, slots := 0, locals := 28 } : Room).cells ({ frames := 2, cells := 0, slots := 0, locals := 28 } : Room).slots) (s₁.setTop (entryFrame m #[(.ref o1), (.long q1), (.ref o2)] 4))
  refine own_st (V := s₁.setTop (mkF m 0 #[.val (.ref o1), .val (.long q1), .second, .val (.ref o2)] [])) (fun t k => castTop (by first | (simp [entryFrame, mkF, argsToLocals, Value.category]; done) | rfl) k) ?_
  refine own_st (V := s₁.setTop (mkF m 1 #[.val (.ref o1), .val (.long q1), .second, .val (.ref o2)] [(.ref o1)])) (fun t k => XS.aloadN X0.here hx rfl (hb hby own_d5_0) rfl rfl k) ?_
  refine own_st (V := s₁.setTop (mkF m 2 #[.val (.ref o1), .val (.long q1), .second, .val (.ref o2)] [(.long q1), (.ref o1)])) (fun t k => XS.lloadN X0.here hx rfl (hb hby own_d5_1) rfl k) ?_
  obtain ⟨cq5, kq5, q5a, q5b, q5c⟩ := isOf hZ e0 E1
  obtain ⟨_, _, ⟨T5, L5, k5, n5⟩, -, X5, ⟨Lc5, hQ5, l5, y5, z5⟩, st5⟩ := X0.virtualBack hx (y := (⟨"java/time/temporal/ValueRange", "isValidValue", "(J)Z"⟩ : MethodName)) (z := (⟨"java/time/temporal/ValueRange", "isValidValue", "(J)Z"⟩ : MethodName)) hown (mvT hZ (hw _ (List.mem_of_getElem? (i := 32) rfl))) (mvT hZ (hw _ (List.mem_of_getElem? (i := 33) rfl))) (notFace_of_selects (args := #[]) (mvT hZ (hw _ (List.mem_of_getElem? (i := 35) rfl)))) (mvT hZ (hw _ (List.mem_of_getElem? (i := 35) rfl))) (mvT hZ (hw _ (List.mem_of_getElem? (i := 34) rfl))) (by decide) (backOf (W := 0) (own_ivv l Z a0 hw [] o1 q1 f1 f2 h0 n0 Z0 F1 F2 E1 ha hub) hZ (hw _ (List.mem_of_getElem? (i := 36) rfl)) (hw _ (List.mem_of_getElem? (i := 30) rfl)) (by decide) (by decide)) q5a q5c (g := (mkF m 2 #[.val (.ref o1), .val (.long q1), .second, .val (.ref o2)] [(.long q1), (.ref o1)])) rfl (by rw [hml]; rfl) (Steps.refl _) (argsL := [(.long q1)]) (rest := []) (lenOf own_pd1 rfl) rfl (by show 2 * 0 + _ ≤ _; exact Nat.le_of_eq rfl) (hb hby own_d5_2) (fun _ _ => ⟨rfl, e0, (by decide : 0 + 0 ≤ _), (by decide : 0 + 0 ≤ _)⟩)
  dsimp only [Pt.U, Pt.locs, Pt.cells, Pt.slots] at X5 l5 y5 z5 st5 hQ5
  subst l5 y5 z5
  obtain ⟨rfl, N5q, e5⟩ := hQ5
  have N5 := Fr.app N0 N5q
  refine own_st (V := T5.setTop (mkF m 5 #[.val (.ref o1), .val (.long q1), .second, .val (.ref o2)] [(.int (1 : Int32))])) (fun t k => st5.trans k) ?_
  refine own_st (V := T5.setTop (mkF m 22 #[.val (.ref o1), .val (.long q1), .second, .val (.ref o2)] [])) (fun t k => XS.ifYes X5.here hx rfl (pc0 := 5) (pc' := 22) rfl (hb hby own_d5_5) rfl ((if0 _ _).trans (feq (by decide : ¬ ((1 : Int32) = (0 : Int32)))).2) (by decide) (by decide) k) ?_
  refine own_st (V := T5.setTop (mkF m 23 #[.val (.ref o1), .val (.long q1), .second, .val (.ref o2)] [(.long q1)])) (fun t k => XS.lloadN X5.here hx rfl (hb hby own_d5_22) rfl k) ?_
  exact own_ret X5 hx hlk Bd.returns rfl (Or.inr (Or.inl ⟨rfl, rfl, _, rfl⟩)) (hb hby own_d5_23) (by decide) (by decide) (by show Q_own_vcv Z o1 o2 q1 f1 f2 h0 n0 _ T5.heap _; rw [e5]; exact ⟨rfl, N5, rfl⟩)
def Q_own_cra (Z : State) (o1 o2 : Addr) (h0 : Heap) (n0 : Nat) (v : Option Value) (h : Heap) (L : List Loc) : Prop := v = some (.ref o2) ∧ Fr n0 L ∧ h = h0
theorem own_d4_0 : decode jdk_2395_method_8_code 0 = .ok (.aload_n 0, 1) := by decide +kernel
theorem own_d4_1 : decode jdk_2395_method_8_code 1 = .ok (.getfield 124, 3) := by decide +kernel
theorem own_d4_4 : decode jdk_2395_method_8_code 4 = .ok (.areturn, 1) := by decide +kernel
theorem own_pn_java_time_temporal_ChronoField : plainName "java/time/temporal/ChronoField" = true := by first | (simp [plainName, overriddenIn]; done) | decide +kernel
set_option maxRecDepth 65536 in
set_option maxHeartbeats 40000000 in
theorem own_cra (l : Launch) (Z : State) (a0 : Array Value) (hw : ∀ d ∈ tables_1, d.before a0 Z = true) (ws : List Jvm.Cond) (o1 o2 : Addr) (h0 : Heap) (n0 : Nat) (Z0 : n0 ≤ h0.size) (F0 : Fld Z h0 o1 "java/time/temporal/ChronoField" "range" "Ljava/time/temporal/ValueRange;" (.ref o2)) :
    MetFree l (⟨"java/time/temporal/ChronoField", "range", "()Ljava/time/temporal/ValueRange;"⟩ : MethodName) (head1 (Jvm.Cond.code (⟨"java/time/temporal/ChronoField", "range", "()Ljava/time/temporal/ValueRange;"⟩ : MethodName) jdk_2395_method_8_code 1 (some (.object "java/time/temporal/ValueRange")) :: ws) ({ frames := 0, cells := 0, slots := 0, locals := 0 } : Room)) (fun a U => a = #[(.ref o1)] ∧ Z.Warmed39 U.vm ∧ U.heap = h0) (fun _ _ _ _ _ => True) (fun _ U o U' => ∃ v L, o = .returned v ∧ Q_own_cra Z o1 o2 h0 n0 v U'.heap L ∧ FrameEnd U o U' L ({ frames := 0, cells := 0, slots := 0, locals := 0 } : Room).cells ({ frames := 0, cells := 0, slots := 0, locals := 0 } : Room).slots) := by
  refine MetFree.of_bodySF (plainFor_of_name own_pn_java_time_temporal_ChronoField) hisR ?_
  intro p e s m args below meth c s₁ Bd hml0 hP hK
  obtain ⟨rfl, hZ, hh⟩ := hP
  have hx := Bd.exec
  have hby := Bd.bytes
  have hml : c.maxLocals = 1 := hml0
  have hown : s.vm.findClass "java/time/temporal/ChronoField" = some m.cls := findClass_of_methodNamed Bd.named
  have hnm := (name_of_methodNamed Bd.named Bd.method).1
  have hlk : meth.locks = false := BodyLoose.notSynchronized Bd
  have X0 : Stand p l e ({ frames := 0, cells := 0, slots := 0, locals := 0 } : Room) s m #[(.ref o1)] below meth c s₁ [] 0 0 := Stand.of_body Bd
  have e0 : s₁.heap = h0 := by rw [← hh, Bd.state]; rfl
  have N0 := Fr.nil n0
  show own_Go p e below #[(.ref o1)] s (fun _ U o U' => ∃ v L, o = .returned v ∧ Q_own_cra Z o1 o2 h0 n0 v U'.heap L ∧ FrameEnd U o U' L ({ frames := 0, cells := 0, slots := 0, locals := 0 } : Room).cells ({ frames := 0, cells := 0, slots := 0, locals := 0 } : Room).slots) (s₁.setTop (entryFrame m #[(.ref o1)] 1))
  refine own_st (V := s₁.setTop (mkF m 0 #[.val (.ref o1)] [])) (fun t k => castTop (by first | (simp [entryFrame, mkF, argsToLocals, Value.category]; done) | rfl) k) ?_
  refine own_st (V := s₁.setTop (mkF m 1 #[.val (.ref o1)] [(.ref o1)])) (fun t k => XS.aloadN X0.here hx rfl (hb hby own_d4_0) rfl rfl k) ?_
  obtain ⟨T6, X6, e6, st6⟩ := getF X0 hx hZ hown (host := "") (Or.inl (hw _ (List.mem_of_getElem? (i := 24) rfl))) Via.refl e0 F0 (g := (mkF m 1 #[.val (.ref o1)] [(.ref o1)])) rfl rfl (hb hby own_d4_1)
  refine own_st (V := T6.setTop (mkF m 4 #[.val (.ref o1)] [(.ref o2)])) (fun t k => st6 _ k) ?_
  exact own_ret X6 hx hlk Bd.returns rfl (Or.inr (Or.inr (Or.inr (Or.inr ⟨rfl, rfl, rfl⟩)))) (hb hby own_d4_4) (by decide) (by decide) (by show Q_own_cra Z o1 o2 h0 n0 _ T6.heap _; rw [e6]; exact ⟨rfl, N0, rfl⟩)
def Q_own_ccv (Z : State) (o1 o2 : Addr) (q1 f1 f2 : Int64) (h0 : Heap) (n0 : Nat) (v : Option Value) (h : Heap) (L : List Loc) : Prop := v = some (.long q1) ∧ Fr n0 L ∧ h = h0
theorem own_d3_0 : decode jdk_2395_method_11_code 0 = .ok (.aload_n 0, 1) := by decide +kernel
theorem own_d3_1 : decode jdk_2395_method_11_code 1 = .ok (.invokevirtual 190, 3) := by decide +kernel
theorem own_pd2 : parseMethodDescriptor "()Ljava/time/temporal/ValueRange;" = some ⟨[], some (.object "java/time/temporal/ValueRange")⟩ := by decide +kernel
theorem own_d3_4 : decode jdk_2395_method_11_code 4 = .ok (.lload_n 1, 1) := by decide +kernel
theorem own_d3_5 : decode jdk_2395_method_11_code 5 = .ok (.aload_n 0, 1) := by decide +kernel
theorem own_d3_6 : decode jdk_2395_method_11_code 6 = .ok (.invokevirtual 193, 3) := by decide +kernel
theorem own_pd3 : parseMethodDescriptor "(JLjava/time/temporal/TemporalField;)J" = some ⟨[.long, (.object "java/time/temporal/TemporalField")], some .long⟩ := by decide +kernel
theorem own_d3_9 : decode jdk_2395_method_11_code 9 = .ok (.lreturn, 1) := by decide +kernel
set_option maxRecDepth 65536 in
set_option maxHeartbeats 40000000 in
theorem own_ccv (l : Launch) (Z : State) (a0 : Array Value) (hw : ∀ d ∈ tables_1, d.before a0 Z = true) (ws : List Jvm.Cond) (o1 o2 : Addr) (q1 f1 f2 : Int64) (h0 : Heap) (n0 : Nat) (Z0 : n0 ≤ h0.size) (E1 : Exa Z h0 o1 "java/time/temporal/ChronoField") (F0 : Fld Z h0 o1 "java/time/temporal/ChronoField" "range" "Ljava/time/temporal/ValueRange;" (.ref o2)) (E2 : Exa Z h0 o2 "java/time/temporal/ValueRange") (F1 : Fld Z h0 o2 "java/time/temporal/ValueRange" "minSmallest" "J" (.long f1)) (F2 : Fld Z h0 o2 "java/time/temporal/ValueRange" "maxLargest" "J" (.long f2)) (ha : ¬ (q1.toInt < f1.toInt)) (hub : ¬ (f2.toInt < q1.toInt)) :
    MetFree l (⟨"java/time/temporal/ChronoField", "checkValidValue", "(J)J"⟩ : MethodName) (head1 (Jvm.Cond.code (⟨"java/time/temporal/ChronoField", "checkValidValue", "(J)J"⟩ : MethodName) jdk_2395_method_11_code 3 (some .long) :: ws) ({ frames := 3, cells := 0, slots := 0, locals := 43 } : Room)) (fun a U => a = #[(.ref o1), (.long q1)] ∧ Z.Warmed39 U.vm ∧ U.heap = h0) (fun _ _ _ _ _ => True) (fun _ U o U' => ∃ v L, o = .returned v ∧ Q_own_ccv Z o1 o2 q1 f1 f2 h0 n0 v U'.heap L ∧ FrameEnd U o U' L ({ frames := 3, cells := 0, slots := 0, locals := 43 } : Room).cells ({ frames := 3, cells := 0, slots := 0, locals := 43 } : Room).slots) := by
  refine MetFree.of_bodySF (plainFor_of_name own_pn_java_time_temporal_ChronoField) hisR ?_
  intro p e s m args below meth c s₁ Bd hml0 hP hK
  obtain ⟨rfl, hZ, hh⟩ := hP
  have hx := Bd.exec
  have hby := Bd.bytes
  have hml : c.maxLocals = 3 := hml0
  have hown : s.vm.findClass "java/time/temporal/ChronoField" = some m.cls := findClass_of_methodNamed Bd.named
  have hnm := (name_of_methodNamed Bd.named Bd.method).1
  have hlk : meth.locks = false := BodyLoose.notSynchronized Bd
  have X0 : Stand p l e ({ frames := 3, cells := 0, slots := 0, locals := 43 } : Room) s m #[(.ref o1), (.long q1)] below meth c s₁ [] 0 0 := Stand.of_body Bd
  have e0 : s₁.heap = h0 := by rw [← hh, Bd.state]; rfl
  have N0 := Fr.nil n0
  show own_Go p e below #[(.ref o1), (.long q1)] s (fun _ U o U' => ∃ v L, o = .returned v ∧ Q_own_ccv Z o1 o2 q1 f1 f2 h0 n0 v U'.heap L ∧ FrameEnd U o U' L ({ frames := 3, cells := 0, slots := 0, locals := 43 } : Room).cells ({ frames := 3, cells := 0, slots := 0, locals := 43 } : Room).slots) (s₁.setTop (entryFrame m #[(.ref o1), (.long q1)] 3))
  refine own_st (V := s₁.setTop (mkF m 0 #[.val (.ref o1), .val (.long q1), .second] [])) (fun t k => castTop (by first | (simp [entryFrame, mkF, argsToLocals, Value.category]; done) | rfl) k) ?_
  refine own_st (V := s₁.setTop (mkF m 1 #[.val (.ref o1), .val (.long q1), .second] [(.ref o1)])) (fun t k => XS.aloadN X0.here hx rfl (hb hby own_d3_0) rfl rfl k) ?_
  obtain ⟨cq7, kq7, q7a, q7b, q7c⟩ := isOf hZ e0 E1
  obtain ⟨_, _, ⟨T7, L7, k7, n7⟩, -, X7, ⟨Lc7, hQ7, l7, y7, z7⟩, st7⟩ := X0.virtualBack hx (y := (⟨"java/time/temporal/ChronoField", "range", "()Ljava/time/temporal/ValueRange;"⟩ : MethodName)) (z := (⟨"java/time/temporal/ChronoField", "range", "()Ljava/time/temporal/ValueRange;"⟩ : MethodName)) hown (mvT hZ (hw _ (List.mem_of_getElem? (i := 19) rfl))) (mvT hZ (hw _ (List.mem_of_getElem? (i := 20) rfl))) (notFace_of_selects (args := #[]) (mvT hZ (hw _ (List.mem_of_getElem? (i := 22) rfl)))) (mvT hZ (hw _ (List.mem_of_getElem? (i := 22) rfl))) (mvT hZ (hw _ (List.mem_of_getElem? (i := 21) rfl))) (by decide) (backOf (W := 0) (own_cra l Z a0 hw [] o1 o2 h0 n0 Z0 F0) hZ (hw _ (List.mem_of_getElem? (i := 23) rfl)) (hw _ (List.mem_of_getElem? (i := 13) rfl)) (by decide) (by decide)) q7a q7c (g := (mkF m 1 #[.val (.ref o1), .val (.long q1), .second] [(.ref o1)])) rfl (by rw [hml]; rfl) (Steps.refl _) (argsL := []) (rest := []) (lenOf own_pd2 rfl) rfl (by show 2 * 0 + _ ≤ _; exact Nat.le_of_eq rfl) (hb hby own_d3_1) (fun _ _ => ⟨rfl, e0, (by decide : 0 + 0 ≤ _), (by decide : 0 + 0 ≤ _)⟩)
  dsimp only [Pt.U, Pt.locs, Pt.cells, Pt.slots] at X7 l7 y7 z7 st7 hQ7
  subst l7 y7 z7
  obtain ⟨rfl, N7q, e7⟩ := hQ7
  have N7 := Fr.app N0 N7q
  refine own_st (V := T7.setTop (mkF m 4 #[.val (.ref o1), .val (.long q1), .second] [(.ref o2)])) (fun t k => st7.trans k) ?_
  refine own_st (V := T7.setTop (mkF m 5 #[.val (.ref o1), .val (.long q1), .second] [(.long q1), (.ref o2)])) (fun t k => XS.lloadN X7.here hx rfl (hb hby own_d3_4) rfl k) ?_
  refine own_st (V := T7.setTop (mkF m 6 #[.val (.ref o1), .val (.long q1), .second] [(.ref o1), (.long q1), (.ref o2)])) (fun t k => XS.aloadN X7.here hx rfl (hb hby own_d3_5) rfl rfl k) ?_
  obtain ⟨cq8, kq8, q8a, q8b, q8c⟩ := isOf hZ e7 E2
  obtain ⟨_, _, ⟨T8, L8, k8, n8⟩, -, X8, ⟨Lc8, hQ8, l8, y8, z8⟩, st8⟩ := X7.virtualBack hx (y := (⟨"java/time/temporal/ValueRange", "checkValidValue", "(JLjava/time/temporal/TemporalField;)J"⟩ : MethodName)) (z := (⟨"java/time/temporal/ValueRange", "checkValidValue", "(JLjava/time/temporal/TemporalField;)J"⟩ : MethodName)) hown (mvT hZ (hw _ (List.mem_of_getElem? (i := 26) rfl))) (mvT hZ (hw _ (List.mem_of_getElem? (i := 27) rfl))) (notFace_of_selects (args := #[]) (mvT hZ (hw _ (List.mem_of_getElem? (i := 29) rfl)))) (mvT hZ (hw _ (List.mem_of_getElem? (i := 29) rfl))) (mvT hZ (hw _ (List.mem_of_getElem? (i := 28) rfl))) (by decide) (backOf (W := 0) (own_vcv l Z a0 hw [] o2 o1 q1 f1 f2 h0 n0 Z0 F1 F2 E2 ha hub) hZ (hw _ (List.mem_of_getElem? (i := 31) rfl)) (hw _ (List.mem_of_getElem? (i := 30) rfl)) (by decide) (by decide)) q8a q8c (g := (mkF m 6 #[.val (.ref o1), .val (.long q1), .second] [(.ref o1), (.long q1), (.ref o2)])) rfl (by rw [hml]; rfl) (Steps.refl _) (argsL := [(.long q1), (.ref o1)]) (rest := []) (lenOf own_pd3 rfl) rfl (by show 2 * 0 + _ ≤ _; exact Nat.le_of_eq rfl) (hb hby own_d3_6) (fun _ _ => ⟨rfl, e7, (by decide : 0 + 0 ≤ _), (by decide : 0 + 0 ≤ _)⟩)
  dsimp only [Pt.U, Pt.locs, Pt.cells, Pt.slots] at X8 l8 y8 z8 st8 hQ8
  subst l8 y8 z8
  obtain ⟨rfl, N8q, e8⟩ := hQ8
  have N8 := Fr.app N7 N8q
  refine own_st (V := T8.setTop (mkF m 9 #[.val (.ref o1), .val (.long q1), .second] [(.long q1)])) (fun t k => st8.trans k) ?_
  exact own_ret X8 hx hlk Bd.returns rfl (Or.inr (Or.inl ⟨rfl, rfl, _, rfl⟩)) (hb hby own_d3_9) (by decide) (by decide) (by show Q_own_ccv Z o1 o2 q1 f1 f2 h0 n0 _ T8.heap _; rw [e8]; exact ⟨rfl, N8, rfl⟩)
def Q_own_ord (Z : State) (o1 : Addr) (h0 : Heap) (n0 : Nat) (v : Option Value) (h : Heap) (L : List Loc) : Prop := v = some (.int (2 : Int32)) ∧ Fr n0 L ∧ h = h0
theorem own_d11_0 : decode jdk_37_method_2_code 0 = .ok (.aload_n 0, 1) := by decide +kernel
theorem own_d11_1 : decode jdk_37_method_2_code 1 = .ok (.getfield 7, 3) := by decide +kernel
theorem own_d11_4 : decode jdk_37_method_2_code 4 = .ok (.ireturn, 1) := by decide +kernel
theorem own_pn_java_lang_Enum : plainName "java/lang/Enum" = true := by first | (simp [plainName, overriddenIn]; done) | decide +kernel
set_option maxRecDepth 65536 in
set_option maxHeartbeats 40000000 in
theorem own_ord (l : Launch) (Z : State) (a0 : Array Value) (hw : ∀ d ∈ tables_1, d.before a0 Z = true) (ws : List Jvm.Cond) (o1 : Addr) (h0 : Heap) (n0 : Nat) (Z0 : n0 ≤ h0.size) (F1 : Fld Z h0 o1 "java/lang/Enum" "ordinal" "I" (.int (2 : Int32))) :
    MetFree l (⟨"java/lang/Enum", "ordinal", "()I"⟩ : MethodName) (head1 (Jvm.Cond.code (⟨"java/lang/Enum", "ordinal", "()I"⟩ : MethodName) jdk_37_method_2_code 1 (some .int) :: ws) ({ frames := 0, cells := 0, slots := 0, locals := 0 } : Room)) (fun a U => a = #[(.ref o1)] ∧ Z.Warmed39 U.vm ∧ U.heap = h0) (fun _ _ _ _ _ => True) (fun _ U o U' => ∃ v L, o = .returned v ∧ Q_own_ord Z o1 h0 n0 v U'.heap L ∧ FrameEnd U o U' L ({ frames := 0, cells := 0, slots := 0, locals := 0 } : Room).cells ({ frames := 0, cells := 0, slots := 0, locals := 0 } : Room).slots) := by
  refine MetFree.of_bodySF (plainFor_of_name own_pn_java_lang_Enum) hisR ?_
  intro p e s m args below meth c s₁ Bd hml0 hP hK
  obtain ⟨rfl, hZ, hh⟩ := hP
  have hx := Bd.exec
  have hby := Bd.bytes
  have hml : c.maxLocals = 1 := hml0
  have hown : s.vm.findClass "java/lang/Enum" = some m.cls := findClass_of_methodNamed Bd.named
  have hnm := (name_of_methodNamed Bd.named Bd.method).1
  have hlk : meth.locks = false := BodyLoose.notSynchronized Bd
  have X0 : Stand p l e ({ frames := 0, cells := 0, slots := 0, locals := 0 } : Room) s m #[(.ref o1)] below meth c s₁ [] 0 0 := Stand.of_body Bd
  have e0 : s₁.heap = h0 := by rw [← hh, Bd.state]; rfl
  have N0 := Fr.nil n0
  show own_Go p e below #[(.ref o1)] s (fun _ U o U' => ∃ v L, o = .returned v ∧ Q_own_ord Z o1 h0 n0 v U'.heap L ∧ FrameEnd U o U' L ({ frames := 0, cells := 0, slots := 0, locals := 0 } : Room).cells ({ frames := 0, cells := 0, slots := 0, locals := 0 } : Room).slots) (s₁.setTop (entryFrame m #[(.ref o1)] 1))
  refine own_st (V := s₁.setTop (mkF m 0 #[.val (.ref o1)] [])) (fun t k => castTop (by first | (simp [entryFrame, mkF, argsToLocals, Value.category]; done) | rfl) k) ?_
  refine own_st (V := s₁.setTop (mkF m 1 #[.val (.ref o1)] [(.ref o1)])) (fun t k => XS.aloadN X0.here hx rfl (hb hby own_d11_0) rfl rfl k) ?_
  obtain ⟨T9, X9, e9, st9⟩ := getF X0 hx hZ hown (host := "") (Or.inl (hw _ (List.mem_of_getElem? (i := 76) rfl))) Via.refl e0 F1 (g := (mkF m 1 #[.val (.ref o1)] [(.ref o1)])) rfl rfl (hb hby own_d11_1)
  refine own_st (V := T9.setTop (mkF m 4 #[.val (.ref o1)] [(.int (2 : Int32))])) (fun t k => st9 _ k) ?_
  exact own_ret X9 hx hlk Bd.returns rfl (Or.inl ⟨rfl, by simp, _, rfl⟩) (hb hby own_d11_4) (by decide) (by decide) (by show Q_own_ord Z o1 h0 n0 _ T9.heap _; rw [e9]; exact ⟨rfl, N0, rfl⟩)
def Q_own_gv (Z : State) (o1 : Addr) (h0 : Heap) (n0 : Nat) (v : Option Value) (h : Heap) (L : List Loc) : Prop := v = some (.int (3 : Int32)) ∧ Fr n0 L ∧ h = h0
theorem own_d10_0 : decode jdk_2329_method_6_code 0 = .ok (.aload_n 0, 1) := by decide +kernel
theorem own_d10_1 : decode jdk_2329_method_6_code 1 = .ok (.invokevirtual 141, 3) := by decide +kernel
theorem own_pd4 : parseMethodDescriptor "()I" = some ⟨[], some .int⟩ := by decide +kernel
theorem own_d10_4 : decode jdk_2329_method_6_code 4 = .ok (.iconst 1, 1) := by decide +kernel
theorem own_d10_5 : decode jdk_2329_method_6_code 5 = .ok (.iadd, 1) := by decide +kernel
theorem own_d10_6 : decode jdk_2329_method_6_code 6 = .ok (.ireturn, 1) := by decide +kernel
theorem own_pn_java_time_Month : plainName "java/time/Month" = true := by first | (simp [plainName, overriddenIn]; done) | decide +kernel
set_option maxRecDepth 65536 in
set_option maxHeartbeats 40000000 in
theorem own_gv (l : Launch) (Z : State) (a0 : Array Value) (hw : ∀ d ∈ tables_1, d.before a0 Z = true) (ws : List Jvm.Cond) (o1 : Addr) (h0 : Heap) (n0 : Nat) (Z0 : n0 ≤ h0.size) (E1 : Exa Z h0 o1 "java/time/Month") (F1 : Fld Z h0 o1 "java/lang/Enum" "ordinal" "I" (.int (2 : Int32))) :
    MetFree l (⟨"java/time/Month", "getValue", "()I"⟩ : MethodName) (head1 (Jvm.Cond.code (⟨"java/time/Month", "getValue", "()I"⟩ : MethodName) jdk_2329_method_6_code 1 (some .int) :: ws) ({ frames := 1, cells := 0, slots := 0, locals := 12 } : Room)) (fun a U => a = #[(.ref o1)] ∧ Z.Warmed39 U.vm ∧ U.heap = h0) (fun _ _ _ _ _ => True) (fun _ U o U' => ∃ v L, o = .returned v ∧ Q_own_gv Z o1 h0 n0 v U'.heap L ∧ FrameEnd U o U' L ({ frames := 1, cells := 0, slots := 0, locals := 12 } : Room).cells ({ frames := 1, cells := 0, slots := 0, locals := 12 } : Room).slots) := by
  refine MetFree.of_bodySF (plainFor_of_name own_pn_java_time_Month) hisR ?_
  intro p e s m args below meth c s₁ Bd hml0 hP hK
  obtain ⟨rfl, hZ, hh⟩ := hP
  have hx := Bd.exec
  have hby := Bd.bytes
  have hml : c.maxLocals = 1 := hml0
  have hown : s.vm.findClass "java/time/Month" = some m.cls := findClass_of_methodNamed Bd.named
  have hnm := (name_of_methodNamed Bd.named Bd.method).1
  have hlk : meth.locks = false := BodyLoose.notSynchronized Bd
  have X0 : Stand p l e ({ frames := 1, cells := 0, slots := 0, locals := 12 } : Room) s m #[(.ref o1)] below meth c s₁ [] 0 0 := Stand.of_body Bd
  have e0 : s₁.heap = h0 := by rw [← hh, Bd.state]; rfl
  have N0 := Fr.nil n0
  show own_Go p e below #[(.ref o1)] s (fun _ U o U' => ∃ v L, o = .returned v ∧ Q_own_gv Z o1 h0 n0 v U'.heap L ∧ FrameEnd U o U' L ({ frames := 1, cells := 0, slots := 0, locals := 12 } : Room).cells ({ frames := 1, cells := 0, slots := 0, locals := 12 } : Room).slots) (s₁.setTop (entryFrame m #[(.ref o1)] 1))
  refine own_st (V := s₁.setTop (mkF m 0 #[.val (.ref o1)] [])) (fun t k => castTop (by first | (simp [entryFrame, mkF, argsToLocals, Value.category]; done) | rfl) k) ?_
  refine own_st (V := s₁.setTop (mkF m 1 #[.val (.ref o1)] [(.ref o1)])) (fun t k => XS.aloadN X0.here hx rfl (hb hby own_d10_0) rfl rfl k) ?_
  obtain ⟨cq10, kq10, q10a, q10b, q10c⟩ := isOf hZ e0 E1
  obtain ⟨_, _, ⟨T10, L10, k10, n10⟩, -, X10, ⟨Lc10, hQ10, l10, y10, z10⟩, st10⟩ := X0.virtualBackUp hx (x := (⟨"java/time/Month", "ordinal", "()I"⟩ : MethodName)) (y := (⟨"java/lang/Enum", "ordinal", "()I"⟩ : MethodName)) hown (mvT hZ (hw _ (List.mem_of_getElem? (i := 69) rfl))) (mvT hZ (hw _ (List.mem_of_getElem? (i := 70) rfl))) (mvT hZ (hw _ (List.mem_of_getElem? (i := 71) rfl))) (by decide) (mvT hZ (hw _ (List.mem_of_getElem? (i := 73) rfl))) (mvT hZ (hw _ (List.mem_of_getElem? (i := 72) rfl))) (backOf (W := 0) (own_ord l Z a0 hw [] o1 h0 n0 Z0 F1) hZ (hw _ (List.mem_of_getElem? (i := 75) rfl)) (hw _ (List.mem_of_getElem? (i := 74) rfl)) (by decide) (by decide)) q10a q10c (g := (mkF m 1 #[.val (.ref o1)] [(.ref o1)])) rfl (by rw [hml]; rfl) (Steps.refl _) (argsL := []) (rest := []) (lenOf own_pd4 rfl) rfl (by show 2 * 0 + _ ≤ _; exact Nat.le_of_eq rfl) (hb hby own_d10_1) (fun _ _ => ⟨rfl, e0, (by decide : 0 + 0 ≤ _), (by decide : 0 + 0 ≤ _)⟩)
  dsimp only [Pt.U, Pt.locs, Pt.cells, Pt.slots] at X10 l10 y10 z10 st10 hQ10
  subst l10 y10 z10
  obtain ⟨rfl, N10q, e10⟩ := hQ10
  have N10 := Fr.app N0 N10q
  refine own_st (V := T10.setTop (mkF m 4 #[.val (.ref o1)] [(.int (2 : Int32))])) (fun t k => st10.trans k) ?_
  refine own_st (V := T10.setTop (mkF m 5 #[.val (.ref o1)] [(.int (1 : Int32)), (.int (2 : Int32))])) (fun t k => XS.iconst X10.here hx rfl (hb hby own_d10_4) k) ?_
  refine own_st (V := T10.setTop (mkF m 6 #[.val (.ref o1)] [(.int ((2 : Int32) + (1 : Int32)))])) (fun t k => XS.iadd X10.here hx rfl (hb hby own_d10_5) rfl k) ?_
  rw [show ((2 : Int32) + (1 : Int32)) = (3 : Int32) from by decide +kernel]
  exact own_ret X10 hx hlk Bd.returns rfl (Or.inl ⟨rfl, by simp, _, rfl⟩) (hb hby own_d10_6) (by decide) (by decide) (by show Q_own_gv Z o1 h0 n0 _ T10.heap _; rw [e10]; exact ⟨rfl, N10, rfl⟩)
def Q_own_rnn (Z : State) (o1 o2 : Addr) (h0 : Heap) (n0 : Nat) (v : Option Value) (h : Heap) (L : List Loc) : Prop := v = some (.ref o1) ∧ Fr n0 L ∧ h = h0
theorem own_d9_0 : decode jdk_31_method_11_code 0 = .ok (.aload_n 0, 1) := by decide +kernel
theorem own_d9_1 : decode jdk_31_method_11_code 1 = .ok (.ifnonnull 12, 3) := by decide +kernel
theorem own_d9_13 : decode jdk_31_method_11_code 13 = .ok (.aload_n 0, 1) := by decide +kernel
theorem own_d9_14 : decode jdk_31_method_11_code 14 = .ok (.areturn, 1) := by decide +kernel
theorem own_pn_java_util_Objects : plainName "java/util/Objects" = true := by first | (simp [plainName, overriddenIn]; done) | decide +kernel
set_option maxRecDepth 65536 in
set_option maxHeartbeats 40000000 in
theorem own_rnn (l : Launch) (Z : State) (a0 : Array Value) (hw : ∀ d ∈ tables_1, d.before a0 Z = true) (ws : List Jvm.Cond) (o1 o2 : Addr) (h0 : Heap) (n0 : Nat) (Z0 : n0 ≤ h0.size) :
    MetFree l (⟨"java/util/Objects", "requireNonNull", "(Ljava/lang/Object;Ljava/lang/String;)Ljava/lang/Object;"⟩ : MethodName) (head1 (Jvm.Cond.code (⟨"java/util/Objects", "requireNonNull", "(Ljava/lang/Object;Ljava/lang/String;)Ljava/lang/Object;"⟩ : MethodName) jdk_31_method_11_code 2 (some (.object "java/lang/Object")) :: ws) ({ frames := 0, cells := 0, slots := 0, locals := 0 } : Room)) (fun a U => a = #[(.ref o1), (.ref o2)] ∧ Z.Warmed39 U.vm ∧ U.heap = h0) (fun _ _ _ _ _ => True) (fun _ U o U' => ∃ v L, o = .returned v ∧ Q_own_rnn Z o1 o2 h0 n0 v U'.heap L ∧ FrameEnd U o U' L ({ frames := 0, cells := 0, slots := 0, locals := 0 } : Room).cells ({ frames := 0, cells := 0, slots := 0, locals := 0 } : Room).slots) := by
  refine MetFree.of_bodySF (plainFor_of_name own_pn_java_util_Objects) hisR ?_
  intro p e s m args below meth c s₁ Bd hml0 hP hK
  obtain ⟨rfl, hZ, hh⟩ := hP
  have hx := Bd.exec
  have hby := Bd.bytes
  have hml : c.maxLocals = 2 := hml0
  have hown : s.vm.findClass "java/util/Objects" = some m.cls := findClass_of_methodNamed Bd.named
  have hnm := (name_of_methodNamed Bd.named Bd.method).1
  have hlk : meth.locks = false := BodyLoose.notSynchronized Bd
  have X0 : Stand p l e ({ frames := 0, cells := 0, slots := 0, locals := 0 } : Room) s m #[(.ref o1), (.ref o2)] below meth c s₁ [] 0 0 := Stand.of_body Bd
  have e0 : s₁.heap = h0 := by rw [← hh, Bd.state]; rfl
  have N0 := Fr.nil n0
  show own_Go p e below #[(.ref o1), (.ref o2)] s (fun _ U o U' => ∃ v L, o = .returned v ∧ Q_own_rnn Z o1 o2 h0 n0 v U'.heap L ∧ FrameEnd U o U' L ({ frames := 0, cells := 0, slots := 0, locals := 0 } : Room).cells ({ frames := 0, cells := 0, slots := 0, locals := 0 } : Room).slots) (s₁.setTop (entryFrame m #[(.ref o1), (.ref o2)] 2))
  refine own_st (V := s₁.setTop (mkF m 0 #[.val (.ref o1), .val (.ref o2)] [])) (fun t k => castTop (by first | (simp [entryFrame, mkF, argsToLocals, Value.category]; done) | rfl) k) ?_
  refine own_st (V := s₁.setTop (mkF m 1 #[.val (.ref o1), .val (.ref o2)] [(.ref o1)])) (fun t k => XS.aloadN X0.here hx rfl (hb hby own_d9_0) rfl rfl k) ?_
  refine own_st (V := s₁.setTop (mkF m 13 #[.val (.ref o1), .val (.ref o2)] [])) (fun t k => XS.ifnonnullYes X0.here hx rfl (pc0 := 1) (pc' := 13) rfl (hb hby own_d9_1) rfl (by decide) (by decide) k) ?_
  refine own_st (V := s₁.setTop (mkF m 14 #[.val (.ref o1), .val (.ref o2)] [(.ref o1)])) (fun t k => XS.aloadN X0.here hx rfl (hb hby own_d9_13) rfl rfl k) ?_
  exact own_ret X0 hx hlk Bd.returns rfl (Or.inr (Or.inr (Or.inr (Or.inr ⟨rfl, rfl, rfl⟩)))) (hb hby own_d9_14) (by decide) (by decide) (by show Q_own_rnn Z o1 o2 h0 n0 _ s₁.heap _; rw [e0]; exact ⟨rfl, N0, rfl⟩)
theorem own_sh {x : Int32} (h0 : 0 ≤ x.toInt) (h1 : x.toInt < 32768) : nar .short (x.toInt16.toInt32) = x := by
  show (x.toInt16.toInt32).toInt16.toInt32 = x
  have a := c_i2s x
  have b := c_i2s (x.toInt16.toInt32)
  exact Int32.toInt_inj.mp (by omega)
def Q_own_di (Z : State) (o1 : Addr) (q1 q2 q3 : Int32) (h0 : Heap) (n0 : Nat) (v : Option Value) (h : Heap) (L : List Loc) : Prop := v = none ∧ Fr n0 L ∧ Keep h0 h [o1] ∧ Exa Z h o1 "java/time/LocalDate" ∧ Fld Z h o1 "java/time/LocalDate" "year" "I" (.int q1) ∧ Fld Z h o1 "java/time/LocalDate" "month" "S" (.int q2) ∧ Fld Z h o1 "java/time/LocalDate" "day" "S" (.int q3)
theorem own_d13_0 : decode jdk_2323_method_14_code 0 = .ok (.aload_n 0, 1) := by decide +kernel
theorem own_d13_1 : decode jdk_2323_method_14_code 1 = .ok (.invokespecial 243, 3) := by decide +kernel
theorem own_d13_4 : decode jdk_2323_method_14_code 4 = .ok (.aload_n 0, 1) := by decide +kernel
theorem own_d13_5 : decode jdk_2323_method_14_code 5 = .ok (.iload_n 1, 1) := by decide +kernel
theorem own_d13_6 : decode jdk_2323_method_14_code 6 = .ok (.putfield 246, 3) := by decide +kernel
theorem own_d13_9 : decode jdk_2323_method_14_code 9 = .ok (.aload_n 0, 1) := by decide +kernel
theorem own_d13_10 : decode jdk_2323_method_14_code 10 = .ok (.iload_n 2, 1) := by decide +kernel
theorem own_d13_11 : decode jdk_2323_method_14_code 11 = .ok (.i2s, 1) := by decide +kernel
theorem own_d13_12 : decode jdk_2323_method_14_code 12 = .ok (.putfield 250, 3) := by decide +kernel
theorem own_d13_15 : decode jdk_2323_method_14_code 15 = .ok (.aload_n 0, 1) := by decide +kernel
theorem own_d13_16 : decode jdk_2323_method_14_code 16 = .ok (.iload_n 3, 1) := by decide +kernel
theorem own_d13_17 : decode jdk_2323_method_14_code 17 = .ok (.i2s, 1) := by decide +kernel
theorem own_d13_18 : decode jdk_2323_method_14_code 18 = .ok (.putfield 253, 3) := by decide +kernel
theorem own_d13_21 : decode jdk_2323_method_14_code 21 = .ok (.return_, 1) := by decide +kernel
theorem own_pn_java_time_LocalDate : plainName "java/time/LocalDate" = true := by first | (simp [plainName, overriddenIn]; done) | decide +kernel
set_option maxRecDepth 65536 in
set_option maxHeartbeats 40000000 in
theorem own_di (l : Launch) (Z : State) (a0 : Array Value) (hw : ∀ d ∈ tables_1, d.before a0 Z = true) (ws : List Jvm.Cond) (o1 : Addr) (q1 q2 q3 : Int32) (h0 : Heap) (n0 : Nat) (Z0 : n0 ≤ h0.size) (F1 : Fld Z h0 o1 "java/time/LocalDate" "year" "I" (.int (0 : Int32))) (F2 : Fld Z h0 o1 "java/time/LocalDate" "month" "S" (.int (0 : Int32))) (F3 : Fld Z h0 o1 "java/time/LocalDate" "day" "S" (.int (0 : Int32))) (E1 : Exa Z h0 o1 "java/time/LocalDate") (g1 : n0 ≤ o1) (hm0 : 0 ≤ q2.toInt) (hm1 : q2.toInt < 32768) (hd0 : 0 ≤ q3.toInt) (hd1 : q3.toInt < 32768) :
    MetFree l (⟨"java/time/LocalDate", "<init>", "(III)V"⟩ : MethodName) (head1 (Jvm.Cond.code (⟨"java/time/LocalDate", "<init>", "(III)V"⟩ : MethodName) jdk_2323_method_14_code 4 none :: ws) ({ frames := 1, cells := 0, slots := 0, locals := 12 } : Room)) (fun a U => a = #[(.ref o1), (.int q1), (.int q2), (.int q3)] ∧ Z.Warmed39 U.vm ∧ U.heap = h0) (fun _ _ _ _ _ => True) (fun _ U o U' => ∃ v L, o = .returned v ∧ Q_own_di Z o1 q1 q2 q3 h0 n0 v U'.heap L ∧ FrameEnd U o U' L ({ frames := 1, cells := 0, slots := 0, locals := 12 } : Room).cells ({ frames := 1, cells := 0, slots := 0, locals := 12 } : Room).slots) := by
  refine MetFree.of_bodySF (plainFor_of_name own_pn_java_time_LocalDate) hisR ?_
  intro p e s m args below meth c s₁ Bd hml0 hP hK
  obtain ⟨rfl, hZ, hh⟩ := hP
  have hx := Bd.exec
  have hby := Bd.bytes
  have hml : c.maxLocals = 4 := hml0
  have hown : s.vm.findClass "java/time/LocalDate" = some m.cls := findClass_of_methodNamed Bd.named
  have hnm := (name_of_methodNamed Bd.named Bd.method).1
  have hlk : meth.locks = false := BodyLoose.notSynchronized Bd
  have X0 : Stand p l e ({ frames := 1, cells := 0, slots := 0, locals := 12 } : Room) s m #[(.ref o1), (.int q1), (.int q2), (.int q3)] below meth c s₁ [] 0 0 := Stand.of_body Bd
  have e0 : s₁.heap = h0 := by rw [← hh, Bd.state]; rfl
  have N0 := Fr.nil n0
  show own_Go p e below #[(.ref o1), (.int q1), (.int q2), (.int q3)] s (fun _ U o U' => ∃ v L, o = .returned v ∧ Q_own_di Z o1 q1 q2 q3 h0 n0 v U'.heap L ∧ FrameEnd U o U' L ({ frames := 1, cells := 0, slots := 0, locals := 12 } : Room).cells ({ frames := 1, cells := 0, slots := 0, locals := 12 } : Room).slots) (s₁.setTop (entryFrame m #[(.ref o1), (.int q1), (.int q2), (.int q3)] 4))
  refine own_st (V := s₁.setTop (mkF m 0 #[.val (.ref o1), .val (.int q1), .val (.int q2), .val (.int q3)] [])) (fun t k => castTop (by first | (simp [entryFrame, mkF, argsToLocals, Value.category]; done) | rfl) k) ?_
  refine own_st (V := s₁.setTop (mkF m 1 #[.val (.ref o1), .val (.int q1), .val (.int q2), .val (.int q3)] [(.ref o1)])) (fun t k => XS.aloadN X0.here hx rfl (hb hby own_d13_0) rfl rfl k) ?_
  obtain ⟨T11, X11, e11, st11⟩ := initO X0 hx hZ hown (hw _ (List.mem_of_getElem? (i := 87) rfl)) (hw _ (List.mem_of_getElem? (i := 88) rfl)) (hw _ (List.mem_of_getElem? (i := 89) rfl)) e0 (g := (mkF m 1 #[.val (.ref o1), .val (.int q1), .val (.int q2), .val (.int q3)] [(.ref o1)])) rfl (by rw [hml]; rfl) rfl (hb hby own_d13_1) (by decide) (W := 0) (by show 2 * 0 + _ ≤ _; exact Nat.le_of_eq rfl) (by decide)
  refine own_st (V := T11.setTop (mkF m 4 #[.val (.ref o1), .val (.int q1), .val (.int q2), .val (.int q3)] [])) (fun t k => st11 _ k) ?_
  refine own_st (V := T11.setTop (mkF m 5 #[.val (.ref o1), .val (.int q1), .val (.int q2), .val (.int q3)] [(.ref o1)])) (fun t k => XS.aloadN X11.here hx rfl (hb hby own_d13_4) rfl rfl k) ?_
  refine own_st (V := T11.setTop (mkF m 6 #[.val (.ref o1), .val (.int q1), .val (.int q2), .val (.int q3)] [(.int q1), (.ref o1)])) (fun t k => XS.iloadN X11.here hx rfl (hb hby own_d13_5) rfl k) ?_
  obtain ⟨T12, h12, X12, e12, W12, st12⟩ := putF X11 hx hZ hown (host := "") (Or.inl (hw _ (List.mem_of_getElem? (i := 90) rfl))) Via.refl e11 F1 E1 (Or.inr ⟨(hw _ (List.mem_of_getElem? (i := 91) rfl)), rfl, hnm⟩) (hw _ (List.mem_of_getElem? (i := 82) rfl)) (ty := .int) (by decide) rfl rfl (g := (mkF m 6 #[.val (.ref o1), .val (.int q1), .val (.int q2), .val (.int q3)] [(.int q1), (.ref o1)])) rfl rfl (hb hby own_d13_6)
  have N12 := Fr.snoc X12 N0 g1
  have Z0_12 : n0 ≤ h12.size := by rw [W12.size]; exact Z0
  have F12_w := F1.same W12
  have Kc12 := (Keep.refl h0 [o1]).wr W12 (Or.inl (List.mem_of_getElem? (i := 0) rfl))
  have F12_o1_month := F2.other W12 (Or.inr (slot_ne (Or.inr (hw _ (List.mem_of_getElem? (i := 93) rfl))) (Or.inr (hw _ (List.mem_of_getElem? (i := 91) rfl))) (by decide) (t := .short) (t' := .int) (by decide) (by decide)))
  have F12_o1_day := F3.other W12 (Or.inr (slot_ne (Or.inr (hw _ (List.mem_of_getElem? (i := 95) rfl))) (Or.inr (hw _ (List.mem_of_getElem? (i := 91) rfl))) (by decide) (t := .short) (t' := .int) (by decide) (by decide)))
  have Ex12_o1 := E1.wr W12
  refine own_st (V := T12.setTop (mkF m 9 #[.val (.ref o1), .val (.int q1), .val (.int q2), .val (.int q3)] [])) (fun t k => st12 _ k) ?_
  refine own_st (V := T12.setTop (mkF m 10 #[.val (.ref o1), .val (.int q1), .val (.int q2), .val (.int q3)] [(.ref o1)])) (fun t k => XS.aloadN X12.here hx rfl (hb hby own_d13_9) rfl rfl k) ?_
  refine own_st (V := T12.setTop (mkF m 11 #[.val (.ref o1), .val (.int q1), .val (.int q2), .val (.int q3)] [(.int q2), (.ref o1)])) (fun t k => XS.iloadN X12.here hx rfl (hb hby own_d13_10) rfl k) ?_
  refine own_st (V := T12.setTop (mkF m 12 #[.val (.ref o1), .val (.int q1), .val (.int q2), .val (.int q3)] [(.int (q2.toInt16.toInt32)), (.ref o1)])) (fun t k => XS.i2s X12.here hx rfl (hb hby own_d13_11) rfl k) ?_
  obtain ⟨T13, h13, X13, e13, W13, st13⟩ := putFN X12 hx hZ hown (hw _ (List.mem_of_getElem? (i := 92) rfl)) Via.refl e12 F12_o1_month Ex12_o1 (Or.inr ⟨(hw _ (List.mem_of_getElem? (i := 93) rfl)), rfl, hnm⟩) (hw _ (List.mem_of_getElem? (i := 82) rfl)) (ty := .short) (v' := (.int (nar .short (q2.toInt16.toInt32)))) (by decide) rfl (fits_nar_short _) (g := (mkF m 12 #[.val (.ref o1), .val (.int q1), .val (.int q2), .val (.int q3)] [(.int (q2.toInt16.toInt32)), (.ref o1)])) rfl rfl (hb hby own_d13_12)
  have N13 := Fr.snoc X13 N12 g1
  have Z0_13 : n0 ≤ h13.size := by rw [W13.size]; exact Z0_12
  have F13_w := F12_o1_month.same W13
  have Kc13 := Kc12.wr W13 (Or.inl (List.mem_of_getElem? (i := 0) rfl))
  have F13_o1_year := F12_w.other W13 (Or.inr (slot_ne (Or.inr (hw _ (List.mem_of_getElem? (i := 91) rfl))) (Or.inr (hw _ (List.mem_of_getElem? (i := 93) rfl))) (by decide) (t := .int) (t' := .short) (by decide) (by decide)))
  have F13_o1_day := F12_o1_day.other W13 (Or.inr (slot_ne (Or.inr (hw _ (List.mem_of_getElem? (i := 95) rfl))) (Or.inr (hw _ (List.mem_of_getElem? (i := 93) rfl))) (by decide) (t := .short) (t' := .short) (by decide) (by decide)))
  have Ex13_o1 := Ex12_o1.wr W13
  refine own_st (V := T13.setTop (mkF m 15 #[.val (.ref o1), .val (.int q1), .val (.int q2), .val (.int q3)] [])) (fun t k => st13 _ k) ?_
  refine own_st (V := T13.setTop (mkF m 16 #[.val (.ref o1), .val (.int q1), .val (.int q2), .val (.int q3)] [(.ref o1)])) (fun t k => XS.aloadN X13.here hx rfl (hb hby own_d13_15) rfl rfl k) ?_
  refine own_st (V := T13.setTop (mkF m 17 #[.val (.ref o1), .val (.int q1), .val (.int q2), .val (.int q3)] [(.int q3), (.ref o1)])) (fun t k => XS.iloadN X13.here hx rfl (hb hby own_d13_16) rfl k) ?_
  refine own_st (V := T13.setTop (mkF m 18 #[.val (.ref o1), .val (.int q1), .val (.int q2), .val (.int q3)] [(.int (q3.toInt16.toInt32)), (.ref o1)])) (fun t k => XS.i2s X13.here hx rfl (hb hby own_d13_17) rfl k) ?_
  obtain ⟨T14, h14, X14, e14, W14, st14⟩ := putFN X13 hx hZ hown (hw _ (List.mem_of_getElem? (i := 94) rfl)) Via.refl e13 F13_o1_day Ex13_o1 (Or.inr ⟨(hw _ (List.mem_of_getElem? (i := 95) rfl)), rfl, hnm⟩) (hw _ (List.mem_of_getElem? (i := 82) rfl)) (ty := .short) (v' := (.int (nar .short (q3.toInt16.toInt32)))) (by decide) rfl (fits_nar_short _) (g := (mkF m 18 #[.val (.ref o1), .val (.int q1), .val (.int q2), .val (.int q3)] [(.int (q3.toInt16.toInt32)), (.ref o1)])) rfl rfl (hb hby own_d13_18)
  have N14 := Fr.snoc X14 N13 g1
  have Z0_14 : n0 ≤ h14.size := by rw [W14.size]; exact Z0_13
  have F14_w := F13_o1_day.same W14
  have Kc14 := Kc13.wr W14 (Or.inl (List.mem_of_getElem? (i := 0) rfl))
  have F14_o1_year := F13_o1_year.other W14 (Or.inr (slot_ne (Or.inr (hw _ (List.mem_of_getElem? (i := 91) rfl))) (Or.inr (hw _ (List.mem_of_getElem? (i := 95) rfl))) (by decide) (t := .int) (t' := .short) (by decide) (by decide)))
  have F14_o1_month := F13_w.other W14 (Or.inr (slot_ne (Or.inr (hw _ (List.mem_of_getElem? (i := 93) rfl))) (Or.inr (hw _ (List.mem_of_getElem? (i := 95) rfl))) (by decide) (t := .short) (t' := .short) (by decide) (by decide)))
  have Ex14_o1 := Ex13_o1.wr W14
  refine own_st (V := T14.setTop (mkF m 21 #[.val (.ref o1), .val (.int q1), .val (.int q2), .val (.int q3)] [])) (fun t k => st14 _ k) ?_
  exact own_ret0 X14 hx hlk Bd.returns (hb hby own_d13_21) (by decide) (by decide) (by show Q_own_di Z o1 q1 q2 q3 h0 n0 _ T14.heap _; rw [e14]; exact ⟨rfl, N14, Kc14, Ex14_o1, F14_o1_year, (by rw [← own_sh hm0 hm1]; exact F14_o1_month), (by rw [← own_sh hd0 hd1]; exact F14_w)⟩)
def own_W (Z : State) (cy ry cd rd ce re mm iso : Addr) : Prop := Sta Z Z.heap "java/time/temporal/ChronoField" "YEAR" "Ljava/time/temporal/ChronoField;" (.ref cy) ∧ Exa Z Z.heap cy "java/time/temporal/ChronoField" ∧ Fld Z Z.heap cy "java/time/temporal/ChronoField" "range" "Ljava/time/temporal/ValueRange;" (.ref ry) ∧ Exa Z Z.heap ry "java/time/temporal/ValueRange" ∧ Fld Z Z.heap ry "java/time/temporal/ValueRange" "minSmallest" "J" (.long (-999999999 : Int64)) ∧ Fld Z Z.heap ry "java/time/temporal/ValueRange" "maxLargest" "J" (.long (999999999 : Int64)) ∧ Sta Z Z.heap "java/time/temporal/ChronoField" "DAY_OF_MONTH" "Ljava/time/temporal/ChronoField;" (.ref cd) ∧ Exa Z Z.heap cd "java/time/temporal/ChronoField" ∧ Fld Z Z.heap cd "java/time/temporal/ChronoField" "range" "Ljava/time/temporal/ValueRange;" (.ref rd) ∧ Exa Z Z.heap rd "java/time/temporal/ValueRange" ∧ Fld Z Z.heap rd "java/time/temporal/ValueRange" "minSmallest" "J" (.long (1 : Int64)) ∧ Fld Z Z.heap rd "java/time/temporal/ValueRange" "maxLargest" "J" (.long (31 : Int64)) ∧ Sta Z Z.heap "java/time/temporal/ChronoField" "EPOCH_DAY" "Ljava/time/temporal/ChronoField;" (.ref ce) ∧ Exa Z Z.heap ce "java/time/temporal/ChronoField" ∧ Fld Z Z.heap ce "java/time/temporal/ChronoField" "range" "Ljava/time/temporal/ValueRange;" (.ref re) ∧ Exa Z Z.heap re "java/time/temporal/ValueRange" ∧ Fld Z Z.heap re "java/time/temporal/ValueRange" "minSmallest" "J" (.long (-365243219162 : Int64)) ∧ Fld Z Z.heap re "java/time/temporal/ValueRange" "maxLargest" "J" (.long (365241780471 : Int64)) ∧ Sta Z Z.heap "java/time/Month" "MARCH" "Ljava/time/Month;" (.ref mm) ∧ Exa Z Z.heap mm "java/time/Month" ∧ Fld Z Z.heap mm "java/lang/Enum" "ordinal" "I" (.int (2 : Int32)) ∧ Sta Z Z.heap "java/time/chrono/IsoChronology" "INSTANCE" "Ljava/time/chrono/IsoChronology;" (.ref iso) ∧ Exa Z Z.heap iso "java/time/chrono/IsoChronology"
theorem own_eo {Z : State} {n0 : Nat} {h : Heap} {a : Addr} {C : String} (O : Old Z n0 h) (S : Exa Z Z.heap a C) : Exa Z h a C := by
  obtain ⟨cell, k, h1, r⟩ := S
  exact ⟨cell, k, O.2.2 _ _ h1, r⟩
theorem own_fo {Z : State} {n0 : Nat} {h : Heap} {a : Addr} {C n d : String} {v : Value} (O : Old Z n0 h) (S : Fld Z Z.heap a C n d v) : Fld Z h a C n d v := by
  obtain ⟨cell, cf, k, i, f, h1, r⟩ := S
  exact ⟨cell, cf, k, i, f, O.2.2 _ _ h1, r⟩
theorem own_wS {Z : State} {a0 : Array Value} (hw : ∀ d ∈ tables_1, d.before a0 Z = true) : ∀ a ∈ Bundle.stringAtoms, a.before a0 Z = true := by
  intro a h
  simp only [Bundle.stringAtoms, List.mem_cons, List.not_mem_nil, or_false] at h
  rcases h with rfl | rfl | rfl | rfl | rfl | rfl | rfl
  · exact (hw _ (List.mem_of_getElem? (i := 52) rfl))
  · exact (hw _ (List.mem_of_getElem? (i := 53) rfl))
  · exact (hw _ (List.mem_of_getElem? (i := 54) rfl))
  · exact (hw _ (List.mem_of_getElem? (i := 55) rfl))
  · exact (hw _ (List.mem_of_getElem? (i := 56) rfl))
  · exact (hw _ (List.mem_of_getElem? (i := 57) rfl))
  · exact (hw _ (List.mem_of_getElem? (i := 58) rfl))
def Q_own_cr (Z : State) (y : Int32) (h0 : Heap) (n0 : Nat) (v : Option Value) (h : Heap) (L : List Loc) : Prop := ∃ b, v = some (.ref b) ∧ Fr n0 L ∧ Keep h0 h [] ∧ Exa Z h b "java/time/LocalDate" ∧ Fld Z h b "java/time/LocalDate" "year" "I" (.int y) ∧ Fld Z h b "java/time/LocalDate" "month" "S" (.int (3 : Int32)) ∧ Fld Z h b "java/time/LocalDate" "day" "S" (.int (22 : Int32))
theorem own_d12_0 : decode jdk_2323_method_12_code 0 = .ok (.iload_n 2, 1) := by decide +kernel
theorem own_d12_1 : decode jdk_2323_method_12_code 1 = .ok (.bipush 28, 2) := by decide +kernel
theorem own_d12_3 : decode jdk_2323_method_12_code 3 = .ok (.if_icmp .le 176, 3) := by decide +kernel
theorem own_d12_179 : decode jdk_2323_method_12_code 179 = .ok (.new 1, 3) := by decide +kernel
theorem own_d12_182 : decode jdk_2323_method_12_code 182 = .ok (.dup, 1) := by decide +kernel
theorem own_d12_183 : decode jdk_2323_method_12_code 183 = .ok (.iload_n 0, 1) := by decide +kernel
theorem own_d12_184 : decode jdk_2323_method_12_code 184 = .ok (.iload_n 1, 1) := by decide +kernel
theorem own_d12_185 : decode jdk_2323_method_12_code 185 = .ok (.iload_n 2, 1) := by decide +kernel
theorem own_d12_186 : decode jdk_2323_method_12_code 186 = .ok (.invokespecial 121, 3) := by decide +kernel
theorem own_pd5 : parseMethodDescriptor "(III)V" = some ⟨[.int, .int, .int], none⟩ := by decide +kernel
theorem own_d12_189 : decode jdk_2323_method_12_code 189 = .ok (.areturn, 1) := by decide +kernel
set_option maxRecDepth 65536 in
set_option maxHeartbeats 40000000 in
theorem own_cr (l : Launch) (Z : State) (a0 : Array Value) (hw : ∀ d ∈ tables_1, d.before a0 Z = true) (ws : List Jvm.Cond) (y : Int32) (h0 : Heap) (n0 : Nat) (Z0 : n0 ≤ h0.size) :
    MetFree l (⟨"java/time/LocalDate", "create", "(III)Ljava/time/LocalDate;"⟩ : MethodName) (head1 (Jvm.Cond.code (⟨"java/time/LocalDate", "create", "(III)Ljava/time/LocalDate;"⟩ : MethodName) jdk_2323_method_12_code 4 (some (.object "java/time/LocalDate")) :: ws) ({ frames := 2, cells := 1, slots := 3, locals := 28 } : Room)) (fun a U => a = #[(.int y), (.int (3 : Int32)), (.int (22 : Int32))] ∧ Z.Warmed39 U.vm ∧ U.heap = h0) (fun _ _ _ _ _ => True) (fun _ U o U' => ∃ v L, o = .returned v ∧ Q_own_cr Z y h0 n0 v U'.heap L ∧ FrameEnd U o U' L ({ frames := 2, cells := 1, slots := 3, locals := 28 } : Room).cells ({ frames := 2, cells := 1, slots := 3, locals := 28 } : Room).slots) := by
  refine MetFree.of_bodySF (plainFor_of_name own_pn_java_time_LocalDate) hisR ?_
  intro p e s m args below meth c s₁ Bd hml0 hP hK
  obtain ⟨rfl, hZ, hh⟩ := hP
  have hx := Bd.exec
  have hby := Bd.bytes
  have hml : c.maxLocals = 4 := hml0
  have hown : s.vm.findClass "java/time/LocalDate" = some m.cls := findClass_of_methodNamed Bd.named
  have hnm := (name_of_methodNamed Bd.named Bd.method).1
  have hlk : meth.locks = false := BodyLoose.notSynchronized Bd
  have X0 : Stand p l e ({ frames := 2, cells := 1, slots := 3, locals := 28 } : Room) s m #[(.int y), (.int (3 : Int32)), (.int (22 : Int32))] below meth c s₁ [] 0 0 := Stand.of_body Bd
  have e0 : s₁.heap = h0 := by rw [← hh, Bd.state]; rfl
  have N0 := Fr.nil n0
  show own_Go p e below #[(.int y), (.int (3 : Int32)), (.int (22 : Int32))] s (fun _ U o U' => ∃ v L, o = .returned v ∧ Q_own_cr Z y h0 n0 v U'.heap L ∧ FrameEnd U o U' L ({ frames := 2, cells := 1, slots := 3, locals := 28 } : Room).cells ({ frames := 2, cells := 1, slots := 3, locals := 28 } : Room).slots) (s₁.setTop (entryFrame m #[(.int y), (.int (3 : Int32)), (.int (22 : Int32))] 4))
  refine own_st (V := s₁.setTop (mkF m 0 #[.val (.int y), .val (.int (3 : Int32)), .val (.int (22 : Int32)), .unset] [])) (fun t k => castTop (by first | (simp [entryFrame, mkF, argsToLocals, Value.category]; done) | rfl) k) ?_
  refine own_st (V := s₁.setTop (mkF m 1 #[.val (.int y), .val (.int (3 : Int32)), .val (.int (22 : Int32)), .unset] [(.int (22 : Int32))])) (fun t k => XS.iloadN X0.here hx rfl (hb hby own_d12_0) rfl k) ?_
  refine own_st (V := s₁.setTop (mkF m 3 #[.val (.int y), .val (.int (3 : Int32)), .val (.int (22 : Int32)), .unset] [(.int (28 : Int32)), (.int (22 : Int32))])) (fun t k => XS.bipush X0.here hx rfl (hb hby own_d12_1) k) ?_
  refine own_st (V := s₁.setTop (mkF m 179 #[.val (.int y), .val (.int (3 : Int32)), .val (.int (22 : Int32)), .unset] [])) (fun t k => XS.icmpYes X0.here hx rfl (pc0 := 3) (pc' := 179) rfl (hb hby own_d12_3) rfl (flt (by decide : ¬ ((28 : Int32) < (22 : Int32)))).2.2.2 (by decide) (by decide) k) ?_
  obtain ⟨T15, h15, X15, e15, E15, A15, D15, -, st15⟩ := newO X0 hx hZ hown (hw _ (List.mem_of_getElem? (i := 81) rfl)) (hw _ (List.mem_of_getElem? (i := 82) rfl)) (hw _ (List.mem_of_getElem? (i := 10) rfl)) e0 (g := (mkF m 179 #[.val (.int y), .val (.int (3 : Int32)), .val (.int (22 : Int32)), .unset] [])) rfl (hb hby own_d12_179) (by decide) (by decide)
  obtain ⟨b15, g15⟩ : ∃ z, z = h0.size := ⟨_, rfl⟩
  rw [← g15] at A15 D15 st15
  have gb_b15 : n0 ≤ b15 := Nat.le_trans Z0 (Nat.le_of_eq g15.symm)
  have Z0_15 : n0 ≤ h15.size := Nat.le_trans Z0 E15.1
  have sz_b15 : h0.size ≤ b15 := Nat.le_trans (Keep.refl h0 []).1 (Nat.le_of_eq g15.symm)
  have Kc15 := (Keep.refl h0 []).ext E15
  have F15_b15_year : Fld Z h15 b15 "java/time/LocalDate" "year" "I" (.int (0 : Int32)) := D15 (Or.inr (hw _ (List.mem_of_getElem? (i := 91) rfl))) (ty := .int) (by decide)
  have F15_b15_month : Fld Z h15 b15 "java/time/LocalDate" "month" "S" (.int (0 : Int32)) := D15 (Or.inr (hw _ (List.mem_of_getElem? (i := 93) rfl))) (ty := .short) (by decide)
  have F15_b15_day : Fld Z h15 b15 "java/time/LocalDate" "day" "S" (.int (0 : Int32)) := D15 (Or.inr (hw _ (List.mem_of_getElem? (i := 95) rfl))) (ty := .short) (by decide)
  refine own_st (V := T15.setTop (mkF m 182 #[.val (.int y), .val (.int (3 : Int32)), .val (.int (22 : Int32)), .unset] [(.ref b15)])) (fun t k => st15 _ k) ?_
  refine own_st (V := T15.setTop (mkF m 183 #[.val (.int y), .val (.int (3 : Int32)), .val (.int (22 : Int32)), .unset] [(.ref b15), (.ref b15)])) (fun t k => XS.dup X15.here hx rfl (hb hby own_d12_182) rfl rfl k) ?_
  refine own_st (V := T15.setTop (mkF m 184 #[.val (.int y), .val (.int (3 : Int32)), .val (.int (22 : Int32)), .unset] [(.int y), (.ref b15), (.ref b15)])) (fun t k => XS.iloadN X15.here hx rfl (hb hby own_d12_183) rfl k) ?_
  refine own_st (V := T15.setTop (mkF m 185 #[.val (.int y), .val (.int (3 : Int32)), .val (.int (22 : Int32)), .unset] [(.int (3 : Int32)), (.int y), (.ref b15), (.ref b15)])) (fun t k => XS.iloadN X15.here hx rfl (hb hby own_d12_184) rfl k) ?_
  refine own_st (V := T15.setTop (mkF m 186 #[.val (.int y), .val (.int (3 : Int32)), .val (.int (22 : Int32)), .unset] [(.int (22 : Int32)), (.int (3 : Int32)), (.int y), (.ref b15), (.ref b15)])) (fun t k => XS.iloadN X15.here hx rfl (hb hby own_d12_185) rfl k) ?_
  obtain ⟨_, _, ⟨T16, L16, k16, n16⟩, -, X16, ⟨Lc16, hQ16, l16, y16, z16⟩, st16⟩ := X15.specialBack hx (y := (⟨"java/time/LocalDate", "<init>", "(III)V"⟩ : MethodName)) rfl hown (mvT hZ (hw _ (List.mem_of_getElem? (i := 83) rfl))) (mvT hZ (hw _ (List.mem_of_getElem? (i := 84) rfl))) (mvT hZ (hw _ (List.mem_of_getElem? (i := 86) rfl))) (by decide) (backOf (W := 1) (own_di l Z a0 hw [] b15 y (3 : Int32) (22 : Int32) h15 n0 Z0_15 F15_b15_year F15_b15_month F15_b15_day A15 gb_b15 (by decide) (by decide) (by decide) (by decide)) hZ (hw _ (List.mem_of_getElem? (i := 86) rfl)) (hw _ (List.mem_of_getElem? (i := 10) rfl)) (by decide) (by decide)) (g := (mkF m 186 #[.val (.int y), .val (.int (3 : Int32)), .val (.int (22 : Int32)), .unset] [(.int (22 : Int32)), (.int (3 : Int32)), (.int y), (.ref b15), (.ref b15)])) rfl (by rw [hml]; rfl) (Steps.refl _) (a := b15) (argsL := [(.int y), (.int (3 : Int32)), (.int (22 : Int32))]) (rest := [(.ref b15)]) (lenOf own_pd5 rfl) rfl (by show 2 * 0 + _ ≤ _; exact Nat.le_of_eq rfl) (hb hby own_d12_186) (fun _ _ => ⟨rfl, e15, (by decide : 1 + 0 ≤ _), (by decide : 3 + 0 ≤ _)⟩)
  dsimp only [Pt.U, Pt.locs, Pt.cells, Pt.slots] at X16 l16 y16 z16 st16 hQ16
  subst l16 y16 z16
  obtain ⟨rfl, N16q, K16, Ex16_q, Fq16_0, Fq16_1, Fq16_2⟩ := hQ16
  have N16 := Fr.app N0 N16q
  have Z0_16 : n0 ≤ T16.heap.size := Nat.le_trans Z0_15 K16.1
  have Kc16 := Kc15.trans K16 (fun x hx => Or.inr (by cases List.mem_singleton.mp hx; exact sz_b15))
  have Ex16_b15 := A15.keep K16
  refine own_st (V := T16.setTop (mkF m 189 #[.val (.int y), .val (.int (3 : Int32)), .val (.int (22 : Int32)), .unset] [(.ref b15)])) (fun t k => st16.trans k) ?_
  exact own_ret X16 hx hlk Bd.returns rfl (Or.inr (Or.inr (Or.inr (Or.inr ⟨rfl, rfl, rfl⟩)))) (hb hby own_d12_189) (by decide) (by decide) (by show Q_own_cr Z y h0 n0 _ T16.heap _; exact ⟨_, rfl, N16, Kc16, Ex16_q, Fq16_0, Fq16_1, Fq16_2⟩)
def Q_own_of (Z : State) (y : Int32) (cy ry cd rd ce re mm iso : Addr) (h0 : Heap) (n0 : Nat) (v : Option Value) (h : Heap) (L : List Loc) : Prop := ∃ b, v = some (.ref b) ∧ Fr n0 L ∧ Keep h0 h [] ∧ Exa Z h b "java/time/LocalDate" ∧ Fld Z h b "java/time/LocalDate" "year" "I" (.int y) ∧ Fld Z h b "java/time/LocalDate" "month" "S" (.int (3 : Int32)) ∧ Fld Z h b "java/time/LocalDate" "day" "S" (.int (22 : Int32))
theorem own_d2_0 : decode jdk_2323_method_4_code 0 = .ok (.getstatic 39, 3) := by decide +kernel
theorem own_d2_3 : decode jdk_2323_method_4_code 3 = .ok (.iload_n 0, 1) := by decide +kernel
theorem own_d2_4 : decode jdk_2323_method_4_code 4 = .ok (.i2l, 1) := by decide +kernel
theorem own_d2_5 : decode jdk_2323_method_4_code 5 = .ok (.invokevirtual 45, 3) := by decide +kernel
theorem own_pd6 : parseMethodDescriptor "(J)J" = some ⟨[.long], some .long⟩ := by decide +kernel
theorem own_d2_8 : decode jdk_2323_method_4_code 8 = .ok (.pop2, 1) := by decide +kernel
theorem own_d2_9 : decode jdk_2323_method_4_code 9 = .ok (.aload_n 1, 1) := by decide +kernel
theorem own_d2_10 : decode jdk_2323_method_4_code 10 = .ok (.ldc 49, 2) := by decide +kernel
theorem own_d2_12 : decode jdk_2323_method_4_code 12 = .ok (.invokestatic 21, 3) := by decide +kernel
theorem own_pd7 : parseMethodDescriptor "(Ljava/lang/Object;Ljava/lang/String;)Ljava/lang/Object;" = some ⟨[(.object "java/lang/Object"), (.object "java/lang/String")], some (.object "java/lang/Object")⟩ := by decide +kernel
theorem own_d2_15 : decode jdk_2323_method_4_code 15 = .ok (.pop, 1) := by decide +kernel
theorem own_d2_16 : decode jdk_2323_method_4_code 16 = .ok (.getstatic 51, 3) := by decide +kernel
theorem own_d2_19 : decode jdk_2323_method_4_code 19 = .ok (.iload_n 2, 1) := by decide +kernel
theorem own_d2_20 : decode jdk_2323_method_4_code 20 = .ok (.i2l, 1) := by decide +kernel
theorem own_d2_21 : decode jdk_2323_method_4_code 21 = .ok (.invokevirtual 45, 3) := by decide +kernel
theorem own_d2_24 : decode jdk_2323_method_4_code 24 = .ok (.pop2, 1) := by decide +kernel
theorem own_d2_25 : decode jdk_2323_method_4_code 25 = .ok (.iload_n 0, 1) := by decide +kernel
theorem own_d2_26 : decode jdk_2323_method_4_code 26 = .ok (.aload_n 1, 1) := by decide +kernel
theorem own_d2_27 : decode jdk_2323_method_4_code 27 = .ok (.invokevirtual 54, 3) := by decide +kernel
theorem own_d2_30 : decode jdk_2323_method_4_code 30 = .ok (.iload_n 2, 1) := by decide +kernel
theorem own_d2_31 : decode jdk_2323_method_4_code 31 = .ok (.invokestatic 60, 3) := by decide +kernel
theorem own_pd8 : parseMethodDescriptor "(III)Ljava/time/LocalDate;" = some ⟨[.int, .int, .int], some (.object "java/time/LocalDate")⟩ := by decide +kernel
theorem own_d2_34 : decode jdk_2323_method_4_code 34 = .ok (.areturn, 1) := by decide +kernel
set_option maxRecDepth 65536 in
set_option maxHeartbeats 40000000 in
theorem own_of (l : Launch) (Z : State) (a0 : Array Value) (hw : ∀ d ∈ tables_1, d.before a0 Z = true) (ws : List Jvm.Cond) (y : Int32) (cy ry cd rd ce re mm iso : Addr) (h0 : Heap) (n0 : Nat) (Z0 : n0 ≤ h0.size) (Od : Old Z n0 h0) (Wd : own_W Z cy ry cd rd ce re mm iso) (hy0 : 1583 ≤ y.toInt) (hy1 : y.toInt ≤ 999999999) :
    MetFree l (⟨"java/time/LocalDate", "of", "(ILjava/time/Month;I)Ljava/time/LocalDate;"⟩ : MethodName) (head1 (Jvm.Cond.code (⟨"java/time/LocalDate", "of", "(ILjava/time/Month;I)Ljava/time/LocalDate;"⟩ : MethodName) jdk_2323_method_4_code 3 (some (.object "java/time/LocalDate")) :: ws) ({ frames := 4, cells := 3, slots := 27, locals := 57 } : Room)) (fun a U => a = #[(.int y), (.ref mm), (.int (22 : Int32))] ∧ Z.Warmed39 U.vm ∧ U.heap = h0) (fun _ _ _ _ _ => True) (fun _ U o U' => ∃ v L, o = .returned v ∧ Q_own_of Z y cy ry cd rd ce re mm iso h0 n0 v U'.heap L ∧ ReturnedEndW U o U' L ({ frames := 4, cells := 3, slots := 27, locals := 57 } : Room).cells ({ frames := 4, cells := 3, slots := 27, locals := 57 } : Room).slots) := by
  refine MetFree.of_bodySF (plainFor_of_name own_pn_java_time_LocalDate) hisR ?_
  intro p e s m args below meth c s₁ Bd hml0 hP hK
  obtain ⟨rfl, hZ, hh⟩ := hP
  have hx := Bd.exec
  have hby := Bd.bytes
  have hml : c.maxLocals = 3 := hml0
  have hown : s.vm.findClass "java/time/LocalDate" = some m.cls := findClass_of_methodNamed Bd.named
  have hnm := (name_of_methodNamed Bd.named Bd.method).1
  have hlk : meth.locks = false := BodyLoose.notSynchronized Bd
  have X0 : Stand p l e ({ frames := 4, cells := 3, slots := 27, locals := 57 } : Room) s m #[(.int y), (.ref mm), (.int (22 : Int32))] below meth c s₁ [] 0 0 := Stand.of_body Bd
  have e0 : s₁.heap = h0 := by rw [← hh, Bd.state]; rfl
  have N0 := Fr.nil n0
  show own_Go p e below #[(.int y), (.ref mm), (.int (22 : Int32))] s (fun _ U o U' => ∃ v L, o = .returned v ∧ Q_own_of Z y cy ry cd rd ce re mm iso h0 n0 v U'.heap L ∧ ReturnedEndW U o U' L ({ frames := 4, cells := 3, slots := 27, locals := 57 } : Room).cells ({ frames := 4, cells := 3, slots := 27, locals := 57 } : Room).slots) (s₁.setTop (entryFrame m #[(.int y), (.ref mm), (.int (22 : Int32))] 3))
  refine own_st (V := s₁.setTop (mkF m 0 #[.val (.int y), .val (.ref mm), .val (.int (22 : Int32))] [])) (fun t k => castTop (by first | (simp [entryFrame, mkF, argsToLocals, Value.category]; done) | rfl) k) ?_
  obtain ⟨T17, X17, e17, st17⟩ := getS2 X0 hx hZ hown (host := "") (Or.inl (hw _ (List.mem_of_getElem? (i := 12) rfl))) Via.refl e0 (own_so Od Wd.1) (g := (mkF m 0 #[.val (.int y), .val (.ref mm), .val (.int (22 : Int32))] [])) rfl (hb hby own_d2_0)
  refine own_st (V := T17.setTop (mkF m 3 #[.val (.int y), .val (.ref mm), .val (.int (22 : Int32))] [(.ref cy)])) (fun t k => st17 _ k) ?_
  refine own_st (V := T17.setTop (mkF m 4 #[.val (.int y), .val (.ref mm), .val (.int (22 : Int32))] [(.int y), (.ref cy)])) (fun t k => XS.iloadN X17.here hx rfl (hb hby own_d2_3) rfl k) ?_
  refine own_st (V := T17.setTop (mkF m 5 #[.val (.int y), .val (.ref mm), .val (.int (22 : Int32))] [(.long (y.toInt64)), (.ref cy)])) (fun t k => XS.i2l X17.here hx rfl (hb hby own_d2_4) rfl k) ?_
  obtain ⟨cq18, kq18, q18a, q18b, q18c⟩ := isOf hZ e17 (own_eo Od Wd.2.1)
  obtain ⟨_, _, ⟨T18, L18, k18, n18⟩, -, X18, ⟨Lc18, hQ18, l18, y18, z18⟩, st18⟩ := X17.virtualBack hx (y := (⟨"java/time/temporal/ChronoField", "checkValidValue", "(J)J"⟩ : MethodName)) (z := (⟨"java/time/temporal/ChronoField", "checkValidValue", "(J)J"⟩ : MethodName)) hown (mvT hZ (hw _ (List.mem_of_getElem? (i := 14) rfl))) (mvT hZ (hw _ (List.mem_of_getElem? (i := 15) rfl))) (notFace_of_selects (args := #[]) (mvT hZ (hw _ (List.mem_of_getElem? (i := 17) rfl)))) (mvT hZ (hw _ (List.mem_of_getElem? (i := 17) rfl))) (mvT hZ (hw _ (List.mem_of_getElem? (i := 16) rfl))) (by decide) (backOf (W := 0) (own_ccv l Z a0 hw [] cy ry (y.toInt64) (-999999999 : Int64) (999999999 : Int64) h0 n0 Z0 (own_eo Od Wd.2.1) (own_fo Od Wd.2.2.1) (own_eo Od Wd.2.2.2.1) (own_fo Od Wd.2.2.2.2.1) (own_fo Od Wd.2.2.2.2.2.1) (by have e : (-999999999 : Int64).toInt = -999999999 := (by decide); have q := c_i2l y; omega) (by have e : (999999999 : Int64).toInt = 999999999 := (by decide); have q := c_i2l y; omega)) hZ (hw _ (List.mem_of_getElem? (i := 18) rfl)) (hw _ (List.mem_of_getElem? (i := 13) rfl)) (by decide) (by decide)) q18a q18c (g := (mkF m 5 #[.val (.int y), .val (.ref mm), .val (.int (22 : Int32))] [(.long (y.toInt64)), (.ref cy)])) rfl (by rw [hml]; rfl) (Steps.refl _) (argsL := [(.long (y.toInt64))]) (rest := []) (lenOf own_pd6 rfl) rfl (by show 2 * 0 + _ ≤ _; exact Nat.le_of_eq rfl) (hb hby own_d2_5) (fun _ _ => ⟨rfl, e17, (by decide : 0 + 0 ≤ _), (by decide : 0 + 0 ≤ _)⟩)
  dsimp only [Pt.U, Pt.locs, Pt.cells, Pt.slots] at X18 l18 y18 z18 st18 hQ18
  subst l18 y18 z18
  obtain ⟨rfl, N18q, e18⟩ := hQ18
  have N18 := Fr.app N0 N18q
  refine own_st (V := T18.setTop (mkF m 8 #[.val (.int y), .val (.ref mm), .val (.int (22 : Int32))] [(.long (y.toInt64))])) (fun t k => st18.trans k) ?_
  refine own_st (V := T18.setTop (mkF m 9 #[.val (.int y), .val (.ref mm), .val (.int (22 : Int32))] [])) (fun t k => (by jvm_step X18.here [X18.here.top, hx, (hb hby own_d2_8), Value.category]; exact k)) ?_
  refine own_st (V := T18.setTop (mkF m 10 #[.val (.int y), .val (.ref mm), .val (.int (22 : Int32))] [(.ref mm)])) (fun t k => XS.aloadN X18.here hx rfl (hb hby own_d2_9) rfl rfl k) ?_
  obtain ⟨a19, T19, h19, kk19, X19, e19, E19, hS_19, hk_19, hZ_19, hown_19, st19⟩ := ldcS (s := s) (vm0 := s.vm) X18 hx hZ hown (hw _ (List.mem_of_getElem? (i := 51) rfl)) (own_wS hw) e18 ((State.WarmedH.refl s).since 0) (Nat.zero_le _) (g := (mkF m 10 #[.val (.int y), .val (.ref mm), .val (.int (22 : Int32))] [(.ref mm)])) rfl (hb hby own_d2_10) (n := 20) (by decide) (by decide) (by decide) (by decide)
  have Kc19 := (Keep.refl h0 []).ext E19
  have Z0_19 : n0 ≤ h19.size := Nat.le_trans Z0 E19.1
  have Od19 := Od.ext E19
  refine own_st (V := T19.setTop (mkF m 12 #[.val (.int y), .val (.ref mm), .val (.int (22 : Int32))] [(.ref a19), (.ref mm)])) (fun t k => st19 _ k) ?_
  obtain ⟨_, _, ⟨T20, L20, k20, n20⟩, -, X20, ⟨Lc20, hQ20, l20, y20, z20⟩, st20⟩ := Jvm.LawKit.callS X19 hx (y := (⟨"java/util/Objects", "requireNonNull", "(Ljava/lang/Object;Ljava/lang/String;)Ljava/lang/Object;"⟩ : MethodName)) hown_19 (mvT hZ_19 (hw _ (List.mem_of_getElem? (i := 59) rfl))) (mvT hZ_19 (hw _ (List.mem_of_getElem? (i := 60) rfl))) (mvT hZ_19 (hw _ (List.mem_of_getElem? (i := 61) rfl))) (mvT hZ_19 (hw _ (List.mem_of_getElem? (i := 62) rfl))) (by decide) (backOf (W := 0) (own_rnn l Z a0 hw [] mm a19 h19 n0 Z0_19 ) hZ_19 (hw _ (List.mem_of_getElem? (i := 62) rfl)) (hw _ (List.mem_of_getElem? (i := 61) rfl)) (by decide) (by decide)) (g := (mkF m 12 #[.val (.int y), .val (.ref mm), .val (.int (22 : Int32))] [(.ref a19), (.ref mm)])) rfl (by rw [hml]; rfl) (argsL := [(.ref mm), (.ref a19)]) (rest := []) (lenOf own_pd7 rfl) rfl (by show 2 * 0 + _ ≤ _; exact Nat.le_of_eq rfl) (hb hby own_d2_12) (fun _ _ => ⟨rfl, e19, (by decide : 2 + 0 ≤ _), (by decide : 24 + 0 ≤ _)⟩)
  dsimp only [Pt.U, Pt.locs, Pt.cells, Pt.slots] at X20 l20 y20 z20 st20 hQ20
  subst l20 y20 z20
  obtain ⟨rfl, N20q, e20⟩ := hQ20
  have N20 := Fr.app N18 N20q
  refine own_st (V := T20.setTop (mkF m 15 #[.val (.int y), .val (.ref mm), .val (.int (22 : Int32))] [(.ref mm)])) (fun t k => st20 _ k) ?_
  refine own_st (V := T20.setTop (mkF m 16 #[.val (.int y), .val (.ref mm), .val (.int (22 : Int32))] [])) (fun t k => XS.pop X20.here hx rfl (hb hby own_d2_15) rfl rfl k) ?_
  obtain ⟨T21, X21, e21, st21⟩ := getS2 X20 hx hZ_19 hown_19 (host := "") (Or.inl (hw _ (List.mem_of_getElem? (i := 63) rfl))) Via.refl e20 (own_so Od19 Wd.2.2.2.2.2.2.1) (g := (mkF m 16 #[.val (.int y), .val (.ref mm), .val (.int (22 : Int32))] [])) rfl (hb hby own_d2_16)
  refine own_st (V := T21.setTop (mkF m 19 #[.val (.int y), .val (.ref mm), .val (.int (22 : Int32))] [(.ref cd)])) (fun t k => st21 _ k) ?_
  refine own_st (V := T21.setTop (mkF m 20 #[.val (.int y), .val (.ref mm), .val (.int (22 : Int32))] [(.int (22 : Int32)), (.ref cd)])) (fun t k => XS.iloadN X21.here hx rfl (hb hby own_d2_19) rfl k) ?_
  refine own_st (V := T21.setTop (mkF m 21 #[.val (.int y), .val (.ref mm), .val (.int (22 : Int32))] [(.long ((22 : Int32).toInt64)), (.ref cd)])) (fun t k => XS.i2l X21.here hx rfl (hb hby own_d2_20) rfl k) ?_
  obtain ⟨cq22, kq22, q22a, q22b, q22c⟩ := isOf hZ_19 e21 (own_eo Od19 Wd.2.2.2.2.2.2.2.1)
  obtain ⟨_, _, ⟨T22, L22, k22, n22⟩, -, X22, ⟨Lc22, hQ22, l22, y22, z22⟩, st22⟩ := X21.virtualBack hx (y := (⟨"java/time/temporal/ChronoField", "checkValidValue", "(J)J"⟩ : MethodName)) (z := (⟨"java/time/temporal/ChronoField", "checkValidValue", "(J)J"⟩ : MethodName)) hown_19 (mvT hZ_19 (hw _ (List.mem_of_getElem? (i := 14) rfl))) (mvT hZ_19 (hw _ (List.mem_of_getElem? (i := 15) rfl))) (notFace_of_selects (args := #[]) (mvT hZ_19 (hw _ (List.mem_of_getElem? (i := 17) rfl)))) (mvT hZ_19 (hw _ (List.mem_of_getElem? (i := 17) rfl))) (mvT hZ_19 (hw _ (List.mem_of_getElem? (i := 16) rfl))) (by decide) (backOf (W := 0) (own_ccv l Z a0 hw [] cd rd ((22 : Int32).toInt64) (1 : Int64) (31 : Int64) h19 n0 Z0_19 (own_eo Od19 Wd.2.2.2.2.2.2.2.1) (own_fo Od19 Wd.2.2.2.2.2.2.2.2.1) (own_eo Od19 Wd.2.2.2.2.2.2.2.2.2.1) (own_fo Od19 Wd.2.2.2.2.2.2.2.2.2.2.1) (own_fo Od19 Wd.2.2.2.2.2.2.2.2.2.2.2.1) (by have e : (1 : Int64).toInt = 1 := (by decide); have q : (((22 : Int32).toInt64)).toInt = 22 := (by decide); omega) (by have e : (31 : Int64).toInt = 31 := (by decide); have q : (((22 : Int32).toInt64)).toInt = 22 := (by decide); omega)) hZ_19 (hw _ (List.mem_of_getElem? (i := 18) rfl)) (hw _ (List.mem_of_getElem? (i := 13) rfl)) (by decide) (by decide)) q22a q22c (g := (mkF m 21 #[.val (.int y), .val (.ref mm), .val (.int (22 : Int32))] [(.long ((22 : Int32).toInt64)), (.ref cd)])) rfl (by rw [hml]; rfl) (Steps.refl _) (argsL := [(.long ((22 : Int32).toInt64))]) (rest := []) (lenOf own_pd6 rfl) rfl (by show 2 * 0 + _ ≤ _; exact Nat.le_of_eq rfl) (hb hby own_d2_21) (fun _ _ => ⟨rfl, e21, (by decide : 2 + 0 ≤ _), (by decide : 24 + 0 ≤ _)⟩)
  dsimp only [Pt.U, Pt.locs, Pt.cells, Pt.slots] at X22 l22 y22 z22 st22 hQ22
  subst l22 y22 z22
  obtain ⟨rfl, N22q, e22⟩ := hQ22
  have N22 := Fr.app N20 N22q
  refine own_st (V := T22.setTop (mkF m 24 #[.val (.int y), .val (.ref mm), .val (.int (22 : Int32))] [(.long ((22 : Int32).toInt64))])) (fun t k => st22.trans k) ?_
  refine own_st (V := T22.setTop (mkF m 25 #[.val (.int y), .val (.ref mm), .val (.int (22 : Int32))] [])) (fun t k => (by jvm_step X22.here [X22.here.top, hx, (hb hby own_d2_24), Value.category]; exact k)) ?_
  refine own_st (V := T22.setTop (mkF m 26 #[.val (.int y), .val (.ref mm), .val (.int (22 : Int32))] [(.int y)])) (fun t k => XS.iloadN X22.here hx rfl (hb hby own_d2_25) rfl k) ?_
  refine own_st (V := T22.setTop (mkF m 27 #[.val (.int y), .val (.ref mm), .val (.int (22 : Int32))] [(.ref mm), (.int y)])) (fun t k => XS.aloadN X22.here hx rfl (hb hby own_d2_26) rfl rfl k) ?_
  obtain ⟨cq23, kq23, q23a, q23b, q23c⟩ := isOf hZ_19 e22 (own_eo Od19 Wd.2.2.2.2.2.2.2.2.2.2.2.2.2.2.2.2.2.2.2.1)
  obtain ⟨_, _, ⟨T23, L23, k23, n23⟩, -, X23, ⟨Lc23, hQ23, l23, y23, z23⟩, st23⟩ := X22.virtualBack hx (y := (⟨"java/time/Month", "getValue", "()I"⟩ : MethodName)) (z := (⟨"java/time/Month", "getValue", "()I"⟩ : MethodName)) hown_19 (mvT hZ_19 (hw _ (List.mem_of_getElem? (i := 64) rfl))) (mvT hZ_19 (hw _ (List.mem_of_getElem? (i := 65) rfl))) (notFace_of_selects (args := #[]) (mvT hZ_19 (hw _ (List.mem_of_getElem? (i := 67) rfl)))) (mvT hZ_19 (hw _ (List.mem_of_getElem? (i := 67) rfl))) (mvT hZ_19 (hw _ (List.mem_of_getElem? (i := 66) rfl))) (by decide) (backOf (W := 1) (own_gv l Z a0 hw [] mm h19 n0 Z0_19 (own_eo Od19 Wd.2.2.2.2.2.2.2.2.2.2.2.2.2.2.2.2.2.2.2.1) (own_fo Od19 Wd.2.2.2.2.2.2.2.2.2.2.2.2.2.2.2.2.2.2.2.2.1)) hZ_19 (hw _ (List.mem_of_getElem? (i := 68) rfl)) (hw _ (List.mem_of_getElem? (i := 7) rfl)) (by decide) (by decide)) q23a q23c (g := (mkF m 27 #[.val (.int y), .val (.ref mm), .val (.int (22 : Int32))] [(.ref mm), (.int y)])) rfl (by rw [hml]; rfl) (Steps.refl _) (argsL := []) (rest := [(.int y)]) (lenOf own_pd4 rfl) rfl (by show 2 * 0 + _ ≤ _; exact Nat.le_of_eq rfl) (hb hby own_d2_27) (fun _ _ => ⟨rfl, e22, (by decide : 2 + 0 ≤ _), (by decide : 24 + 0 ≤ _)⟩)
  dsimp only [Pt.U, Pt.locs, Pt.cells, Pt.slots] at X23 l23 y23 z23 st23 hQ23
  subst l23 y23 z23
  obtain ⟨rfl, N23q, e23⟩ := hQ23
  have N23 := Fr.app N22 N23q
  refine own_st (V := T23.setTop (mkF m 30 #[.val (.int y), .val (.ref mm), .val (.int (22 : Int32))] [(.int (3 : Int32)), (.int y)])) (fun t k => st23.trans k) ?_
  refine own_st (V := T23.setTop (mkF m 31 #[.val (.int y), .val (.ref mm), .val (.int (22 : Int32))] [(.int (22 : Int32)), (.int (3 : Int32)), (.int y)])) (fun t k => XS.iloadN X23.here hx rfl (hb hby own_d2_30) rfl k) ?_
  obtain ⟨_, _, ⟨T24, L24, k24, n24⟩, -, X24, ⟨Lc24, hQ24, l24, y24, z24⟩, st24⟩ := Jvm.LawKit.callS X23 hx (y := (⟨"java/time/LocalDate", "create", "(III)Ljava/time/LocalDate;"⟩ : MethodName)) hown_19 (mvT hZ_19 (hw _ (List.mem_of_getElem? (i := 78) rfl))) (mvT hZ_19 (hw _ (List.mem_of_getElem? (i := 79) rfl))) (mvT hZ_19 (hw _ (List.mem_of_getElem? (i := 10) rfl))) (mvT hZ_19 (hw _ (List.mem_of_getElem? (i := 80) rfl))) (by decide) (backOf (W := 0) (own_cr l Z a0 hw [] y h19 n0 Z0_19 ) hZ_19 (hw _ (List.mem_of_getElem? (i := 80) rfl)) (hw _ (List.mem_of_getElem? (i := 10) rfl)) (by decide) (by decide)) (g := (mkF m 31 #[.val (.int y), .val (.ref mm), .val (.int (22 : Int32))] [(.int (22 : Int32)), (.int (3 : Int32)), (.int y)])) rfl (by rw [hml]; rfl) (argsL := [(.int y), (.int (3 : Int32)), (.int (22 : Int32))]) (rest := []) (lenOf own_pd8 rfl) rfl (by show 2 * 0 + _ ≤ _; exact Nat.le_of_eq rfl) (hb hby own_d2_31) (fun _ _ => ⟨rfl, e23, (by decide : 2 + 1 ≤ _), (by decide : 24 + 3 ≤ _)⟩)
  dsimp only [Pt.U, Pt.locs, Pt.cells, Pt.slots] at X24 l24 y24 z24 st24 hQ24
  subst l24 y24 z24
  obtain ⟨d24, rfl, N24q, K24, Ex24_q, Fq24_0, Fq24_1, Fq24_2⟩ := hQ24
  have N24 := Fr.app N23 N24q
  have Z0_24 : n0 ≤ T24.heap.size := Nat.le_trans Z0_19 K24.1
  have Kc24 := Kc19.trans K24 all0
  have Od24 := Od19.keep K24 all0
  have kz_24 : kk19 ≤ T24.heap.size := Nat.le_trans hk_19 K24.1
  refine own_st (V := T24.setTop (mkF m 34 #[.val (.int y), .val (.ref mm), .val (.int (22 : Int32))] [(.ref d24)])) (fun t k => st24 _ k) ?_
  exact own_retW (s := s) hS_19 kz_24 X24 hx hlk Bd.returns rfl (Or.inr (Or.inr (Or.inr (Or.inr ⟨rfl, rfl, rfl⟩)))) (hb hby own_d2_34) (by decide) (by decide) (by show Q_own_of Z y cy ry cd rd ce re mm iso h0 n0 _ T24.heap _; exact ⟨_, rfl, N24, Kc24, Ex24_q, Fq24_0, Fq24_1, Fq24_2⟩)
def Q_own_lm3 (Z : State) (o1 : Addr) (h0 : Heap) (n0 : Nat) (v : Option Value) (h : Heap) (L : List Loc) : Prop := v = some (.int (31 : Int32)) ∧ Fr n0 L ∧ h = h0
theorem own_d16_0 : decode jdk_2323_method_31_code 0 = .ok (.aload_n 0, 1) := by decide +kernel
theorem own_d16_1 : decode jdk_2323_method_31_code 1 = .ok (.getfield 250, 3) := by decide +kernel
theorem own_d16_4 : decode jdk_2323_method_31_code 4 = .ok (.tableswitch 78 2 11 #[56, 78, 73, 78, 73, 78, 78, 73, 78, 73], 56) := by decide +kernel
theorem own_d16_82 : decode jdk_2323_method_31_code 82 = .ok (.bipush 31, 2) := by decide +kernel
theorem own_d16_84 : decode jdk_2323_method_31_code 84 = .ok (.ireturn, 1) := by decide +kernel
set_option maxRecDepth 65536 in
set_option maxHeartbeats 40000000 in
theorem own_lm3 (l : Launch) (Z : State) (a0 : Array Value) (hw : ∀ d ∈ tables_1, d.before a0 Z = true) (ws : List Jvm.Cond) (o1 : Addr) (h0 : Heap) (n0 : Nat) (Z0 : n0 ≤ h0.size) (F1 : Fld Z h0 o1 "java/time/LocalDate" "month" "S" (.int (3 : Int32))) :
    MetFree l (⟨"java/time/LocalDate", "lengthOfMonth", "()I"⟩ : MethodName) (head1 (Jvm.Cond.code (⟨"java/time/LocalDate", "lengthOfMonth", "()I"⟩ : MethodName) jdk_2323_method_31_code 1 (some .int) :: ws) ({ frames := 0, cells := 0, slots := 0, locals := 0 } : Room)) (fun a U => a = #[(.ref o1)] ∧ Z.Warmed39 U.vm ∧ U.heap = h0) (fun _ _ _ _ _ => True) (fun _ U o U' => ∃ v L, o = .returned v ∧ Q_own_lm3 Z o1 h0 n0 v U'.heap L ∧ FrameEnd U o U' L ({ frames := 0, cells := 0, slots := 0, locals := 0 } : Room).cells ({ frames := 0, cells := 0, slots := 0, locals := 0 } : Room).slots) := by
  refine MetFree.of_bodySF (plainFor_of_name own_pn_java_time_LocalDate) hisR ?_
  intro p e s m args below meth c s₁ Bd hml0 hP hK
  obtain ⟨rfl, hZ, hh⟩ := hP
  have hx := Bd.exec
  have hby := Bd.bytes
  have hml : c.maxLocals = 1 := hml0
  have hown : s.vm.findClass "java/time/LocalDate" = some m.cls := findClass_of_methodNamed Bd.named
  have hnm := (name_of_methodNamed Bd.named Bd.method).1
  have hlk : meth.locks = false := BodyLoose.notSynchronized Bd
  have X0 : Stand p l e ({ frames := 0, cells := 0, slots := 0, locals := 0 } : Room) s m #[(.ref o1)] below meth c s₁ [] 0 0 := Stand.of_body Bd
  have e0 : s₁.heap = h0 := by rw [← hh, Bd.state]; rfl
  have N0 := Fr.nil n0
  show own_Go p e below #[(.ref o1)] s (fun _ U o U' => ∃ v L, o = .returned v ∧ Q_own_lm3 Z o1 h0 n0 v U'.heap L ∧ FrameEnd U o U' L ({ frames := 0, cells := 0, slots := 0, locals := 0 } : Room).cells ({ frames := 0, cells := 0, slots := 0, locals := 0 } : Room).slots) (s₁.setTop (entryFrame m #[(.ref o1)] 1))
  refine own_st (V := s₁.setTop (mkF m 0 #[.val (.ref o1)] [])) (fun t k => castTop (by first | (simp [entryFrame, mkF, argsToLocals, Value.category]; done) | rfl) k) ?_
  refine own_st (V := s₁.setTop (mkF m 1 #[.val (.ref o1)] [(.ref o1)])) (fun t k => XS.aloadN X0.here hx rfl (hb hby own_d16_0) rfl rfl k) ?_
  obtain ⟨T25, X25, e25, st25⟩ := getF X0 hx hZ hown (host := "") (Or.inl (hw _ (List.mem_of_getElem? (i := 92) rfl))) Via.refl e0 F1 (g := (mkF m 1 #[.val (.ref o1)] [(.ref o1)])) rfl rfl (hb hby own_d16_1)
  refine own_st (V := T25.setTop (mkF m 4 #[.val (.ref o1)] [(.int (3 : Int32))])) (fun t k => st25 _ k) ?_
  refine own_st (V := T25.setTop (mkF m 82 #[.val (.ref o1)] [])) (fun t k => XS.tswIn X25.here hx rfl (pc0 := 4) (pc' := 82) rfl (hb hby own_d16_4) rfl (by decide) (o := 78) rfl (by decide) rfl k) ?_
  refine own_st (V := T25.setTop (mkF m 84 #[.val (.ref o1)] [(.int (31 : Int32))])) (fun t k => XS.bipush X25.here hx rfl (hb hby own_d16_82) k) ?_
  exact own_ret X25 hx hlk Bd.returns rfl (Or.inl ⟨rfl, by simp, _, rfl⟩) (hb hby own_d16_84) (by decide) (by decide) (by show Q_own_lm3 Z o1 h0 n0 _ T25.heap _; rw [e25]; exact ⟨rfl, N0, rfl⟩)
def Q_own_lm4 (Z : State) (o1 : Addr) (h0 : Heap) (n0 : Nat) (v : Option Value) (h : Heap) (L : List Loc) : Prop := v = some (.int (30 : Int32)) ∧ Fr n0 L ∧ h = h0
theorem own_d16_77 : decode jdk_2323_method_31_code 77 = .ok (.bipush 30, 2) := by decide +kernel
theorem own_d16_79 : decode jdk_2323_method_31_code 79 = .ok (.goto 5, 3) := by decide +kernel
set_option maxRecDepth 65536 in
set_option maxHeartbeats 40000000 in
theorem own_lm4 (l : Launch) (Z : State) (a0 : Array Value) (hw : ∀ d ∈ tables_1, d.before a0 Z = true) (ws : List Jvm.Cond) (o1 : Addr) (h0 : Heap) (n0 : Nat) (Z0 : n0 ≤ h0.size) (F1 : Fld Z h0 o1 "java/time/LocalDate" "month" "S" (.int (4 : Int32))) :
    MetFree l (⟨"java/time/LocalDate", "lengthOfMonth", "()I"⟩ : MethodName) (head1 (Jvm.Cond.code (⟨"java/time/LocalDate", "lengthOfMonth", "()I"⟩ : MethodName) jdk_2323_method_31_code 1 (some .int) :: ws) ({ frames := 0, cells := 0, slots := 0, locals := 0 } : Room)) (fun a U => a = #[(.ref o1)] ∧ Z.Warmed39 U.vm ∧ U.heap = h0) (fun _ _ _ _ _ => True) (fun _ U o U' => ∃ v L, o = .returned v ∧ Q_own_lm4 Z o1 h0 n0 v U'.heap L ∧ FrameEnd U o U' L ({ frames := 0, cells := 0, slots := 0, locals := 0 } : Room).cells ({ frames := 0, cells := 0, slots := 0, locals := 0 } : Room).slots) := by
  refine MetFree.of_bodySF (plainFor_of_name own_pn_java_time_LocalDate) hisR ?_
  intro p e s m args below meth c s₁ Bd hml0 hP hK
  obtain ⟨rfl, hZ, hh⟩ := hP
  have hx := Bd.exec
  have hby := Bd.bytes
  have hml : c.maxLocals = 1 := hml0
  have hown : s.vm.findClass "java/time/LocalDate" = some m.cls := findClass_of_methodNamed Bd.named
  have hnm := (name_of_methodNamed Bd.named Bd.method).1
  have hlk : meth.locks = false := BodyLoose.notSynchronized Bd
  have X0 : Stand p l e ({ frames := 0, cells := 0, slots := 0, locals := 0 } : Room) s m #[(.ref o1)] below meth c s₁ [] 0 0 := Stand.of_body Bd
  have e0 : s₁.heap = h0 := by rw [← hh, Bd.state]; rfl
  have N0 := Fr.nil n0
  show own_Go p e below #[(.ref o1)] s (fun _ U o U' => ∃ v L, o = .returned v ∧ Q_own_lm4 Z o1 h0 n0 v U'.heap L ∧ FrameEnd U o U' L ({ frames := 0, cells := 0, slots := 0, locals := 0 } : Room).cells ({ frames := 0, cells := 0, slots := 0, locals := 0 } : Room).slots) (s₁.setTop (entryFrame m #[(.ref o1)] 1))
  refine own_st (V := s₁.setTop (mkF m 0 #[.val (.ref o1)] [])) (fun t k => castTop (by first | (simp [entryFrame, mkF, argsToLocals, Value.category]; done) | rfl) k) ?_
  refine own_st (V := s₁.setTop (mkF m 1 #[.val (.ref o1)] [(.ref o1)])) (fun t k => XS.aloadN X0.here hx rfl (hb hby own_d16_0) rfl rfl k) ?_
  obtain ⟨T26, X26, e26, st26⟩ := getF X0 hx hZ hown (host := "") (Or.inl (hw _ (List.mem_of_getElem? (i := 92) rfl))) Via.refl e0 F1 (g := (mkF m 1 #[.val (.ref o1)] [(.ref o1)])) rfl rfl (hb hby own_d16_1)
  refine own_st (V := T26.setTop (mkF m 4 #[.val (.ref o1)] [(.int (4 : Int32))])) (fun t k => st26 _ k) ?_
  refine own_st (V := T26.setTop (mkF m 77 #[.val (.ref o1)] [])) (fun t k => XS.tswIn X26.here hx rfl (pc0 := 4) (pc' := 77) rfl (hb hby own_d16_4) rfl (by decide) (o := 73) rfl (by decide) rfl k) ?_
  refine own_st (V := T26.setTop (mkF m 79 #[.val (.ref o1)] [(.int (30 : Int32))])) (fun t k => XS.bipush X26.here hx rfl (hb hby own_d16_77) k) ?_
  refine own_st (V := T26.setTop (mkF m 84 #[.val (.ref o1)] [(.int (30 : Int32))])) (fun t k => XS.goto X26.here hx rfl (pc0 := 79) (pc' := 84) rfl (hb hby own_d16_79) (by decide) (by decide) k) ?_
  exact own_ret X26 hx hlk Bd.returns rfl (Or.inl ⟨rfl, by simp, _, rfl⟩) (hb hby own_d16_84) (by decide) (by decide) (by show Q_own_lm4 Z o1 h0 n0 _ T26.heap _; rw [e26]; exact ⟨rfl, N0, rfl⟩)
theorem own_l2i {x : Int64} {D : Int} (h : x.toInt = D) (h0 : 0 ≤ D) (h1 : D < 32768) : x.toInt32.toInt = D := by
  have a := c_l2i x
  have b := rng32 x.toInt32
  omega
theorem own_sub {x L : Int64} {D k : Int} (h : x.toInt = D) (hL : L.toInt = k) (h0 : 0 ≤ D) (h1 : D < 32768) (h2 : 0 ≤ k) (h3 : k < 32768) : (x - L).toInt = D - k := by
  have a := c_lsub x L
  have b := rng64 (x - L)
  omega
def Q_own_pd3A (Z : State) (o1 : Addr) (y d : Int32) (n : Int64) (D : Int) (h0 : Heap) (n0 : Nat) (v : Option Value) (h : Heap) (L : List Loc) : Prop := ∃ b r, v = some (.ref b) ∧ Fr n0 L ∧ Keep h0 h [] ∧ Exa Z h b "java/time/LocalDate" ∧ Fld Z h b "java/time/LocalDate" "year" "I" (.int y) ∧ Fld Z h b "java/time/LocalDate" "month" "S" (.int (3 : Int32)) ∧ Fld Z h b "java/time/LocalDate" "day" "S" (.int r) ∧ r.toInt = D
theorem own_d15_0 : decode jdk_2323_method_44_code 0 = .ok (.lload_n 1, 1) := by decide +kernel
theorem own_d15_1 : decode jdk_2323_method_44_code 1 = .ok (.lconst 0, 1) := by decide +kernel
theorem own_d15_2 : decode jdk_2323_method_44_code 2 = .ok (.lcmp, 1) := by decide +kernel
theorem own_d15_3 : decode jdk_2323_method_44_code 3 = .ok (.ifCond .ne 5, 3) := by decide +kernel
theorem own_d15_6 : decode jdk_2323_method_44_code 6 = .ok (.aload_n 0, 1) := by decide +kernel
theorem own_d15_7 : decode jdk_2323_method_44_code 7 = .ok (.areturn, 1) := by decide +kernel
set_option maxRecDepth 65536 in
set_option maxHeartbeats 40000000 in
theorem own_pd3A (l : Launch) (Z : State) (a0 : Array Value) (hw : ∀ d ∈ tables_1, d.before a0 Z = true) (ws : List Jvm.Cond) (o1 : Addr) (y d : Int32) (n : Int64) (D : Int) (h0 : Heap) (n0 : Nat) (Z0 : n0 ≤ h0.size) (E1 : Exa Z h0 o1 "java/time/LocalDate") (FY : Fld Z h0 o1 "java/time/LocalDate" "year" "I" (.int y)) (FM : Fld Z h0 o1 "java/time/LocalDate" "month" "S" (.int (3 : Int32))) (FD : Fld Z h0 o1 "java/time/LocalDate" "day" "S" (.int d)) (hn : n.toInt = 0) (hD : d.toInt = D) :
    MetFree l (⟨"java/time/LocalDate", "plusDays", "(J)Ljava/time/LocalDate;"⟩ : MethodName) (head1 (Jvm.Cond.code (⟨"java/time/LocalDate", "plusDays", "(J)Ljava/time/LocalDate;"⟩ : MethodName) jdk_2323_method_44_code 7 (some (.object "java/time/LocalDate")) :: ws) ({ frames := 0, cells := 0, slots := 0, locals := 0 } : Room)) (fun a U => a = #[(.ref o1), (.long n)] ∧ Z.Warmed39 U.vm ∧ U.heap = h0) (fun _ _ _ _ _ => True) (fun _ U o U' => ∃ v L, o = .returned v ∧ Q_own_pd3A Z o1 y d n D h0 n0 v U'.heap L ∧ FrameEnd U o U' L ({ frames := 0, cells := 0, slots := 0, locals := 0 } : Room).cells ({ frames := 0, cells := 0, slots := 0, locals := 0 } : Room).slots) := by
  refine MetFree.of_bodySF (plainFor_of_name own_pn_java_time_LocalDate) hisR ?_
  intro p e s m args below meth c s₁ Bd hml0 hP hK
  obtain ⟨rfl, hZ, hh⟩ := hP
  have hx := Bd.exec
  have hby := Bd.bytes
  have hml : c.maxLocals = 7 := hml0
  have hown : s.vm.findClass "java/time/LocalDate" = some m.cls := findClass_of_methodNamed Bd.named
  have hnm := (name_of_methodNamed Bd.named Bd.method).1
  have hlk : meth.locks = false := BodyLoose.notSynchronized Bd
  have X0 : Stand p l e ({ frames := 0, cells := 0, slots := 0, locals := 0 } : Room) s m #[(.ref o1), (.long n)] below meth c s₁ [] 0 0 := Stand.of_body Bd
  have e0 : s₁.heap = h0 := by rw [← hh, Bd.state]; rfl
  have N0 := Fr.nil n0
  show own_Go p e below #[(.ref o1), (.long n)] s (fun _ U o U' => ∃ v L, o = .returned v ∧ Q_own_pd3A Z o1 y d n D h0 n0 v U'.heap L ∧ FrameEnd U o U' L ({ frames := 0, cells := 0, slots := 0, locals := 0 } : Room).cells ({ frames := 0, cells := 0, slots := 0, locals := 0 } : Room).slots) (s₁.setTop (entryFrame m #[(.ref o1), (.long n)] 7))
  refine own_st (V := s₁.setTop (mkF m 0 #[.val (.ref o1), .val (.long n), .second, .unset, .unset, .unset, .unset] [])) (fun t k => castTop (by first | (simp [entryFrame, mkF, argsToLocals, Value.category]; done) | rfl) k) ?_
  refine own_st (V := s₁.setTop (mkF m 1 #[.val (.ref o1), .val (.long n), .second, .unset, .unset, .unset, .unset] [(.long n)])) (fun t k => XS.lloadN X0.here hx rfl (hb hby own_d15_0) rfl k) ?_
  refine own_st (V := s₁.setTop (mkF m 2 #[.val (.ref o1), .val (.long n), .second, .unset, .unset, .unset, .unset] [(.long (0 : Int64)), (.long n)])) (fun t k => XS.lconst X0.here hx rfl (hb hby own_d15_1) k) ?_
  refine own_st (V := s₁.setTop (mkF m 3 #[.val (.ref o1), .val (.long n), .second, .unset, .unset, .unset, .unset] [(.int (lcmpW n (0 : Int64)))])) (fun t k => XS.lcmp X0.here hx rfl (hb hby own_d15_2) rfl k) ?_
  refine own_st (V := s₁.setTop (mkF m 6 #[.val (.ref o1), .val (.long n), .second, .unset, .unset, .unset, .unset] [])) (fun t k => XS.ifNo X0.here hx rfl (hb hby own_d15_3) rfl ((if0 _ _).trans (teq (own_eq1 (by have e : (0 : Int64).toInt = 0 := (by decide); omega))).2) k) ?_
  refine own_st (V := s₁.setTop (mkF m 7 #[.val (.ref o1), .val (.long n), .second, .unset, .unset, .unset, .unset] [(.ref o1)])) (fun t k => XS.aloadN X0.here hx rfl (hb hby own_d15_6) rfl rfl k) ?_
  exact own_ret X0 hx hlk Bd.returns rfl (Or.inr (Or.inr (Or.inr (Or.inr ⟨rfl, rfl, rfl⟩)))) (hb hby own_d15_7) (by decide) (by decide) (by show Q_own_pd3A Z o1 y d n D h0 n0 _ s₁.heap _; rw [e0]; exact ⟨_, _, rfl, N0, (Keep.refl h0 []), E1, FY, FM, FD, hD⟩)
def Q_own_pd3B (Z : State) (o1 : Addr) (y d : Int32) (n : Int64) (D : Int) (h0 : Heap) (n0 : Nat) (v : Option Value) (h : Heap) (L : List Loc) : Prop := ∃ b r, v = some (.ref b) ∧ Fr n0 L ∧ Keep h0 h [] ∧ Exa Z h b "java/time/LocalDate" ∧ Fld Z h b "java/time/LocalDate" "year" "I" (.int y) ∧ Fld Z h b "java/time/LocalDate" "month" "S" (.int (3 : Int32)) ∧ Fld Z h b "java/time/LocalDate" "day" "S" (.int r) ∧ r.toInt = D
theorem own_d15_8 : decode jdk_2323_method_44_code 8 = .ok (.aload_n 0, 1) := by decide +kernel
theorem own_d15_9 : decode jdk_2323_method_44_code 9 = .ok (.getfield 253, 3) := by decide +kernel
theorem own_d15_12 : decode jdk_2323_method_44_code 12 = .ok (.i2l, 1) := by decide +kernel
theorem own_d15_13 : decode jdk_2323_method_44_code 13 = .ok (.lload_n 1, 1) := by decide +kernel
theorem own_d15_14 : decode jdk_2323_method_44_code 14 = .ok (.ladd, 1) := by decide +kernel
theorem own_d15_15 : decode jdk_2323_method_44_code 15 = .ok (.lstore_n 3, 1) := by decide +kernel
theorem own_d15_16 : decode jdk_2323_method_44_code 16 = .ok (.lload_n 3, 1) := by decide +kernel
theorem own_d15_17 : decode jdk_2323_method_44_code 17 = .ok (.lconst 0, 1) := by decide +kernel
theorem own_d15_18 : decode jdk_2323_method_44_code 18 = .ok (.lcmp, 1) := by decide +kernel
theorem own_d15_19 : decode jdk_2323_method_44_code 19 = .ok (.ifCond .le 135, 3) := by decide +kernel
theorem own_d15_22 : decode jdk_2323_method_44_code 22 = .ok (.lload_n 3, 1) := by decide +kernel
theorem own_d15_23 : decode jdk_2323_method_44_code 23 = .ok (.ldc2_w 483, 3) := by decide +kernel
theorem own_d15_26 : decode jdk_2323_method_44_code 26 = .ok (.lcmp, 1) := by decide +kernel
theorem own_d15_27 : decode jdk_2323_method_44_code 27 = .ok (.ifCond .gt 21, 3) := by decide +kernel
theorem own_d15_30 : decode jdk_2323_method_44_code 30 = .ok (.new 1, 3) := by decide +kernel
theorem own_d15_33 : decode jdk_2323_method_44_code 33 = .ok (.dup, 1) := by decide +kernel
theorem own_d15_34 : decode jdk_2323_method_44_code 34 = .ok (.aload_n 0, 1) := by decide +kernel
theorem own_d15_35 : decode jdk_2323_method_44_code 35 = .ok (.getfield 246, 3) := by decide +kernel
theorem own_d15_38 : decode jdk_2323_method_44_code 38 = .ok (.aload_n 0, 1) := by decide +kernel
theorem own_d15_39 : decode jdk_2323_method_44_code 39 = .ok (.getfield 250, 3) := by decide +kernel
theorem own_d15_42 : decode jdk_2323_method_44_code 42 = .ok (.lload_n 3, 1) := by decide +kernel
theorem own_d15_43 : decode jdk_2323_method_44_code 43 = .ok (.l2i, 1) := by decide +kernel
theorem own_d15_44 : decode jdk_2323_method_44_code 44 = .ok (.invokespecial 121, 3) := by decide +kernel
theorem own_d15_47 : decode jdk_2323_method_44_code 47 = .ok (.areturn, 1) := by decide +kernel
set_option maxRecDepth 65536 in
set_option maxHeartbeats 40000000 in
theorem own_pd3B (l : Launch) (Z : State) (a0 : Array Value) (hw : ∀ d ∈ tables_1, d.before a0 Z = true) (ws : List Jvm.Cond) (o1 : Addr) (y d : Int32) (n : Int64) (D : Int) (h0 : Heap) (n0 : Nat) (Z0 : n0 ≤ h0.size) (E1 : Exa Z h0 o1 "java/time/LocalDate") (FY : Fld Z h0 o1 "java/time/LocalDate" "year" "I" (.int y)) (FM : Fld Z h0 o1 "java/time/LocalDate" "month" "S" (.int (3 : Int32))) (FD : Fld Z h0 o1 "java/time/LocalDate" "day" "S" (.int d)) (hn : ¬ (n.toInt = 0)) (hD : (d.toInt64 + n).toInt = D) (h1 : 1 ≤ D) (h2 : D ≤ 28) :
    MetFree l (⟨"java/time/LocalDate", "plusDays", "(J)Ljava/time/LocalDate;"⟩ : MethodName) (head1 (Jvm.Cond.code (⟨"java/time/LocalDate", "plusDays", "(J)Ljava/time/LocalDate;"⟩ : MethodName) jdk_2323_method_44_code 7 (some (.object "java/time/LocalDate")) :: ws) ({ frames := 2, cells := 1, slots := 3, locals := 28 } : Room)) (fun a U => a = #[(.ref o1), (.long n)] ∧ Z.Warmed39 U.vm ∧ U.heap = h0) (fun _ _ _ _ _ => True) (fun _ U o U' => ∃ v L, o = .returned v ∧ Q_own_pd3B Z o1 y d n D h0 n0 v U'.heap L ∧ FrameEnd U o U' L ({ frames := 2, cells := 1, slots := 3, locals := 28 } : Room).cells ({ frames := 2, cells := 1, slots := 3, locals := 28 } : Room).slots) := by
  refine MetFree.of_bodySF (plainFor_of_name own_pn_java_time_LocalDate) hisR ?_
  intro p e s m args below meth c s₁ Bd hml0 hP hK
  obtain ⟨rfl, hZ, hh⟩ := hP
  have hx := Bd.exec
  have hby := Bd.bytes
  have hml : c.maxLocals = 7 := hml0
  have hown : s.vm.findClass "java/time/LocalDate" = some m.cls := findClass_of_methodNamed Bd.named
  have hnm := (name_of_methodNamed Bd.named Bd.method).1
  have hlk : meth.locks = false := BodyLoose.notSynchronized Bd
  have X0 : Stand p l e ({ frames := 2, cells := 1, slots := 3, locals := 28 } : Room) s m #[(.ref o1), (.long n)] below meth c s₁ [] 0 0 := Stand.of_body Bd
  have e0 : s₁.heap = h0 := by rw [← hh, Bd.state]; rfl
  have N0 := Fr.nil n0
  show own_Go p e below #[(.ref o1), (.long n)] s (fun _ U o U' => ∃ v L, o = .returned v ∧ Q_own_pd3B Z o1 y d n D h0 n0 v U'.heap L ∧ FrameEnd U o U' L ({ frames := 2, cells := 1, slots := 3, locals := 28 } : Room).cells ({ frames := 2, cells := 1, slots := 3, locals := 28 } : Room).slots) (s₁.setTop (entryFrame m #[(.ref o1), (.long n)] 7))
  refine own_st (V := s₁.setTop (mkF m 0 #[.val (.ref o1), .val (.long n), .second, .unset, .unset, .unset, .unset] [])) (fun t k => castTop (by first | (simp [entryFrame, mkF, argsToLocals, Value.category]; done) | rfl) k) ?_
  refine own_st (V := s₁.setTop (mkF m 1 #[.val (.ref o1), .val (.long n), .second, .unset, .unset, .unset, .unset] [(.long n)])) (fun t k => XS.lloadN X0.here hx rfl (hb hby own_d15_0) rfl k) ?_
  refine own_st (V := s₁.setTop (mkF m 2 #[.val (.ref o1), .val (.long n), .second, .unset, .unset, .unset, .unset] [(.long (0 : Int64)), (.long n)])) (fun t k => XS.lconst X0.here hx rfl (hb hby own_d15_1) k) ?_
  refine own_st (V := s₁.setTop (mkF m 3 #[.val (.ref o1), .val (.long n), .second, .unset, .unset, .unset, .unset] [(.int (lcmpW n (0 : Int64)))])) (fun t k => XS.lcmp X0.here hx rfl (hb hby own_d15_2) rfl k) ?_
  refine own_st (V := s₁.setTop (mkF m 8 #[.val (.ref o1), .val (.long n), .second, .unset, .unset, .unset, .unset] [])) (fun t k => XS.ifYes X0.here hx rfl (pc0 := 3) (pc' := 8) rfl (hb hby own_d15_3) rfl ((if0 _ _).trans (feq (own_eq0 (by have e : (0 : Int64).toInt = 0 := (by decide); omega))).2) (by decide) (by decide) k) ?_
  refine own_st (V := s₁.setTop (mkF m 9 #[.val (.ref o1), .val (.long n), .second, .unset, .unset, .unset, .unset] [(.ref o1)])) (fun t k => XS.aloadN X0.here hx rfl (hb hby own_d15_8) rfl rfl k) ?_
  obtain ⟨T27, X27, e27, st27⟩ := getF X0 hx hZ hown (host := "") (Or.inl (hw _ (List.mem_of_getElem? (i := 94) rfl))) Via.refl e0 FD (g := (mkF m 9 #[.val (.ref o1), .val (.long n), .second, .unset, .unset, .unset, .unset] [(.ref o1)])) rfl rfl (hb hby own_d15_9)
  refine own_st (V := T27.setTop (mkF m 12 #[.val (.ref o1), .val (.long n), .second, .unset, .unset, .unset, .unset] [(.int d)])) (fun t k => st27 _ k) ?_
  refine own_st (V := T27.setTop (mkF m 13 #[.val (.ref o1), .val (.long n), .second, .unset, .unset, .unset, .unset] [(.long (d.toInt64))])) (fun t k => XS.i2l X27.here hx rfl (hb hby own_d15_12) rfl k) ?_
  refine own_st (V := T27.setTop (mkF m 14 #[.val (.ref o1), .val (.long n), .second, .unset, .unset, .unset, .unset] [(.long n), (.long (d.toInt64))])) (fun t k => XS.lloadN X27.here hx rfl (hb hby own_d15_13) rfl k) ?_
  refine own_st (V := T27.setTop (mkF m 15 #[.val (.ref o1), .val (.long n), .second, .unset, .unset, .unset, .unset] [(.long ((d.toInt64) + n))])) (fun t k => XS.ladd X27.here hx rfl (hb hby own_d15_14) rfl k) ?_
  refine own_st (V := T27.setTop (mkF m 16 #[.val (.ref o1), .val (.long n), .second, .val (.long ((d.toInt64) + n)), .second, .unset, .unset] [])) (fun t k => XS.lstoreN X27.here hx rfl (hb hby own_d15_15) rfl (l' := #[.val (.ref o1), .val (.long n), .second, .val (.long ((d.toInt64) + n)), .second, .unset, .unset]) rfl k) ?_
  refine own_st (V := T27.setTop (mkF m 17 #[.val (.ref o1), .val (.long n), .second, .val (.long ((d.toInt64) + n)), .second, .unset, .unset] [(.long ((d.toInt64) + n))])) (fun t k => XS.lloadN X27.here hx rfl (hb hby own_d15_16) rfl k) ?_
  refine own_st (V := T27.setTop (mkF m 18 #[.val (.ref o1), .val (.long n), .second, .val (.long ((d.toInt64) + n)), .second, .unset, .unset] [(.long (0 : Int64)), (.long ((d.toInt64) + n))])) (fun t k => XS.lconst X27.here hx rfl (hb hby own_d15_17) k) ?_
  refine own_st (V := T27.setTop (mkF m 19 #[.val (.ref o1), .val (.long n), .second, .val (.long ((d.toInt64) + n)), .second, .unset, .unset] [(.int (lcmpW ((d.toInt64) + n) (0 : Int64)))])) (fun t k => XS.lcmp X27.here hx rfl (hb hby own_d15_18) rfl k) ?_
  refine own_st (V := T27.setTop (mkF m 22 #[.val (.ref o1), .val (.long n), .second, .val (.long ((d.toInt64) + n)), .second, .unset, .unset] [])) (fun t k => XS.ifNo X27.here hx rfl (hb hby own_d15_19) rfl ((if0 _ _).trans (tlt (own_gt1 (by have e : (0 : Int64).toInt = 0 := (by decide); omega))).2.2.2) k) ?_
  refine own_st (V := T27.setTop (mkF m 23 #[.val (.ref o1), .val (.long n), .second, .val (.long ((d.toInt64) + n)), .second, .unset, .unset] [(.long ((d.toInt64) + n))])) (fun t k => XS.lloadN X27.here hx rfl (hb hby own_d15_22) rfl k) ?_
  refine own_st (V := T27.setTop (mkF m 26 #[.val (.ref o1), .val (.long n), .second, .val (.long ((d.toInt64) + n)), .second, .unset, .unset] [(.long (28 : Int64)), (.long ((d.toInt64) + n))])) (fun t k => X27.ldc2Long hx hown (mvT hZ (hw _ (List.mem_of_getElem? (i := 101) rfl))) (g := (mkF m 23 #[.val (.ref o1), .val (.long n), .second, .val (.long ((d.toInt64) + n)), .second, .unset, .unset] [(.long ((d.toInt64) + n))])) rfl (hb hby own_d15_23) t k) ?_
  refine own_st (V := T27.setTop (mkF m 27 #[.val (.ref o1), .val (.long n), .second, .val (.long ((d.toInt64) + n)), .second, .unset, .unset] [(.int (lcmpW ((d.toInt64) + n) (28 : Int64)))])) (fun t k => XS.lcmp X27.here hx rfl (hb hby own_d15_26) rfl k) ?_
  refine own_st (V := T27.setTop (mkF m 30 #[.val (.ref o1), .val (.long n), .second, .val (.long ((d.toInt64) + n)), .second, .unset, .unset] [])) (fun t k => XS.ifNo X27.here hx rfl (hb hby own_d15_27) rfl ((if0 _ _).trans (flt (own_gt0 (by have e : (28 : Int64).toInt = 28 := (by decide); omega))).2.2.1) k) ?_
  obtain ⟨T28, h28, X28, e28, E28, A28, D28, -, st28⟩ := newO X27 hx hZ hown (hw _ (List.mem_of_getElem? (i := 81) rfl)) (hw _ (List.mem_of_getElem? (i := 82) rfl)) (hw _ (List.mem_of_getElem? (i := 10) rfl)) e27 (g := (mkF m 30 #[.val (.ref o1), .val (.long n), .second, .val (.long ((d.toInt64) + n)), .second, .unset, .unset] [])) rfl (hb hby own_d15_30) (by decide) (by decide)
  obtain ⟨b28, g28⟩ : ∃ z, z = h0.size := ⟨_, rfl⟩
  rw [← g28] at A28 D28 st28
  have gb_b28 : n0 ≤ b28 := Nat.le_trans Z0 (Nat.le_of_eq g28.symm)
  have Z0_28 : n0 ≤ h28.size := Nat.le_trans Z0 E28.1
  have sz_b28 : h0.size ≤ b28 := Nat.le_trans (Keep.refl h0 []).1 (Nat.le_of_eq g28.symm)
  have Kc28 := (Keep.refl h0 []).ext E28
  have ne_o1_b28 : o1 ≠ b28 := Nat.ne_of_lt (Nat.lt_of_lt_of_le E1.lt (Nat.le_of_eq g28.symm))
  have F28_o1_year := FY.ext E28
  have F28_o1_month := FM.ext E28
  have F28_o1_day := FD.ext E28
  have Ex28_o1 := E1.ext E28
  have F28_b28_year : Fld Z h28 b28 "java/time/LocalDate" "year" "I" (.int (0 : Int32)) := D28 (Or.inr (hw _ (List.mem_of_getElem? (i := 91) rfl))) (ty := .int) (by decide)
  have F28_b28_month : Fld Z h28 b28 "java/time/LocalDate" "month" "S" (.int (0 : Int32)) := D28 (Or.inr (hw _ (List.mem_of_getElem? (i := 93) rfl))) (ty := .short) (by decide)
  have F28_b28_day : Fld Z h28 b28 "java/time/LocalDate" "day" "S" (.int (0 : Int32)) := D28 (Or.inr (hw _ (List.mem_of_getElem? (i := 95) rfl))) (ty := .short) (by decide)
  refine own_st (V := T28.setTop (mkF m 33 #[.val (.ref o1), .val (.long n), .second, .val (.long ((d.toInt64) + n)), .second, .unset, .unset] [(.ref b28)])) (fun t k => st28 _ k) ?_
  refine own_st (V := T28.setTop (mkF m 34 #[.val (.ref o1), .val (.long n), .second, .val (.long ((d.toInt64) + n)), .second, .unset, .unset] [(.ref b28), (.ref b28)])) (fun t k => XS.dup X28.here hx rfl (hb hby own_d15_33) rfl rfl k) ?_
  refine own_st (V := T28.setTop (mkF m 35 #[.val (.ref o1), .val (.long n), .second, .val (.long ((d.toInt64) + n)), .second, .unset, .unset] [(.ref o1), (.ref b28), (.ref b28)])) (fun t k => XS.aloadN X28.here hx rfl (hb hby own_d15_34) rfl rfl k) ?_
  obtain ⟨T29, X29, e29, st29⟩ := getF X28 hx hZ hown (host := "") (Or.inl (hw _ (List.mem_of_getElem? (i := 90) rfl))) Via.refl e28 F28_o1_year (g := (mkF m 35 #[.val (.ref o1), .val (.long n), .second, .val (.long ((d.toInt64) + n)), .second, .unset, .unset] [(.ref o1), (.ref b28), (.ref b28)])) rfl rfl (hb hby own_d15_35)
  refine own_st (V := T29.setTop (mkF m 38 #[.val (.ref o1), .val (.long n), .second, .val (.long ((d.toInt64) + n)), .second, .unset, .unset] [(.int y), (.ref b28), (.ref b28)])) (fun t k => st29 _ k) ?_
  refine own_st (V := T29.setTop (mkF m 39 #[.val (.ref o1), .val (.long n), .second, .val (.long ((d.toInt64) + n)), .second, .unset, .unset] [(.ref o1), (.int y), (.ref b28), (.ref b28)])) (fun t k => XS.aloadN X29.here hx rfl (hb hby own_d15_38) rfl rfl k) ?_
  obtain ⟨T30, X30, e30, st30⟩ := getF X29 hx hZ hown (host := "") (Or.inl (hw _ (List.mem_of_getElem? (i := 92) rfl))) Via.refl e29 F28_o1_month (g := (mkF m 39 #[.val (.ref o1), .val (.long n), .second, .val (.long ((d.toInt64) + n)), .second, .unset, .unset] [(.ref o1), (.int y), (.ref b28), (.ref b28)])) rfl rfl (hb hby own_d15_39)
  refine own_st (V := T30.setTop (mkF m 42 #[.val (.ref o1), .val (.long n), .second, .val (.long ((d.toInt64) + n)), .second, .unset, .unset] [(.int (3 : Int32)), (.int y), (.ref b28), (.ref b28)])) (fun t k => st30 _ k) ?_
  refine own_st (V := T30.setTop (mkF m 43 #[.val (.ref o1), .val (.long n), .second, .val (.long ((d.toInt64) + n)), .second, .unset, .unset] [(.long ((d.toInt64) + n)), (.int (3 : Int32)), (.int y), (.ref b28), (.ref b28)])) (fun t k => XS.lloadN X30.here hx rfl (hb hby own_d15_42) rfl k) ?_
  refine own_st (V := T30.setTop (mkF m 44 #[.val (.ref o1), .val (.long n), .second, .val (.long ((d.toInt64) + n)), .second, .unset, .unset] [(.int (((d.toInt64) + n).toInt32)), (.int (3 : Int32)), (.int y), (.ref b28), (.ref b28)])) (fun t k => XS.l2i X30.here hx rfl (hb hby own_d15_43) rfl k) ?_
  obtain ⟨_, _, ⟨T31, L31, k31, n31⟩, -, X31, ⟨Lc31, hQ31, l31, y31, z31⟩, st31⟩ := X30.specialBack hx (y := (⟨"java/time/LocalDate", "<init>", "(III)V"⟩ : MethodName)) rfl hown (mvT hZ (hw _ (List.mem_of_getElem? (i := 83) rfl))) (mvT hZ (hw _ (List.mem_of_getElem? (i := 84) rfl))) (mvT hZ (hw _ (List.mem_of_getElem? (i := 86) rfl))) (by decide) (backOf (W := 1) (own_di l Z a0 hw [] b28 y (3 : Int32) (((d.toInt64) + n).toInt32) h28 n0 Z0_28 F28_b28_year F28_b28_month F28_b28_day A28 gb_b28 (by decide) (by decide) (by rw [own_l2i hD (by omega) (by omega)]; omega) (by rw [own_l2i hD (by omega) (by omega)]; omega)) hZ (hw _ (List.mem_of_getElem? (i := 86) rfl)) (hw _ (List.mem_of_getElem? (i := 10) rfl)) (by decide) (by decide)) (g := (mkF m 44 #[.val (.ref o1), .val (.long n), .second, .val (.long ((d.toInt64) + n)), .second, .unset, .unset] [(.int (((d.toInt64) + n).toInt32)), (.int (3 : Int32)), (.int y), (.ref b28), (.ref b28)])) rfl (by rw [hml]; rfl) (Steps.refl _) (a := b28) (argsL := [(.int y), (.int (3 : Int32)), (.int (((d.toInt64) + n).toInt32))]) (rest := [(.ref b28)]) (lenOf own_pd5 rfl) rfl (by show 2 * 0 + _ ≤ _; exact Nat.le_of_eq rfl) (hb hby own_d15_44) (fun _ _ => ⟨rfl, e30, (by decide : 1 + 0 ≤ _), (by decide : 3 + 0 ≤ _)⟩)
  dsimp only [Pt.U, Pt.locs, Pt.cells, Pt.slots] at X31 l31 y31 z31 st31 hQ31
  subst l31 y31 z31
  obtain ⟨rfl, N31q, K31, Ex31_q, Fq31_0, Fq31_1, Fq31_2⟩ := hQ31
  have N31 := Fr.app N0 N31q
  have Z0_31 : n0 ≤ T31.heap.size := Nat.le_trans Z0_28 K31.1
  have Kc31 := Kc28.trans K31 (fun x hx => Or.inr (by cases List.mem_singleton.mp hx; exact sz_b28))
  have F31_o1_year := F28_o1_year.keep K31 (ninS ne_o1_b28 nin0)
  have F31_o1_month := F28_o1_month.keep K31 (ninS ne_o1_b28 nin0)
  have F31_o1_day := F28_o1_day.keep K31 (ninS ne_o1_b28 nin0)
  have Ex31_o1 := Ex28_o1.keep K31
  have Ex31_b28 := A28.keep K31
  refine own_st (V := T31.setTop (mkF m 47 #[.val (.ref o1), .val (.long n), .second, .val (.long ((d.toInt64) + n)), .second, .unset, .unset] [(.ref b28)])) (fun t k => st31.trans k) ?_
  exact own_ret X31 hx hlk Bd.returns rfl (Or.inr (Or.inr (Or.inr (Or.inr ⟨rfl, rfl, rfl⟩)))) (hb hby own_d15_47) (by decide) (by decide) (by show Q_own_pd3B Z o1 y d n D h0 n0 _ T31.heap _; exact ⟨_, _, rfl, N31, Kc31, Ex31_q, Fq31_0, Fq31_1, Fq31_2, (own_l2i hD (by omega) (by omega))⟩)
def Q_own_pd3C (Z : State) (o1 : Addr) (y d : Int32) (n : Int64) (D : Int) (h0 : Heap) (n0 : Nat) (v : Option Value) (h : Heap) (L : List Loc) : Prop := ∃ b r, v = some (.ref b) ∧ Fr n0 L ∧ Keep h0 h [] ∧ Exa Z h b "java/time/LocalDate" ∧ Fld Z h b "java/time/LocalDate" "year" "I" (.int y) ∧ Fld Z h b "java/time/LocalDate" "month" "S" (.int (3 : Int32)) ∧ Fld Z h b "java/time/LocalDate" "day" "S" (.int r) ∧ r.toInt = D
theorem own_d15_48 : decode jdk_2323_method_44_code 48 = .ok (.lload_n 3, 1) := by decide +kernel
theorem own_d15_49 : decode jdk_2323_method_44_code 49 = .ok (.ldc2_w 485, 3) := by decide +kernel
theorem own_d15_52 : decode jdk_2323_method_44_code 52 = .ok (.lcmp, 1) := by decide +kernel
theorem own_d15_53 : decode jdk_2323_method_44_code 53 = .ok (.ifCond .gt 101, 3) := by decide +kernel
theorem own_d15_56 : decode jdk_2323_method_44_code 56 = .ok (.aload_n 0, 1) := by decide +kernel
theorem own_d15_57 : decode jdk_2323_method_44_code 57 = .ok (.invokevirtual 278, 3) := by decide +kernel
theorem own_d15_60 : decode jdk_2323_method_44_code 60 = .ok (.i2l, 1) := by decide +kernel
theorem own_d15_61 : decode jdk_2323_method_44_code 61 = .ok (.lstore 5, 2) := by decide +kernel
theorem own_d15_63 : decode jdk_2323_method_44_code 63 = .ok (.lload_n 3, 1) := by decide +kernel
theorem own_d15_64 : decode jdk_2323_method_44_code 64 = .ok (.lload 5, 2) := by decide +kernel
theorem own_d15_66 : decode jdk_2323_method_44_code 66 = .ok (.lcmp, 1) := by decide +kernel
theorem own_d15_67 : decode jdk_2323_method_44_code 67 = .ok (.ifCond .gt 21, 3) := by decide +kernel
theorem own_d15_70 : decode jdk_2323_method_44_code 70 = .ok (.new 1, 3) := by decide +kernel
theorem own_d15_73 : decode jdk_2323_method_44_code 73 = .ok (.dup, 1) := by decide +kernel
theorem own_d15_74 : decode jdk_2323_method_44_code 74 = .ok (.aload_n 0, 1) := by decide +kernel
theorem own_d15_75 : decode jdk_2323_method_44_code 75 = .ok (.getfield 246, 3) := by decide +kernel
theorem own_d15_78 : decode jdk_2323_method_44_code 78 = .ok (.aload_n 0, 1) := by decide +kernel
theorem own_d15_79 : decode jdk_2323_method_44_code 79 = .ok (.getfield 250, 3) := by decide +kernel
theorem own_d15_82 : decode jdk_2323_method_44_code 82 = .ok (.lload_n 3, 1) := by decide +kernel
theorem own_d15_83 : decode jdk_2323_method_44_code 83 = .ok (.l2i, 1) := by decide +kernel
theorem own_d15_84 : decode jdk_2323_method_44_code 84 = .ok (.invokespecial 121, 3) := by decide +kernel
theorem own_d15_87 : decode jdk_2323_method_44_code 87 = .ok (.areturn, 1) := by decide +kernel
set_option maxRecDepth 65536 in
set_option maxHeartbeats 40000000 in
theorem own_pd3C (l : Launch) (Z : State) (a0 : Array Value) (hw : ∀ d ∈ tables_1, d.before a0 Z = true) (ws : List Jvm.Cond) (o1 : Addr) (y d : Int32) (n : Int64) (D : Int) (h0 : Heap) (n0 : Nat) (Z0 : n0 ≤ h0.size) (E1 : Exa Z h0 o1 "java/time/LocalDate") (FY : Fld Z h0 o1 "java/time/LocalDate" "year" "I" (.int y)) (FM : Fld Z h0 o1 "java/time/LocalDate" "month" "S" (.int (3 : Int32))) (FD : Fld Z h0 o1 "java/time/LocalDate" "day" "S" (.int d)) (hn : ¬ (n.toInt = 0)) (hD : (d.toInt64 + n).toInt = D) (h1 : 28 < D) (h2 : D ≤ 31) :
    MetFree l (⟨"java/time/LocalDate", "plusDays", "(J)Ljava/time/LocalDate;"⟩ : MethodName) (head1 (Jvm.Cond.code (⟨"java/time/LocalDate", "plusDays", "(J)Ljava/time/LocalDate;"⟩ : MethodName) jdk_2323_method_44_code 7 (some (.object "java/time/LocalDate")) :: ws) ({ frames := 2, cells := 1, slots := 3, locals := 28 } : Room)) (fun a U => a = #[(.ref o1), (.long n)] ∧ Z.Warmed39 U.vm ∧ U.heap = h0) (fun _ _ _ _ _ => True) (fun _ U o U' => ∃ v L, o = .returned v ∧ Q_own_pd3C Z o1 y d n D h0 n0 v U'.heap L ∧ FrameEnd U o U' L ({ frames := 2, cells := 1, slots := 3, locals := 28 } : Room).cells ({ frames := 2, cells := 1, slots := 3, locals := 28 } : Room).slots) := by
  refine MetFree.of_bodySF (plainFor_of_name own_pn_java_time_LocalDate) hisR ?_
  intro p e s m args below meth c s₁ Bd hml0 hP hK
  obtain ⟨rfl, hZ, hh⟩ := hP
  have hx := Bd.exec
  have hby := Bd.bytes
  have hml : c.maxLocals = 7 := hml0
  have hown : s.vm.findClass "java/time/LocalDate" = some m.cls := findClass_of_methodNamed Bd.named
  have hnm := (name_of_methodNamed Bd.named Bd.method).1
  have hlk : meth.locks = false := BodyLoose.notSynchronized Bd
  have X0 : Stand p l e ({ frames := 2, cells := 1, slots := 3, locals := 28 } : Room) s m #[(.ref o1), (.long n)] below meth c s₁ [] 0 0 := Stand.of_body Bd
  have e0 : s₁.heap = h0 := by rw [← hh, Bd.state]; rfl
  have N0 := Fr.nil n0
  show own_Go p e below #[(.ref o1), (.long n)] s (fun _ U o U' => ∃ v L, o = .returned v ∧ Q_own_pd3C Z o1 y d n D h0 n0 v U'.heap L ∧ FrameEnd U o U' L ({ frames := 2, cells := 1, slots := 3, locals := 28 } : Room).cells ({ frames := 2, cells := 1, slots := 3, locals := 28 } : Room).slots) (s₁.setTop (entryFrame m #[(.ref o1), (.long n)] 7))
  refine own_st (V := s₁.setTop (mkF m 0 #[.val (.ref o1), .val (.long n), .second, .unset, .unset, .unset, .unset] [])) (fun t k => castTop (by first | (simp [entryFrame, mkF, argsToLocals, Value.category]; done) | rfl) k) ?_
  refine own_st (V := s₁.setTop (mkF m 1 #[.val (.ref o1), .val (.long n), .second, .unset, .unset, .unset, .unset] [(.long n)])) (fun t k => XS.lloadN X0.here hx rfl (hb hby own_d15_0) rfl k) ?_
  refine own_st (V := s₁.setTop (mkF m 2 #[.val (.ref o1), .val (.long n), .second, .unset, .unset, .unset, .unset] [(.long (0 : Int64)), (.long n)])) (fun t k => XS.lconst X0.here hx rfl (hb hby own_d15_1) k) ?_
  refine own_st (V := s₁.setTop (mkF m 3 #[.val (.ref o1), .val (.long n), .second, .unset, .unset, .unset, .unset] [(.int (lcmpW n (0 : Int64)))])) (fun t k => XS.lcmp X0.here hx rfl (hb hby own_d15_2) rfl k) ?_
  refine own_st (V := s₁.setTop (mkF m 8 #[.val (.ref o1), .val (.long n), .second, .unset, .unset, .unset, .unset] [])) (fun t k => XS.ifYes X0.here hx rfl (pc0 := 3) (pc' := 8) rfl (hb hby own_d15_3) rfl ((if0 _ _).trans (feq (own_eq0 (by have e : (0 : Int64).toInt = 0 := (by decide); omega))).2) (by decide) (by decide) k) ?_
  refine own_st (V := s₁.setTop (mkF m 9 #[.val (.ref o1), .val (.long n), .second, .unset, .unset, .unset, .unset] [(.ref o1)])) (fun t k => XS.aloadN X0.here hx rfl (hb hby own_d15_8) rfl rfl k) ?_
  obtain ⟨T32, X32, e32, st32⟩ := getF X0 hx hZ hown (host := "") (Or.inl (hw _ (List.mem_of_getElem? (i := 94) rfl))) Via.refl e0 FD (g := (mkF m 9 #[.val (.ref o1), .val (.long n), .second, .unset, .unset, .unset, .unset] [(.ref o1)])) rfl rfl (hb hby own_d15_9)
  refine own_st (V := T32.setTop (mkF m 12 #[.val (.ref o1), .val (.long n), .second, .unset, .unset, .unset, .unset] [(.int d)])) (fun t k => st32 _ k) ?_
  refine own_st (V := T32.setTop (mkF m 13 #[.val (.ref o1), .val (.long n), .second, .unset, .unset, .unset, .unset] [(.long (d.toInt64))])) (fun t k => XS.i2l X32.here hx rfl (hb hby own_d15_12) rfl k) ?_
  refine own_st (V := T32.setTop (mkF m 14 #[.val (.ref o1), .val (.long n), .second, .unset, .unset, .unset, .unset] [(.long n), (.long (d.toInt64))])) (fun t k => XS.lloadN X32.here hx rfl (hb hby own_d15_13) rfl k) ?_
  refine own_st (V := T32.setTop (mkF m 15 #[.val (.ref o1), .val (.long n), .second, .unset, .unset, .unset, .unset] [(.long ((d.toInt64) + n))])) (fun t k => XS.ladd X32.here hx rfl (hb hby own_d15_14) rfl k) ?_
  refine own_st (V := T32.setTop (mkF m 16 #[.val (.ref o1), .val (.long n), .second, .val (.long ((d.toInt64) + n)), .second, .unset, .unset] [])) (fun t k => XS.lstoreN X32.here hx rfl (hb hby own_d15_15) rfl (l' := #[.val (.ref o1), .val (.long n), .second, .val (.long ((d.toInt64) + n)), .second, .unset, .unset]) rfl k) ?_
  refine own_st (V := T32.setTop (mkF m 17 #[.val (.ref o1), .val (.long n), .second, .val (.long ((d.toInt64) + n)), .second, .unset, .unset] [(.long ((d.toInt64) + n))])) (fun t k => XS.lloadN X32.here hx rfl (hb hby own_d15_16) rfl k) ?_
  refine own_st (V := T32.setTop (mkF m 18 #[.val (.ref o1), .val (.long n), .second, .val (.long ((d.toInt64) + n)), .second, .unset, .unset] [(.long (0 : Int64)), (.long ((d.toInt64) + n))])) (fun t k => XS.lconst X32.here hx rfl (hb hby own_d15_17) k) ?_
  refine own_st (V := T32.setTop (mkF m 19 #[.val (.ref o1), .val (.long n), .second, .val (.long ((d.toInt64) + n)), .second, .unset, .unset] [(.int (lcmpW ((d.toInt64) + n) (0 : Int64)))])) (fun t k => XS.lcmp X32.here hx rfl (hb hby own_d15_18) rfl k) ?_
  refine own_st (V := T32.setTop (mkF m 22 #[.val (.ref o1), .val (.long n), .second, .val (.long ((d.toInt64) + n)), .second, .unset, .unset] [])) (fun t k => XS.ifNo X32.here hx rfl (hb hby own_d15_19) rfl ((if0 _ _).trans (tlt (own_gt1 (by have e : (0 : Int64).toInt = 0 := (by decide); omega))).2.2.2) k) ?_
  refine own_st (V := T32.setTop (mkF m 23 #[.val (.ref o1), .val (.long n), .second, .val (.long ((d.toInt64) + n)), .second, .unset, .unset] [(.long ((d.toInt64) + n))])) (fun t k => XS.lloadN X32.here hx rfl (hb hby own_d15_22) rfl k) ?_
  refine own_st (V := T32.setTop (mkF m 26 #[.val (.ref o1), .val (.long n), .second, .val (.long ((d.toInt64) + n)), .second, .unset, .unset] [(.long (28 : Int64)), (.long ((d.toInt64) + n))])) (fun t k => X32.ldc2Long hx hown (mvT hZ (hw _ (List.mem_of_getElem? (i := 101) rfl))) (g := (mkF m 23 #[.val (.ref o1), .val (.long n), .second, .val (.long ((d.toInt64) + n)), .second, .unset, .unset] [(.long ((d.toInt64) + n))])) rfl (hb hby own_d15_23) t k) ?_
  refine own_st (V := T32.setTop (mkF m 27 #[.val (.ref o1), .val (.long n), .second, .val (.long ((d.toInt64) + n)), .second, .unset, .unset] [(.int (lcmpW ((d.toInt64) + n) (28 : Int64)))])) (fun t k => XS.lcmp X32.here hx rfl (hb hby own_d15_26) rfl k) ?_
  refine own_st (V := T32.setTop (mkF m 48 #[.val (.ref o1), .val (.long n), .second, .val (.long ((d.toInt64) + n)), .second, .unset, .unset] [])) (fun t k => XS.ifYes X32.here hx rfl (pc0 := 27) (pc' := 48) rfl (hb hby own_d15_27) rfl ((if0 _ _).trans (tlt (own_gt1 (by have e : (28 : Int64).toInt = 28 := (by decide); omega))).2.2.1) (by decide) (by decide) k) ?_
  refine own_st (V := T32.setTop (mkF m 49 #[.val (.ref o1), .val (.long n), .second, .val (.long ((d.toInt64) + n)), .second, .unset, .unset] [(.long ((d.toInt64) + n))])) (fun t k => XS.lloadN X32.here hx rfl (hb hby own_d15_48) rfl k) ?_
  refine own_st (V := T32.setTop (mkF m 52 #[.val (.ref o1), .val (.long n), .second, .val (.long ((d.toInt64) + n)), .second, .unset, .unset] [(.long (59 : Int64)), (.long ((d.toInt64) + n))])) (fun t k => X32.ldc2Long hx hown (mvT hZ (hw _ (List.mem_of_getElem? (i := 102) rfl))) (g := (mkF m 49 #[.val (.ref o1), .val (.long n), .second, .val (.long ((d.toInt64) + n)), .second, .unset, .unset] [(.long ((d.toInt64) + n))])) rfl (hb hby own_d15_49) t k) ?_
  refine own_st (V := T32.setTop (mkF m 53 #[.val (.ref o1), .val (.long n), .second, .val (.long ((d.toInt64) + n)), .second, .unset, .unset] [(.int (lcmpW ((d.toInt64) + n) (59 : Int64)))])) (fun t k => XS.lcmp X32.here hx rfl (hb hby own_d15_52) rfl k) ?_
  refine own_st (V := T32.setTop (mkF m 56 #[.val (.ref o1), .val (.long n), .second, .val (.long ((d.toInt64) + n)), .second, .unset, .unset] [])) (fun t k => XS.ifNo X32.here hx rfl (hb hby own_d15_53) rfl ((if0 _ _).trans (flt (own_gt0 (by have e : (59 : Int64).toInt = 59 := (by decide); omega))).2.2.1) k) ?_
  refine own_st (V := T32.setTop (mkF m 57 #[.val (.ref o1), .val (.long n), .second, .val (.long ((d.toInt64) + n)), .second, .unset, .unset] [(.ref o1)])) (fun t k => XS.aloadN X32.here hx rfl (hb hby own_d15_56) rfl rfl k) ?_
  obtain ⟨cq33, kq33, q33a, q33b, q33c⟩ := isOf hZ e32 E1
  obtain ⟨_, _, ⟨T33, L33, k33, n33⟩, -, X33, ⟨Lc33, hQ33, l33, y33, z33⟩, st33⟩ := X32.virtualBack hx (y := (⟨"java/time/LocalDate", "lengthOfMonth", "()I"⟩ : MethodName)) (z := (⟨"java/time/LocalDate", "lengthOfMonth", "()I"⟩ : MethodName)) hown (mvT hZ (hw _ (List.mem_of_getElem? (i := 103) rfl))) (mvT hZ (hw _ (List.mem_of_getElem? (i := 104) rfl))) (notFace_of_selects (args := #[]) (mvT hZ (hw _ (List.mem_of_getElem? (i := 106) rfl)))) (mvT hZ (hw _ (List.mem_of_getElem? (i := 106) rfl))) (mvT hZ (hw _ (List.mem_of_getElem? (i := 105) rfl))) (by decide) (backOf (W := 0) (own_lm3 l Z a0 hw [] o1 h0 n0 Z0 FM) hZ (hw _ (List.mem_of_getElem? (i := 107) rfl)) (hw _ (List.mem_of_getElem? (i := 10) rfl)) (by decide) (by decide)) q33a q33c (g := (mkF m 57 #[.val (.ref o1), .val (.long n), .second, .val (.long ((d.toInt64) + n)), .second, .unset, .unset] [(.ref o1)])) rfl (by rw [hml]; rfl) (Steps.refl _) (argsL := []) (rest := []) (lenOf own_pd4 rfl) rfl (by show 2 * 0 + _ ≤ _; exact Nat.le_of_eq rfl) (hb hby own_d15_57) (fun _ _ => ⟨rfl, e32, (by decide : 0 + 0 ≤ _), (by decide : 0 + 0 ≤ _)⟩)
  dsimp only [Pt.U, Pt.locs, Pt.cells, Pt.slots] at X33 l33 y33 z33 st33 hQ33
  subst l33 y33 z33
  obtain ⟨rfl, N33q, e33⟩ := hQ33
  have N33 := Fr.app N0 N33q
  refine own_st (V := T33.setTop (mkF m 60 #[.val (.ref o1), .val (.long n), .second, .val (.long ((d.toInt64) + n)), .second, .unset, .unset] [(.int (31 : Int32))])) (fun t k => st33.trans k) ?_
  refine own_st (V := T33.setTop (mkF m 61 #[.val (.ref o1), .val (.long n), .second, .val (.long ((d.toInt64) + n)), .second, .unset, .unset] [(.long ((31 : Int32).toInt64))])) (fun t k => XS.i2l X33.here hx rfl (hb hby own_d15_60) rfl k) ?_
  refine own_st (V := T33.setTop (mkF m 63 #[.val (.ref o1), .val (.long n), .second, .val (.long ((d.toInt64) + n)), .second, .val (.long ((31 : Int32).toInt64)), .second] [])) (fun t k => XS.lstore X33.here hx rfl (hb hby own_d15_61) rfl (l' := #[.val (.ref o1), .val (.long n), .second, .val (.long ((d.toInt64) + n)), .second, .val (.long ((31 : Int32).toInt64)), .second]) rfl k) ?_
  refine own_st (V := T33.setTop (mkF m 64 #[.val (.ref o1), .val (.long n), .second, .val (.long ((d.toInt64) + n)), .second, .val (.long ((31 : Int32).toInt64)), .second] [(.long ((d.toInt64) + n))])) (fun t k => XS.lloadN X33.here hx rfl (hb hby own_d15_63) rfl k) ?_
  refine own_st (V := T33.setTop (mkF m 66 #[.val (.ref o1), .val (.long n), .second, .val (.long ((d.toInt64) + n)), .second, .val (.long ((31 : Int32).toInt64)), .second] [(.long ((31 : Int32).toInt64)), (.long ((d.toInt64) + n))])) (fun t k => XS.lload X33.here hx rfl (hb hby own_d15_64) rfl k) ?_
  refine own_st (V := T33.setTop (mkF m 67 #[.val (.ref o1), .val (.long n), .second, .val (.long ((d.toInt64) + n)), .second, .val (.long ((31 : Int32).toInt64)), .second] [(.int (lcmpW ((d.toInt64) + n) ((31 : Int32).toInt64)))])) (fun t k => XS.lcmp X33.here hx rfl (hb hby own_d15_66) rfl k) ?_
  refine own_st (V := T33.setTop (mkF m 70 #[.val (.ref o1), .val (.long n), .second, .val (.long ((d.toInt64) + n)), .second, .val (.long ((31 : Int32).toInt64)), .second] [])) (fun t k => XS.ifNo X33.here hx rfl (hb hby own_d15_67) rfl ((if0 _ _).trans (flt (own_gt0 (by have e : ((31 : Int32).toInt64).toInt = 31 := (by decide); omega))).2.2.1) k) ?_
  obtain ⟨T34, h34, X34, e34, E34, A34, D34, -, st34⟩ := newO X33 hx hZ hown (hw _ (List.mem_of_getElem? (i := 81) rfl)) (hw _ (List.mem_of_getElem? (i := 82) rfl)) (hw _ (List.mem_of_getElem? (i := 10) rfl)) e33 (g := (mkF m 70 #[.val (.ref o1), .val (.long n), .second, .val (.long ((d.toInt64) + n)), .second, .val (.long ((31 : Int32).toInt64)), .second] [])) rfl (hb hby own_d15_70) (by decide) (by decide)
  obtain ⟨b34, g34⟩ : ∃ z, z = h0.size := ⟨_, rfl⟩
  rw [← g34] at A34 D34 st34
  have gb_b34 : n0 ≤ b34 := Nat.le_trans Z0 (Nat.le_of_eq g34.symm)
  have Z0_34 : n0 ≤ h34.size := Nat.le_trans Z0 E34.1
  have sz_b34 : h0.size ≤ b34 := Nat.le_trans (Keep.refl h0 []).1 (Nat.le_of_eq g34.symm)
  have Kc34 := (Keep.refl h0 []).ext E34
  have ne_o1_b34 : o1 ≠ b34 := Nat.ne_of_lt (Nat.lt_of_lt_of_le E1.lt (Nat.le_of_eq g34.symm))
  have F34_o1_year := FY.ext E34
  have F34_o1_month := FM.ext E34
  have F34_o1_day := FD.ext E34
  have Ex34_o1 := E1.ext E34
  have F34_b34_year : Fld Z h34 b34 "java/time/LocalDate" "year" "I" (.int (0 : Int32)) := D34 (Or.inr (hw _ (List.mem_of_getElem? (i := 91) rfl))) (ty := .int) (by decide)
  have F34_b34_month : Fld Z h34 b34 "java/time/LocalDate" "month" "S" (.int (0 : Int32)) := D34 (Or.inr (hw _ (List.mem_of_getElem? (i := 93) rfl))) (ty := .short) (by decide)
  have F34_b34_day : Fld Z h34 b34 "java/time/LocalDate" "day" "S" (.int (0 : Int32)) := D34 (Or.inr (hw _ (List.mem_of_getElem? (i := 95) rfl))) (ty := .short) (by decide)
  refine own_st (V := T34.setTop (mkF m 73 #[.val (.ref o1), .val (.long n), .second, .val (.long ((d.toInt64) + n)), .second, .val (.long ((31 : Int32).toInt64)), .second] [(.ref b34)])) (fun t k => st34 _ k) ?_
  refine own_st (V := T34.setTop (mkF m 74 #[.val (.ref o1), .val (.long n), .second, .val (.long ((d.toInt64) + n)), .second, .val (.long ((31 : Int32).toInt64)), .second] [(.ref b34), (.ref b34)])) (fun t k => XS.dup X34.here hx rfl (hb hby own_d15_73) rfl rfl k) ?_
  refine own_st (V := T34.setTop (mkF m 75 #[.val (.ref o1), .val (.long n), .second, .val (.long ((d.toInt64) + n)), .second, .val (.long ((31 : Int32).toInt64)), .second] [(.ref o1), (.ref b34), (.ref b34)])) (fun t k => XS.aloadN X34.here hx rfl (hb hby own_d15_74) rfl rfl k) ?_
  obtain ⟨T35, X35, e35, st35⟩ := getF X34 hx hZ hown (host := "") (Or.inl (hw _ (List.mem_of_getElem? (i := 90) rfl))) Via.refl e34 F34_o1_year (g := (mkF m 75 #[.val (.ref o1), .val (.long n), .second, .val (.long ((d.toInt64) + n)), .second, .val (.long ((31 : Int32).toInt64)), .second] [(.ref o1), (.ref b34), (.ref b34)])) rfl rfl (hb hby own_d15_75)
  refine own_st (V := T35.setTop (mkF m 78 #[.val (.ref o1), .val (.long n), .second, .val (.long ((d.toInt64) + n)), .second, .val (.long ((31 : Int32).toInt64)), .second] [(.int y), (.ref b34), (.ref b34)])) (fun t k => st35 _ k) ?_
  refine own_st (V := T35.setTop (mkF m 79 #[.val (.ref o1), .val (.long n), .second, .val (.long ((d.toInt64) + n)), .second, .val (.long ((31 : Int32).toInt64)), .second] [(.ref o1), (.int y), (.ref b34), (.ref b34)])) (fun t k => XS.aloadN X35.here hx rfl (hb hby own_d15_78) rfl rfl k) ?_
  obtain ⟨T36, X36, e36, st36⟩ := getF X35 hx hZ hown (host := "") (Or.inl (hw _ (List.mem_of_getElem? (i := 92) rfl))) Via.refl e35 F34_o1_month (g := (mkF m 79 #[.val (.ref o1), .val (.long n), .second, .val (.long ((d.toInt64) + n)), .second, .val (.long ((31 : Int32).toInt64)), .second] [(.ref o1), (.int y), (.ref b34), (.ref b34)])) rfl rfl (hb hby own_d15_79)
  refine own_st (V := T36.setTop (mkF m 82 #[.val (.ref o1), .val (.long n), .second, .val (.long ((d.toInt64) + n)), .second, .val (.long ((31 : Int32).toInt64)), .second] [(.int (3 : Int32)), (.int y), (.ref b34), (.ref b34)])) (fun t k => st36 _ k) ?_
  refine own_st (V := T36.setTop (mkF m 83 #[.val (.ref o1), .val (.long n), .second, .val (.long ((d.toInt64) + n)), .second, .val (.long ((31 : Int32).toInt64)), .second] [(.long ((d.toInt64) + n)), (.int (3 : Int32)), (.int y), (.ref b34), (.ref b34)])) (fun t k => XS.lloadN X36.here hx rfl (hb hby own_d15_82) rfl k) ?_
  refine own_st (V := T36.setTop (mkF m 84 #[.val (.ref o1), .val (.long n), .second, .val (.long ((d.toInt64) + n)), .second, .val (.long ((31 : Int32).toInt64)), .second] [(.int (((d.toInt64) + n).toInt32)), (.int (3 : Int32)), (.int y), (.ref b34), (.ref b34)])) (fun t k => XS.l2i X36.here hx rfl (hb hby own_d15_83) rfl k) ?_
  obtain ⟨_, _, ⟨T37, L37, k37, n37⟩, -, X37, ⟨Lc37, hQ37, l37, y37, z37⟩, st37⟩ := X36.specialBack hx (y := (⟨"java/time/LocalDate", "<init>", "(III)V"⟩ : MethodName)) rfl hown (mvT hZ (hw _ (List.mem_of_getElem? (i := 83) rfl))) (mvT hZ (hw _ (List.mem_of_getElem? (i := 84) rfl))) (mvT hZ (hw _ (List.mem_of_getElem? (i := 86) rfl))) (by decide) (backOf (W := 1) (own_di l Z a0 hw [] b34 y (3 : Int32) (((d.toInt64) + n).toInt32) h34 n0 Z0_34 F34_b34_year F34_b34_month F34_b34_day A34 gb_b34 (by decide) (by decide) (by rw [own_l2i hD (by omega) (by omega)]; omega) (by rw [own_l2i hD (by omega) (by omega)]; omega)) hZ (hw _ (List.mem_of_getElem? (i := 86) rfl)) (hw _ (List.mem_of_getElem? (i := 10) rfl)) (by decide) (by decide)) (g := (mkF m 84 #[.val (.ref o1), .val (.long n), .second, .val (.long ((d.toInt64) + n)), .second, .val (.long ((31 : Int32).toInt64)), .second] [(.int (((d.toInt64) + n).toInt32)), (.int (3 : Int32)), (.int y), (.ref b34), (.ref b34)])) rfl (by rw [hml]; rfl) (Steps.refl _) (a := b34) (argsL := [(.int y), (.int (3 : Int32)), (.int (((d.toInt64) + n).toInt32))]) (rest := [(.ref b34)]) (lenOf own_pd5 rfl) rfl (by show 2 * 0 + _ ≤ _; exact Nat.le_of_eq rfl) (hb hby own_d15_84) (fun _ _ => ⟨rfl, e36, (by decide : 1 + 0 ≤ _), (by decide : 3 + 0 ≤ _)⟩)
  dsimp only [Pt.U, Pt.locs, Pt.cells, Pt.slots] at X37 l37 y37 z37 st37 hQ37
  subst l37 y37 z37
  obtain ⟨rfl, N37q, K37, Ex37_q, Fq37_0, Fq37_1, Fq37_2⟩ := hQ37
  have N37 := Fr.app N33 N37q
  have Z0_37 : n0 ≤ T37.heap.size := Nat.le_trans Z0_34 K37.1
  have Kc37 := Kc34.trans K37 (fun x hx => Or.inr (by cases List.mem_singleton.mp hx; exact sz_b34))
  have F37_o1_year := F34_o1_year.keep K37 (ninS ne_o1_b34 nin0)
  have F37_o1_month := F34_o1_month.keep K37 (ninS ne_o1_b34 nin0)
  have F37_o1_day := F34_o1_day.keep K37 (ninS ne_o1_b34 nin0)
  have Ex37_o1 := Ex34_o1.keep K37
  have Ex37_b34 := A34.keep K37
  refine own_st (V := T37.setTop (mkF m 87 #[.val (.ref o1), .val (.long n), .second, .val (.long ((d.toInt64) + n)), .second, .val (.long ((31 : Int32).toInt64)), .second] [(.ref b34)])) (fun t k => st37.trans k) ?_
  exact own_ret X37 hx hlk Bd.returns rfl (Or.inr (Or.inr (Or.inr (Or.inr ⟨rfl, rfl, rfl⟩)))) (hb hby own_d15_87) (by decide) (by decide) (by show Q_own_pd3C Z o1 y d n D h0 n0 _ T37.heap _; exact ⟨_, _, rfl, N37, Kc37, Ex37_q, Fq37_0, Fq37_1, Fq37_2, (own_l2i hD (by omega) (by omega))⟩)
def Q_own_pd3D (Z : State) (o1 : Addr) (y d : Int32) (n : Int64) (D : Int) (h0 : Heap) (n0 : Nat) (v : Option Value) (h : Heap) (L : List Loc) : Prop := ∃ b r, v = some (.ref b) ∧ Fr n0 L ∧ Keep h0 h [] ∧ Exa Z h b "java/time/LocalDate" ∧ Fld Z h b "java/time/LocalDate" "year" "I" (.int y) ∧ Fld Z h b "java/time/LocalDate" "month" "S" (.int (4 : Int32)) ∧ Fld Z h b "java/time/LocalDate" "day" "S" (.int r) ∧ r.toInt = D - 31
theorem own_d15_88 : decode jdk_2323_method_44_code 88 = .ok (.aload_n 0, 1) := by decide +kernel
theorem own_d15_89 : decode jdk_2323_method_44_code 89 = .ok (.getfield 250, 3) := by decide +kernel
theorem own_d15_92 : decode jdk_2323_method_44_code 92 = .ok (.bipush 12, 2) := by decide +kernel
theorem own_d15_94 : decode jdk_2323_method_44_code 94 = .ok (.if_icmp .ge 26, 3) := by decide +kernel
theorem own_d15_97 : decode jdk_2323_method_44_code 97 = .ok (.new 1, 3) := by decide +kernel
theorem own_d15_100 : decode jdk_2323_method_44_code 100 = .ok (.dup, 1) := by decide +kernel
theorem own_d15_101 : decode jdk_2323_method_44_code 101 = .ok (.aload_n 0, 1) := by decide +kernel
theorem own_d15_102 : decode jdk_2323_method_44_code 102 = .ok (.getfield 246, 3) := by decide +kernel
theorem own_d15_105 : decode jdk_2323_method_44_code 105 = .ok (.aload_n 0, 1) := by decide +kernel
theorem own_d15_106 : decode jdk_2323_method_44_code 106 = .ok (.getfield 250, 3) := by decide +kernel
theorem own_d15_109 : decode jdk_2323_method_44_code 109 = .ok (.iconst 1, 1) := by decide +kernel
theorem own_d15_110 : decode jdk_2323_method_44_code 110 = .ok (.iadd, 1) := by decide +kernel
theorem own_d15_111 : decode jdk_2323_method_44_code 111 = .ok (.lload_n 3, 1) := by decide +kernel
theorem own_d15_112 : decode jdk_2323_method_44_code 112 = .ok (.lload 5, 2) := by decide +kernel
theorem own_d15_114 : decode jdk_2323_method_44_code 114 = .ok (.lsub, 1) := by decide +kernel
theorem own_d15_115 : decode jdk_2323_method_44_code 115 = .ok (.l2i, 1) := by decide +kernel
theorem own_d15_116 : decode jdk_2323_method_44_code 116 = .ok (.invokespecial 121, 3) := by decide +kernel
theorem own_d15_119 : decode jdk_2323_method_44_code 119 = .ok (.areturn, 1) := by decide +kernel
set_option maxRecDepth 65536 in
set_option maxHeartbeats 40000000 in
theorem own_pd3D (l : Launch) (Z : State) (a0 : Array Value) (hw : ∀ d ∈ tables_1, d.before a0 Z = true) (ws : List Jvm.Cond) (o1 : Addr) (y d : Int32) (n : Int64) (D : Int) (h0 : Heap) (n0 : Nat) (Z0 : n0 ≤ h0.size) (E1 : Exa Z h0 o1 "java/time/LocalDate") (FY : Fld Z h0 o1 "java/time/LocalDate" "year" "I" (.int y)) (FM : Fld Z h0 o1 "java/time/LocalDate" "month" "S" (.int (3 : Int32))) (FD : Fld Z h0 o1 "java/time/LocalDate" "day" "S" (.int d)) (hn : ¬ (n.toInt = 0)) (hD : (d.toInt64 + n).toInt = D) (h1 : 31 < D) (h2 : D ≤ 59) :
    MetFree l (⟨"java/time/LocalDate", "plusDays", "(J)Ljava/time/LocalDate;"⟩ : MethodName) (head1 (Jvm.Cond.code (⟨"java/time/LocalDate", "plusDays", "(J)Ljava/time/LocalDate;"⟩ : MethodName) jdk_2323_method_44_code 7 (some (.object "java/time/LocalDate")) :: ws) ({ frames := 2, cells := 1, slots := 3, locals := 28 } : Room)) (fun a U => a = #[(.ref o1), (.long n)] ∧ Z.Warmed39 U.vm ∧ U.heap = h0) (fun _ _ _ _ _ => True) (fun _ U o U' => ∃ v L, o = .returned v ∧ Q_own_pd3D Z o1 y d n D h0 n0 v U'.heap L ∧ FrameEnd U o U' L ({ frames := 2, cells := 1, slots := 3, locals := 28 } : Room).cells ({ frames := 2, cells := 1, slots := 3, locals := 28 } : Room).slots) := by
  refine MetFree.of_bodySF (plainFor_of_name own_pn_java_time_LocalDate) hisR ?_
  intro p e s m args below meth c s₁ Bd hml0 hP hK
  obtain ⟨rfl, hZ, hh⟩ := hP
  have hx := Bd.exec
  have hby := Bd.bytes
  have hml : c.maxLocals = 7 := hml0
  have hown : s.vm.findClass "java/time/LocalDate" = some m.cls := findClass_of_methodNamed Bd.named
  have hnm := (name_of_methodNamed Bd.named Bd.method).1
  have hlk : meth.locks = false := BodyLoose.notSynchronized Bd
  have X0 : Stand p l e ({ frames := 2, cells := 1, slots := 3, locals := 28 } : Room) s m #[(.ref o1), (.long n)] below meth c s₁ [] 0 0 := Stand.of_body Bd
  have e0 : s₁.heap = h0 := by rw [← hh, Bd.state]; rfl
  have N0 := Fr.nil n0
  show own_Go p e below #[(.ref o1), (.long n)] s (fun _ U o U' => ∃ v L, o = .returned v ∧ Q_own_pd3D Z o1 y d n D h0 n0 v U'.heap L ∧ FrameEnd U o U' L ({ frames := 2, cells := 1, slots := 3, locals := 28 } : Room).cells ({ frames := 2, cells := 1, slots := 3, locals := 28 } : Room).slots) (s₁.setTop (entryFrame m #[(.ref o1), (.long n)] 7))
  refine own_st (V := s₁.setTop (mkF m 0 #[.val (.ref o1), .val (.long n), .second, .unset, .unset, .unset, .unset] [])) (fun t k => castTop (by first | (simp [entryFrame, mkF, argsToLocals, Value.category]; done) | rfl) k) ?_
  refine own_st (V := s₁.setTop (mkF m 1 #[.val (.ref o1), .val (.long n), .second, .unset, .unset, .unset, .unset] [(.long n)])) (fun t k => XS.lloadN X0.here hx rfl (hb hby own_d15_0) rfl k) ?_
  refine own_st (V := s₁.setTop (mkF m 2 #[.val (.ref o1), .val (.long n), .second, .unset, .unset, .unset, .unset] [(.long (0 : Int64)), (.long n)])) (fun t k => XS.lconst X0.here hx rfl (hb hby own_d15_1) k) ?_
  refine own_st (V := s₁.setTop (mkF m 3 #[.val (.ref o1), .val (.long n), .second, .unset, .unset, .unset, .unset] [(.int (lcmpW n (0 : Int64)))])) (fun t k => XS.lcmp X0.here hx rfl (hb hby own_d15_2) rfl k) ?_
  refine own_st (V := s₁.setTop (mkF m 8 #[.val (.ref o1), .val (.long n), .second, .unset, .unset, .unset, .unset] [])) (fun t k => XS.ifYes X0.here hx rfl (pc0 := 3) (pc' := 8) rfl (hb hby own_d15_3) rfl ((if0 _ _).trans (feq (own_eq0 (by have e : (0 : Int64).toInt = 0 := (by decide); omega))).2) (by decide) (by decide) k) ?_
  refine own_st (V := s₁.setTop (mkF m 9 #[.val (.ref o1), .val (.long n), .second, .unset, .unset, .unset, .unset] [(.ref o1)])) (fun t k => XS.aloadN X0.here hx rfl (hb hby own_d15_8) rfl rfl k) ?_
  obtain ⟨T38, X38, e38, st38⟩ := getF X0 hx hZ hown (host := "") (Or.inl (hw _ (List.mem_of_getElem? (i := 94) rfl))) Via.refl e0 FD (g := (mkF m 9 #[.val (.ref o1), .val (.long n), .second, .unset, .unset, .unset, .unset] [(.ref o1)])) rfl rfl (hb hby own_d15_9)
  refine own_st (V := T38.setTop (mkF m 12 #[.val (.ref o1), .val (.long n), .second, .unset, .unset, .unset, .unset] [(.int d)])) (fun t k => st38 _ k) ?_
  refine own_st (V := T38.setTop (mkF m 13 #[.val (.ref o1), .val (.long n), .second, .unset, .unset, .unset, .unset] [(.long (d.toInt64))])) (fun t k => XS.i2l X38.here hx rfl (hb hby own_d15_12) rfl k) ?_
  refine own_st (V := T38.setTop (mkF m 14 #[.val (.ref o1), .val (.long n), .second, .unset, .unset, .unset, .unset] [(.long n), (.long (d.toInt64))])) (fun t k => XS.lloadN X38.here hx rfl (hb hby own_d15_13) rfl k) ?_
  refine own_st (V := T38.setTop (mkF m 15 #[.val (.ref o1), .val (.long n), .second, .unset, .unset, .unset, .unset] [(.long ((d.toInt64) + n))])) (fun t k => XS.ladd X38.here hx rfl (hb hby own_d15_14) rfl k) ?_
  refine own_st (V := T38.setTop (mkF m 16 #[.val (.ref o1), .val (.long n), .second, .val (.long ((d.toInt64) + n)), .second, .unset, .unset] [])) (fun t k => XS.lstoreN X38.here hx rfl (hb hby own_d15_15) rfl (l' := #[.val (.ref o1), .val (.long n), .second, .val (.long ((d.toInt64) + n)), .second, .unset, .unset]) rfl k) ?_
  refine own_st (V := T38.setTop (mkF m 17 #[.val (.ref o1), .val (.long n), .second, .val (.long ((d.toInt64) + n)), .second, .unset, .unset] [(.long ((d.toInt64) + n))])) (fun t k => XS.lloadN X38.here hx rfl (hb hby own_d15_16) rfl k) ?_
  refine own_st (V := T38.setTop (mkF m 18 #[.val (.ref o1), .val (.long n), .second, .val (.long ((d.toInt64) + n)), .second, .unset, .unset] [(.long (0 : Int64)), (.long ((d.toInt64) + n))])) (fun t k => XS.lconst X38.here hx rfl (hb hby own_d15_17) k) ?_
  refine own_st (V := T38.setTop (mkF m 19 #[.val (.ref o1), .val (.long n), .second, .val (.long ((d.toInt64) + n)), .second, .unset, .unset] [(.int (lcmpW ((d.toInt64) + n) (0 : Int64)))])) (fun t k => XS.lcmp X38.here hx rfl (hb hby own_d15_18) rfl k) ?_
  refine own_st (V := T38.setTop (mkF m 22 #[.val (.ref o1), .val (.long n), .second, .val (.long ((d.toInt64) + n)), .second, .unset, .unset] [])) (fun t k => XS.ifNo X38.here hx rfl (hb hby own_d15_19) rfl ((if0 _ _).trans (tlt (own_gt1 (by have e : (0 : Int64).toInt = 0 := (by decide); omega))).2.2.2) k) ?_
  refine own_st (V := T38.setTop (mkF m 23 #[.val (.ref o1), .val (.long n), .second, .val (.long ((d.toInt64) + n)), .second, .unset, .unset] [(.long ((d.toInt64) + n))])) (fun t k => XS.lloadN X38.here hx rfl (hb hby own_d15_22) rfl k) ?_
  refine own_st (V := T38.setTop (mkF m 26 #[.val (.ref o1), .val (.long n), .second, .val (.long ((d.toInt64) + n)), .second, .unset, .unset] [(.long (28 : Int64)), (.long ((d.toInt64) + n))])) (fun t k => X38.ldc2Long hx hown (mvT hZ (hw _ (List.mem_of_getElem? (i := 101) rfl))) (g := (mkF m 23 #[.val (.ref o1), .val (.long n), .second, .val (.long ((d.toInt64) + n)), .second, .unset, .unset] [(.long ((d.toInt64) + n))])) rfl (hb hby own_d15_23) t k) ?_
  refine own_st (V := T38.setTop (mkF m 27 #[.val (.ref o1), .val (.long n), .second, .val (.long ((d.toInt64) + n)), .second, .unset, .unset] [(.int (lcmpW ((d.toInt64) + n) (28 : Int64)))])) (fun t k => XS.lcmp X38.here hx rfl (hb hby own_d15_26) rfl k) ?_
  refine own_st (V := T38.setTop (mkF m 48 #[.val (.ref o1), .val (.long n), .second, .val (.long ((d.toInt64) + n)), .second, .unset, .unset] [])) (fun t k => XS.ifYes X38.here hx rfl (pc0 := 27) (pc' := 48) rfl (hb hby own_d15_27) rfl ((if0 _ _).trans (tlt (own_gt1 (by have e : (28 : Int64).toInt = 28 := (by decide); omega))).2.2.1) (by decide) (by decide) k) ?_
  refine own_st (V := T38.setTop (mkF m 49 #[.val (.ref o1), .val (.long n), .second, .val (.long ((d.toInt64) + n)), .second, .unset, .unset] [(.long ((d.toInt64) + n))])) (fun t k => XS.lloadN X38.here hx rfl (hb hby own_d15_48) rfl k) ?_
  refine own_st (V := T38.setTop (mkF m 52 #[.val (.ref o1), .val (.long n), .second, .val (.long ((d.toInt64) + n)), .second, .unset, .unset] [(.long (59 : Int64)), (.long ((d.toInt64) + n))])) (fun t k => X38.ldc2Long hx hown (mvT hZ (hw _ (List.mem_of_getElem? (i := 102) rfl))) (g := (mkF m 49 #[.val (.ref o1), .val (.long n), .second, .val (.long ((d.toInt64) + n)), .second, .unset, .unset] [(.long ((d.toInt64) + n))])) rfl (hb hby own_d15_49) t k) ?_
  refine own_st (V := T38.setTop (mkF m 53 #[.val (.ref o1), .val (.long n), .second, .val (.long ((d.toInt64) + n)), .second, .unset, .unset] [(.int (lcmpW ((d.toInt64) + n) (59 : Int64)))])) (fun t k => XS.lcmp X38.here hx rfl (hb hby own_d15_52) rfl k) ?_
  refine own_st (V := T38.setTop (mkF m 56 #[.val (.ref o1), .val (.long n), .second, .val (.long ((d.toInt64) + n)), .second, .unset, .unset] [])) (fun t k => XS.ifNo X38.here hx rfl (hb hby own_d15_53) rfl ((if0 _ _).trans (flt (own_gt0 (by have e : (59 : Int64).toInt = 59 := (by decide); omega))).2.2.1) k) ?_
  refine own_st (V := T38.setTop (mkF m 57 #[.val (.ref o1), .val (.long n), .second, .val (.long ((d.toInt64) + n)), .second, .unset, .unset] [(.ref o1)])) (fun t k => XS.aloadN X38.here hx rfl (hb hby own_d15_56) rfl rfl k) ?_
  obtain ⟨cq39, kq39, q39a, q39b, q39c⟩ := isOf hZ e38 E1
  obtain ⟨_, _, ⟨T39, L39, k39, n39⟩, -, X39, ⟨Lc39, hQ39, l39, y39, z39⟩, st39⟩ := X38.virtualBack hx (y := (⟨"java/time/LocalDate", "lengthOfMonth", "()I"⟩ : MethodName)) (z := (⟨"java/time/LocalDate", "lengthOfMonth", "()I"⟩ : MethodName)) hown (mvT hZ (hw _ (List.mem_of_getElem? (i := 103) rfl))) (mvT hZ (hw _ (List.mem_of_getElem? (i := 104) rfl))) (notFace_of_selects (args := #[]) (mvT hZ (hw _ (List.mem_of_getElem? (i := 106) rfl)))) (mvT hZ (hw _ (List.mem_of_getElem? (i := 106) rfl))) (mvT hZ (hw _ (List.mem_of_getElem? (i := 105) rfl))) (by decide) (backOf (W := 0) (own_lm3 l Z a0 hw [] o1 h0 n0 Z0 FM) hZ (hw _ (List.mem_of_getElem? (i := 107) rfl)) (hw _ (List.mem_of_getElem? (i := 10) rfl)) (by decide) (by decide)) q39a q39c (g := (mkF m 57 #[.val (.ref o1), .val (.long n), .second, .val (.long ((d.toInt64) + n)), .second, .unset, .unset] [(.ref o1)])) rfl (by rw [hml]; rfl) (Steps.refl _) (argsL := []) (rest := []) (lenOf own_pd4 rfl) rfl (by show 2 * 0 + _ ≤ _; exact Nat.le_of_eq rfl) (hb hby own_d15_57) (fun _ _ => ⟨rfl, e38, (by decide : 0 + 0 ≤ _), (by decide : 0 + 0 ≤ _)⟩)
  dsimp only [Pt.U, Pt.locs, Pt.cells, Pt.slots] at X39 l39 y39 z39 st39 hQ39
  subst l39 y39 z39
  obtain ⟨rfl, N39q, e39⟩ := hQ39
  have N39 := Fr.app N0 N39q
  refine own_st (V := T39.setTop (mkF m 60 #[.val (.ref o1), .val (.long n), .second, .val (.long ((d.toInt64) + n)), .second, .unset, .unset] [(.int (31 : Int32))])) (fun t k => st39.trans k) ?_
  refine own_st (V := T39.setTop (mkF m 61 #[.val (.ref o1), .val (.long n), .second, .val (.long ((d.toInt64) + n)), .second, .unset, .unset] [(.long ((31 : Int32).toInt64))])) (fun t k => XS.i2l X39.here hx rfl (hb hby own_d15_60) rfl k) ?_
  refine own_st (V := T39.setTop (mkF m 63 #[.val (.ref o1), .val (.long n), .second, .val (.long ((d.toInt64) + n)), .second, .val (.long ((31 : Int32).toInt64)), .second] [])) (fun t k => XS.lstore X39.here hx rfl (hb hby own_d15_61) rfl (l' := #[.val (.ref o1), .val (.long n), .second, .val (.long ((d.toInt64) + n)), .second, .val (.long ((31 : Int32).toInt64)), .second]) rfl k) ?_
  refine own_st (V := T39.setTop (mkF m 64 #[.val (.ref o1), .val (.long n), .second, .val (.long ((d.toInt64) + n)), .second, .val (.long ((31 : Int32).toInt64)), .second] [(.long ((d.toInt64) + n))])) (fun t k => XS.lloadN X39.here hx rfl (hb hby own_d15_63) rfl k) ?_
  refine own_st (V := T39.setTop (mkF m 66 #[.val (.ref o1), .val (.long n), .second, .val (.long ((d.toInt64) + n)), .second, .val (.long ((31 : Int32).toInt64)), .second] [(.long ((31 : Int32).toInt64)), (.long ((d.toInt64) + n))])) (fun t k => XS.lload X39.here hx rfl (hb hby own_d15_64) rfl k) ?_
  refine own_st (V := T39.setTop (mkF m 67 #[.val (.ref o1), .val (.long n), .second, .val (.long ((d.toInt64) + n)), .second, .val (.long ((31 : Int32).toInt64)), .second] [(.int (lcmpW ((d.toInt64) + n) ((31 : Int32).toInt64)))])) (fun t k => XS.lcmp X39.here hx rfl (hb hby own_d15_66) rfl k) ?_
  refine own_st (V := T39.setTop (mkF m 88 #[.val (.ref o1), .val (.long n), .second, .val (.long ((d.toInt64) + n)), .second, .val (.long ((31 : Int32).toInt64)), .second] [])) (fun t k => XS.ifYes X39.here hx rfl (pc0 := 67) (pc' := 88) rfl (hb hby own_d15_67) rfl ((if0 _ _).trans (tlt (own_gt1 (by have e : ((31 : Int32).toInt64).toInt = 31 := (by decide); omega))).2.2.1) (by decide) (by decide) k) ?_
  refine own_st (V := T39.setTop (mkF m 89 #[.val (.ref o1), .val (.long n), .second, .val (.long ((d.toInt64) + n)), .second, .val (.long ((31 : Int32).toInt64)), .second] [(.ref o1)])) (fun t k => XS.aloadN X39.here hx rfl (hb hby own_d15_88) rfl rfl k) ?_
  obtain ⟨T40, X40, e40, st40⟩ := getF X39 hx hZ hown (host := "") (Or.inl (hw _ (List.mem_of_getElem? (i := 92) rfl))) Via.refl e39 FM (g := (mkF m 89 #[.val (.ref o1), .val (.long n), .second, .val (.long ((d.toInt64) + n)), .second, .val (.long ((31 : Int32).toInt64)), .second] [(.ref o1)])) rfl rfl (hb hby own_d15_89)
  refine own_st (V := T40.setTop (mkF m 92 #[.val (.ref o1), .val (.long n), .second, .val (.long ((d.toInt64) + n)), .second, .val (.long ((31 : Int32).toInt64)), .second] [(.int (3 : Int32))])) (fun t k => st40 _ k) ?_
  refine own_st (V := T40.setTop (mkF m 94 #[.val (.ref o1), .val (.long n), .second, .val (.long ((d.toInt64) + n)), .second, .val (.long ((31 : Int32).toInt64)), .second] [(.int (12 : Int32)), (.int (3 : Int32))])) (fun t k => XS.bipush X40.here hx rfl (hb hby own_d15_92) k) ?_
  refine own_st (V := T40.setTop (mkF m 97 #[.val (.ref o1), .val (.long n), .second, .val (.long ((d.toInt64) + n)), .second, .val (.long ((31 : Int32).toInt64)), .second] [])) (fun t k => XS.icmpNo X40.here hx rfl (hb hby own_d15_94) rfl (tlt (by decide : (3 : Int32) < (12 : Int32))).2.1 k) ?_
  obtain ⟨T41, h41, X41, e41, E41, A41, D41, -, st41⟩ := newO X40 hx hZ hown (hw _ (List.mem_of_getElem? (i := 81) rfl)) (hw _ (List.mem_of_getElem? (i := 82) rfl)) (hw _ (List.mem_of_getElem? (i := 10) rfl)) e40 (g := (mkF m 97 #[.val (.ref o1), .val (.long n), .second, .val (.long ((d.toInt64) + n)), .second, .val (.long ((31 : Int32).toInt64)), .second] [])) rfl (hb hby own_d15_97) (by decide) (by decide)
  obtain ⟨b41, g41⟩ : ∃ z, z = h0.size := ⟨_, rfl⟩
  rw [← g41] at A41 D41 st41
  have gb_b41 : n0 ≤ b41 := Nat.le_trans Z0 (Nat.le_of_eq g41.symm)
  have Z0_41 : n0 ≤ h41.size := Nat.le_trans Z0 E41.1
  have sz_b41 : h0.size ≤ b41 := Nat.le_trans (Keep.refl h0 []).1 (Nat.le_of_eq g41.symm)
  have Kc41 := (Keep.refl h0 []).ext E41
  have ne_o1_b41 : o1 ≠ b41 := Nat.ne_of_lt (Nat.lt_of_lt_of_le E1.lt (Nat.le_of_eq g41.symm))
  have F41_o1_year := FY.ext E41
  have F41_o1_month := FM.ext E41
  have F41_o1_day := FD.ext E41
  have Ex41_o1 := E1.ext E41
  have F41_b41_year : Fld Z h41 b41 "java/time/LocalDate" "year" "I" (.int (0 : Int32)) := D41 (Or.inr (hw _ (List.mem_of_getElem? (i := 91) rfl))) (ty := .int) (by decide)
  have F41_b41_month : Fld Z h41 b41 "java/time/LocalDate" "month" "S" (.int (0 : Int32)) := D41 (Or.inr (hw _ (List.mem_of_getElem? (i := 93) rfl))) (ty := .short) (by decide)
  have F41_b41_day : Fld Z h41 b41 "java/time/LocalDate" "day" "S" (.int (0 : Int32)) := D41 (Or.inr (hw _ (List.mem_of_getElem? (i := 95) rfl))) (ty := .short) (by decide)
  refine own_st (V := T41.setTop (mkF m 100 #[.val (.ref o1), .val (.long n), .second, .val (.long ((d.toInt64) + n)), .second, .val (.long ((31 : Int32).toInt64)), .second] [(.ref b41)])) (fun t k => st41 _ k) ?_
  refine own_st (V := T41.setTop (mkF m 101 #[.val (.ref o1), .val (.long n), .second, .val (.long ((d.toInt64) + n)), .second, .val (.long ((31 : Int32).toInt64)), .second] [(.ref b41), (.ref b41)])) (fun t k => XS.dup X41.here hx rfl (hb hby own_d15_100) rfl rfl k) ?_
  refine own_st (V := T41.setTop (mkF m 102 #[.val (.ref o1), .val (.long n), .second, .val (.long ((d.toInt64) + n)), .second, .val (.long ((31 : Int32).toInt64)), .second] [(.ref o1), (.ref b41), (.ref b41)])) (fun t k => XS.aloadN X41.here hx rfl (hb hby own_d15_101) rfl rfl k) ?_
  obtain ⟨T42, X42, e42, st42⟩ := getF X41 hx hZ hown (host := "") (Or.inl (hw _ (List.mem_of_getElem? (i := 90) rfl))) Via.refl e41 F41_o1_year (g := (mkF m 102 #[.val (.ref o1), .val (.long n), .second, .val (.long ((d.toInt64) + n)), .second, .val (.long ((31 : Int32).toInt64)), .second] [(.ref o1), (.ref b41), (.ref b41)])) rfl rfl (hb hby own_d15_102)
  refine own_st (V := T42.setTop (mkF m 105 #[.val (.ref o1), .val (.long n), .second, .val (.long ((d.toInt64) + n)), .second, .val (.long ((31 : Int32).toInt64)), .second] [(.int y), (.ref b41), (.ref b41)])) (fun t k => st42 _ k) ?_
  refine own_st (V := T42.setTop (mkF m 106 #[.val (.ref o1), .val (.long n), .second, .val (.long ((d.toInt64) + n)), .second, .val (.long ((31 : Int32).toInt64)), .second] [(.ref o1), (.int y), (.ref b41), (.ref b41)])) (fun t k => XS.aloadN X42.here hx rfl (hb hby own_d15_105) rfl rfl k) ?_
  obtain ⟨T43, X43, e43, st43⟩ := getF X42 hx hZ hown (host := "") (Or.inl (hw _ (List.mem_of_getElem? (i := 92) rfl))) Via.refl e42 F41_o1_month (g := (mkF m 106 #[.val (.ref o1), .val (.long n), .second, .val (.long ((d.toInt64) + n)), .second, .val (.long ((31 : Int32).toInt64)), .second] [(.ref o1), (.int y), (.ref b41), (.ref b41)])) rfl rfl (hb hby own_d15_106)
  refine own_st (V := T43.setTop (mkF m 109 #[.val (.ref o1), .val (.long n), .second, .val (.long ((d.toInt64) + n)), .second, .val (.long ((31 : Int32).toInt64)), .second] [(.int (3 : Int32)), (.int y), (.ref b41), (.ref b41)])) (fun t k => st43 _ k) ?_
  refine own_st (V := T43.setTop (mkF m 110 #[.val (.ref o1), .val (.long n), .second, .val (.long ((d.toInt64) + n)), .second, .val (.long ((31 : Int32).toInt64)), .second] [(.int (1 : Int32)), (.int (3 : Int32)), (.int y), (.ref b41), (.ref b41)])) (fun t k => XS.iconst X43.here hx rfl (hb hby own_d15_109) k) ?_
  refine own_st (V := T43.setTop (mkF m 111 #[.val (.ref o1), .val (.long n), .second, .val (.long ((d.toInt64) + n)), .second, .val (.long ((31 : Int32).toInt64)), .second] [(.int ((3 : Int32) + (1 : Int32))), (.int y), (.ref b41), (.ref b41)])) (fun t k => XS.iadd X43.here hx rfl (hb hby own_d15_110) rfl k) ?_
  refine own_st (V := T43.setTop (mkF m 112 #[.val (.ref o1), .val (.long n), .second, .val (.long ((d.toInt64) + n)), .second, .val (.long ((31 : Int32).toInt64)), .second] [(.long ((d.toInt64) + n)), (.int ((3 : Int32) + (1 : Int32))), (.int y), (.ref b41), (.ref b41)])) (fun t k => XS.lloadN X43.here hx rfl (hb hby own_d15_111) rfl k) ?_
  refine own_st (V := T43.setTop (mkF m 114 #[.val (.ref o1), .val (.long n), .second, .val (.long ((d.toInt64) + n)), .second, .val (.long ((31 : Int32).toInt64)), .second] [(.long ((31 : Int32).toInt64)), (.long ((d.toInt64) + n)), (.int ((3 : Int32) + (1 : Int32))), (.int y), (.ref b41), (.ref b41)])) (fun t k => XS.lload X43.here hx rfl (hb hby own_d15_112) rfl k) ?_
  refine own_st (V := T43.setTop (mkF m 115 #[.val (.ref o1), .val (.long n), .second, .val (.long ((d.toInt64) + n)), .second, .val (.long ((31 : Int32).toInt64)), .second] [(.long (((d.toInt64) + n) - ((31 : Int32).toInt64))), (.int ((3 : Int32) + (1 : Int32))), (.int y), (.ref b41), (.ref b41)])) (fun t k => XS.lsub X43.here hx rfl (hb hby own_d15_114) rfl k) ?_
  refine own_st (V := T43.setTop (mkF m 116 #[.val (.ref o1), .val (.long n), .second, .val (.long ((d.toInt64) + n)), .second, .val (.long ((31 : Int32).toInt64)), .second] [(.int ((((d.toInt64) + n) - ((31 : Int32).toInt64)).toInt32)), (.int ((3 : Int32) + (1 : Int32))), (.int y), (.ref b41), (.ref b41)])) (fun t k => XS.l2i X43.here hx rfl (hb hby own_d15_115) rfl k) ?_
  rw [show ((3 : Int32) + (1 : Int32)) = (4 : Int32) from by decide +kernel]
  obtain ⟨_, _, ⟨T44, L44, k44, n44⟩, -, X44, ⟨Lc44, hQ44, l44, y44, z44⟩, st44⟩ := X43.specialBack hx (y := (⟨"java/time/LocalDate", "<init>", "(III)V"⟩ : MethodName)) rfl hown (mvT hZ (hw _ (List.mem_of_getElem? (i := 83) rfl))) (mvT hZ (hw _ (List.mem_of_getElem? (i := 84) rfl))) (mvT hZ (hw _ (List.mem_of_getElem? (i := 86) rfl))) (by decide) (backOf (W := 1) (own_di l Z a0 hw [] b41 y (4 : Int32) ((((d.toInt64) + n) - ((31 : Int32).toInt64)).toInt32) h41 n0 Z0_41 F41_b41_year F41_b41_month F41_b41_day A41 gb_b41 (by decide) (by decide) (by rw [own_l2i (own_sub hD (by decide : ((31 : Int32).toInt64).toInt = 31) (by omega) (by omega) (by omega) (by omega)) (by omega) (by omega)]; omega) (by rw [own_l2i (own_sub hD (by decide : ((31 : Int32).toInt64).toInt = 31) (by omega) (by omega) (by omega) (by omega)) (by omega) (by omega)]; omega)) hZ (hw _ (List.mem_of_getElem? (i := 86) rfl)) (hw _ (List.mem_of_getElem? (i := 10) rfl)) (by decide) (by decide)) (g := (mkF m 116 #[.val (.ref o1), .val (.long n), .second, .val (.long ((d.toInt64) + n)), .second, .val (.long ((31 : Int32).toInt64)), .second] [(.int ((((d.toInt64) + n) - ((31 : Int32).toInt64)).toInt32)), (.int (4 : Int32)), (.int y), (.ref b41), (.ref b41)])) rfl (by rw [hml]; rfl) (Steps.refl _) (a := b41) (argsL := [(.int y), (.int (4 : Int32)), (.int ((((d.toInt64) + n) - ((31 : Int32).toInt64)).toInt32))]) (rest := [(.ref b41)]) (lenOf own_pd5 rfl) rfl (by show 2 * 0 + _ ≤ _; exact Nat.le_of_eq rfl) (hb hby own_d15_116) (fun _ _ => ⟨rfl, e43, (by decide : 1 + 0 ≤ _), (by decide : 3 + 0 ≤ _)⟩)
  dsimp only [Pt.U, Pt.locs, Pt.cells, Pt.slots] at X44 l44 y44 z44 st44 hQ44
  subst l44 y44 z44
  obtain ⟨rfl, N44q, K44, Ex44_q, Fq44_0, Fq44_1, Fq44_2⟩ := hQ44
  have N44 := Fr.app N39 N44q
  have Z0_44 : n0 ≤ T44.heap.size := Nat.le_trans Z0_41 K44.1
  have Kc44 := Kc41.trans K44 (fun x hx => Or.inr (by cases List.mem_singleton.mp hx; exact sz_b41))
  have F44_o1_year := F41_o1_year.keep K44 (ninS ne_o1_b41 nin0)
  have F44_o1_month := F41_o1_month.keep K44 (ninS ne_o1_b41 nin0)
  have F44_o1_day := F41_o1_day.keep K44 (ninS ne_o1_b41 nin0)
  have Ex44_o1 := Ex41_o1.keep K44
  have Ex44_b41 := A41.keep K44
  refine own_st (V := T44.setTop (mkF m 119 #[.val (.ref o1), .val (.long n), .second, .val (.long ((d.toInt64) + n)), .second, .val (.long ((31 : Int32).toInt64)), .second] [(.ref b41)])) (fun t k => st44.trans k) ?_
  exact own_ret X44 hx hlk Bd.returns rfl (Or.inr (Or.inr (Or.inr (Or.inr ⟨rfl, rfl, rfl⟩)))) (hb hby own_d15_119) (by decide) (by decide) (by show Q_own_pd3D Z o1 y d n D h0 n0 _ T44.heap _; exact ⟨_, _, rfl, N44, Kc44, Ex44_q, Fq44_0, Fq44_1, Fq44_2, (own_l2i (own_sub hD (by decide : ((31 : Int32).toInt64).toInt = 31) (by omega) (by omega) (by omega) (by omega)) (by omega) (by omega))⟩)
def Q_own_pd4B (Z : State) (o1 : Addr) (y d : Int32) (n : Int64) (D : Int) (h0 : Heap) (n0 : Nat) (v : Option Value) (h : Heap) (L : List Loc) : Prop := ∃ b r, v = some (.ref b) ∧ Fr n0 L ∧ Keep h0 h [] ∧ Exa Z h b "java/time/LocalDate" ∧ Fld Z h b "java/time/LocalDate" "year" "I" (.int y) ∧ Fld Z h b "java/time/LocalDate" "month" "S" (.int (4 : Int32)) ∧ Fld Z h b "java/time/LocalDate" "day" "S" (.int r) ∧ r.toInt = D
set_option maxRecDepth 65536 in
set_option maxHeartbeats 40000000 in
theorem own_pd4B (l : Launch) (Z : State) (a0 : Array Value) (hw : ∀ d ∈ tables_1, d.before a0 Z = true) (ws : List Jvm.Cond) (o1 : Addr) (y d : Int32) (n : Int64) (D : Int) (h0 : Heap) (n0 : Nat) (Z0 : n0 ≤ h0.size) (E1 : Exa Z h0 o1 "java/time/LocalDate") (FY : Fld Z h0 o1 "java/time/LocalDate" "year" "I" (.int y)) (FM : Fld Z h0 o1 "java/time/LocalDate" "month" "S" (.int (4 : Int32))) (FD : Fld Z h0 o1 "java/time/LocalDate" "day" "S" (.int d)) (hn : ¬ (n.toInt = 0)) (hD : (d.toInt64 + n).toInt = D) (h1 : 1 ≤ D) (h2 : D ≤ 28) :
    MetFree l (⟨"java/time/LocalDate", "plusDays", "(J)Ljava/time/LocalDate;"⟩ : MethodName) (head1 (Jvm.Cond.code (⟨"java/time/LocalDate", "plusDays", "(J)Ljava/time/LocalDate;"⟩ : MethodName) jdk_2323_method_44_code 7 (some (.object "java/time/LocalDate")) :: ws) ({ frames := 2, cells := 1, slots := 3, locals := 28 } : Room)) (fun a U => a = #[(.ref o1), (.long n)] ∧ Z.Warmed39 U.vm ∧ U.heap = h0) (fun _ _ _ _ _ => True) (fun _ U o U' => ∃ v L, o = .returned v ∧ Q_own_pd4B Z o1 y d n D h0 n0 v U'.heap L ∧ FrameEnd U o U' L ({ frames := 2, cells := 1, slots := 3, locals := 28 } : Room).cells ({ frames := 2, cells := 1, slots := 3, locals := 28 } : Room).slots) := by
  refine MetFree.of_bodySF (plainFor_of_name own_pn_java_time_LocalDate) hisR ?_
  intro p e s m args below meth c s₁ Bd hml0 hP hK
  obtain ⟨rfl, hZ, hh⟩ := hP
  have hx := Bd.exec
  have hby := Bd.bytes
  have hml : c.maxLocals = 7 := hml0
  have hown : s.vm.findClass "java/time/LocalDate" = some m.cls := findClass_of_methodNamed Bd.named
  have hnm := (name_of_methodNamed Bd.named Bd.method).1
  have hlk : meth.locks = false := BodyLoose.notSynchronized Bd
  have X0 : Stand p l e ({ frames := 2, cells := 1, slots := 3, locals := 28 } : Room) s m #[(.ref o1), (.long n)] below meth c s₁ [] 0 0 := Stand.of_body Bd
  have e0 : s₁.heap = h0 := by rw [← hh, Bd.state]; rfl
  have N0 := Fr.nil n0
  show own_Go p e below #[(.ref o1), (.long n)] s (fun _ U o U' => ∃ v L, o = .returned v ∧ Q_own_pd4B Z o1 y d n D h0 n0 v U'.heap L ∧ FrameEnd U o U' L ({ frames := 2, cells := 1, slots := 3, locals := 28 } : Room).cells ({ frames := 2, cells := 1, slots := 3, locals := 28 } : Room).slots) (s₁.setTop (entryFrame m #[(.ref o1), (.long n)] 7))
  refine own_st (V := s₁.setTop (mkF m 0 #[.val (.ref o1), .val (.long n), .second, .unset, .unset, .unset, .unset] [])) (fun t k => castTop (by first | (simp [entryFrame, mkF, argsToLocals, Value.category]; done) | rfl) k) ?_
  refine own_st (V := s₁.setTop (mkF m 1 #[.val (.ref o1), .val (.long n), .second, .unset, .unset, .unset, .unset] [(.long n)])) (fun t k => XS.lloadN X0.here hx rfl (hb hby own_d15_0) rfl k) ?_
  refine own_st (V := s₁.setTop (mkF m 2 #[.val (.ref o1), .val (.long n), .second, .unset, .unset, .unset, .unset] [(.long (0 : Int64)), (.long n)])) (fun t k => XS.lconst X0.here hx rfl (hb hby own_d15_1) k) ?_
  refine own_st (V := s₁.setTop (mkF m 3 #[.val (.ref o1), .val (.long n), .second, .unset, .unset, .unset, .unset] [(.int (lcmpW n (0 : Int64)))])) (fun t k => XS.lcmp X0.here hx rfl (hb hby own_d15_2) rfl k) ?_
  refine own_st (V := s₁.setTop (mkF m 8 #[.val (.ref o1), .val (.long n), .second, .unset, .unset, .unset, .unset] [])) (fun t k => XS.ifYes X0.here hx rfl (pc0 := 3) (pc' := 8) rfl (hb hby own_d15_3) rfl ((if0 _ _).trans (feq (own_eq0 (by have e : (0 : Int64).toInt = 0 := (by decide); omega))).2) (by decide) (by decide) k) ?_
  refine own_st (V := s₁.setTop (mkF m 9 #[.val (.ref o1), .val (.long n), .second, .unset, .unset, .unset, .unset] [(.ref o1)])) (fun t k => XS.aloadN X0.here hx rfl (hb hby own_d15_8) rfl rfl k) ?_
  obtain ⟨T45, X45, e45, st45⟩ := getF X0 hx hZ hown (host := "") (Or.inl (hw _ (List.mem_of_getElem? (i := 94) rfl))) Via.refl e0 FD (g := (mkF m 9 #[.val (.ref o1), .val (.long n), .second, .unset, .unset, .unset, .unset] [(.ref o1)])) rfl rfl (hb hby own_d15_9)
  refine own_st (V := T45.setTop (mkF m 12 #[.val (.ref o1), .val (.long n), .second, .unset, .unset, .unset, .unset] [(.int d)])) (fun t k => st45 _ k) ?_
  refine own_st (V := T45.setTop (mkF m 13 #[.val (.ref o1), .val (.long n), .second, .unset, .unset, .unset, .unset] [(.long (d.toInt64))])) (fun t k => XS.i2l X45.here hx rfl (hb hby own_d15_12) rfl k) ?_
  refine own_st (V := T45.setTop (mkF m 14 #[.val (.ref o1), .val (.long n), .second, .unset, .unset, .unset, .unset] [(.long n), (.long (d.toInt64))])) (fun t k => XS.lloadN X45.here hx rfl (hb hby own_d15_13) rfl k) ?_
  refine own_st (V := T45.setTop (mkF m 15 #[.val (.ref o1), .val (.long n), .second, .unset, .unset, .unset, .unset] [(.long ((d.toInt64) + n))])) (fun t k => XS.ladd X45.here hx rfl (hb hby own_d15_14) rfl k) ?_
  refine own_st (V := T45.setTop (mkF m 16 #[.val (.ref o1), .val (.long n), .second, .val (.long ((d.toInt64) + n)), .second, .unset, .unset] [])) (fun t k => XS.lstoreN X45.here hx rfl (hb hby own_d15_15) rfl (l' := #[.val (.ref o1), .val (.long n), .second, .val (.long ((d.toInt64) + n)), .second, .unset, .unset]) rfl k) ?_
  refine own_st (V := T45.setTop (mkF m 17 #[.val (.ref o1), .val (.long n), .second, .val (.long ((d.toInt64) + n)), .second, .unset, .unset] [(.long ((d.toInt64) + n))])) (fun t k => XS.lloadN X45.here hx rfl (hb hby own_d15_16) rfl k) ?_
  refine own_st (V := T45.setTop (mkF m 18 #[.val (.ref o1), .val (.long n), .second, .val (.long ((d.toInt64) + n)), .second, .unset, .unset] [(.long (0 : Int64)), (.long ((d.toInt64) + n))])) (fun t k => XS.lconst X45.here hx rfl (hb hby own_d15_17) k) ?_
  refine own_st (V := T45.setTop (mkF m 19 #[.val (.ref o1), .val (.long n), .second, .val (.long ((d.toInt64) + n)), .second, .unset, .unset] [(.int (lcmpW ((d.toInt64) + n) (0 : Int64)))])) (fun t k => XS.lcmp X45.here hx rfl (hb hby own_d15_18) rfl k) ?_
  refine own_st (V := T45.setTop (mkF m 22 #[.val (.ref o1), .val (.long n), .second, .val (.long ((d.toInt64) + n)), .second, .unset, .unset] [])) (fun t k => XS.ifNo X45.here hx rfl (hb hby own_d15_19) rfl ((if0 _ _).trans (tlt (own_gt1 (by have e : (0 : Int64).toInt = 0 := (by decide); omega))).2.2.2) k) ?_
  refine own_st (V := T45.setTop (mkF m 23 #[.val (.ref o1), .val (.long n), .second, .val (.long ((d.toInt64) + n)), .second, .unset, .unset] [(.long ((d.toInt64) + n))])) (fun t k => XS.lloadN X45.here hx rfl (hb hby own_d15_22) rfl k) ?_
  refine own_st (V := T45.setTop (mkF m 26 #[.val (.ref o1), .val (.long n), .second, .val (.long ((d.toInt64) + n)), .second, .unset, .unset] [(.long (28 : Int64)), (.long ((d.toInt64) + n))])) (fun t k => X45.ldc2Long hx hown (mvT hZ (hw _ (List.mem_of_getElem? (i := 101) rfl))) (g := (mkF m 23 #[.val (.ref o1), .val (.long n), .second, .val (.long ((d.toInt64) + n)), .second, .unset, .unset] [(.long ((d.toInt64) + n))])) rfl (hb hby own_d15_23) t k) ?_
  refine own_st (V := T45.setTop (mkF m 27 #[.val (.ref o1), .val (.long n), .second, .val (.long ((d.toInt64) + n)), .second, .unset, .unset] [(.int (lcmpW ((d.toInt64) + n) (28 : Int64)))])) (fun t k => XS.lcmp X45.here hx rfl (hb hby own_d15_26) rfl k) ?_
  refine own_st (V := T45.setTop (mkF m 30 #[.val (.ref o1), .val (.long n), .second, .val (.long ((d.toInt64) + n)), .second, .unset, .unset] [])) (fun t k => XS.ifNo X45.here hx rfl (hb hby own_d15_27) rfl ((if0 _ _).trans (flt (own_gt0 (by have e : (28 : Int64).toInt = 28 := (by decide); omega))).2.2.1) k) ?_
  obtain ⟨T46, h46, X46, e46, E46, A46, D46, -, st46⟩ := newO X45 hx hZ hown (hw _ (List.mem_of_getElem? (i := 81) rfl)) (hw _ (List.mem_of_getElem? (i := 82) rfl)) (hw _ (List.mem_of_getElem? (i := 10) rfl)) e45 (g := (mkF m 30 #[.val (.ref o1), .val (.long n), .second, .val (.long ((d.toInt64) + n)), .second, .unset, .unset] [])) rfl (hb hby own_d15_30) (by decide) (by decide)
  obtain ⟨b46, g46⟩ : ∃ z, z = h0.size := ⟨_, rfl⟩
  rw [← g46] at A46 D46 st46
  have gb_b46 : n0 ≤ b46 := Nat.le_trans Z0 (Nat.le_of_eq g46.symm)
  have Z0_46 : n0 ≤ h46.size := Nat.le_trans Z0 E46.1
  have sz_b46 : h0.size ≤ b46 := Nat.le_trans (Keep.refl h0 []).1 (Nat.le_of_eq g46.symm)
  have Kc46 := (Keep.refl h0 []).ext E46
  have ne_o1_b46 : o1 ≠ b46 := Nat.ne_of_lt (Nat.lt_of_lt_of_le E1.lt (Nat.le_of_eq g46.symm))
  have F46_o1_year := FY.ext E46
  have F46_o1_month := FM.ext E46
  have F46_o1_day := FD.ext E46
  have Ex46_o1 := E1.ext E46
  have F46_b46_year : Fld Z h46 b46 "java/time/LocalDate" "year" "I" (.int (0 : Int32)) := D46 (Or.inr (hw _ (List.mem_of_getElem? (i := 91) rfl))) (ty := .int) (by decide)
  have F46_b46_month : Fld Z h46 b46 "java/time/LocalDate" "month" "S" (.int (0 : Int32)) := D46 (Or.inr (hw _ (List.mem_of_getElem? (i := 93) rfl))) (ty := .short) (by decide)
  have F46_b46_day : Fld Z h46 b46 "java/time/LocalDate" "day" "S" (.int (0 : Int32)) := D46 (Or.inr (hw _ (List.mem_of_getElem? (i := 95) rfl))) (ty := .short) (by decide)
  refine own_st (V := T46.setTop (mkF m 33 #[.val (.ref o1), .val (.long n), .second, .val (.long ((d.toInt64) + n)), .second, .unset, .unset] [(.ref b46)])) (fun t k => st46 _ k) ?_
  refine own_st (V := T46.setTop (mkF m 34 #[.val (.ref o1), .val (.long n), .second, .val (.long ((d.toInt64) + n)), .second, .unset, .unset] [(.ref b46), (.ref b46)])) (fun t k => XS.dup X46.here hx rfl (hb hby own_d15_33) rfl rfl k) ?_
  refine own_st (V := T46.setTop (mkF m 35 #[.val (.ref o1), .val (.long n), .second, .val (.long ((d.toInt64) + n)), .second, .unset, .unset] [(.ref o1), (.ref b46), (.ref b46)])) (fun t k => XS.aloadN X46.here hx rfl (hb hby own_d15_34) rfl rfl k) ?_
  obtain ⟨T47, X47, e47, st47⟩ := getF X46 hx hZ hown (host := "") (Or.inl (hw _ (List.mem_of_getElem? (i := 90) rfl))) Via.refl e46 F46_o1_year (g := (mkF m 35 #[.val (.ref o1), .val (.long n), .second, .val (.long ((d.toInt64) + n)), .second, .unset, .unset] [(.ref o1), (.ref b46), (.ref b46)])) rfl rfl (hb hby own_d15_35)
  refine own_st (V := T47.setTop (mkF m 38 #[.val (.ref o1), .val (.long n), .second, .val (.long ((d.toInt64) + n)), .second, .unset, .unset] [(.int y), (.ref b46), (.ref b46)])) (fun t k => st47 _ k) ?_
  refine own_st (V := T47.setTop (mkF m 39 #[.val (.ref o1), .val (.long n), .second, .val (.long ((d.toInt64) + n)), .second, .unset, .unset] [(.ref o1), (.int y), (.ref b46), (.ref b46)])) (fun t k => XS.aloadN X47.here hx rfl (hb hby own_d15_38) rfl rfl k) ?_
  obtain ⟨T48, X48, e48, st48⟩ := getF X47 hx hZ hown (host := "") (Or.inl (hw _ (List.mem_of_getElem? (i := 92) rfl))) Via.refl e47 F46_o1_month (g := (mkF m 39 #[.val (.ref o1), .val (.long n), .second, .val (.long ((d.toInt64) + n)), .second, .unset, .unset] [(.ref o1), (.int y), (.ref b46), (.ref b46)])) rfl rfl (hb hby own_d15_39)
  refine own_st (V := T48.setTop (mkF m 42 #[.val (.ref o1), .val (.long n), .second, .val (.long ((d.toInt64) + n)), .second, .unset, .unset] [(.int (4 : Int32)), (.int y), (.ref b46), (.ref b46)])) (fun t k => st48 _ k) ?_
  refine own_st (V := T48.setTop (mkF m 43 #[.val (.ref o1), .val (.long n), .second, .val (.long ((d.toInt64) + n)), .second, .unset, .unset] [(.long ((d.toInt64) + n)), (.int (4 : Int32)), (.int y), (.ref b46), (.ref b46)])) (fun t k => XS.lloadN X48.here hx rfl (hb hby own_d15_42) rfl k) ?_
  refine own_st (V := T48.setTop (mkF m 44 #[.val (.ref o1), .val (.long n), .second, .val (.long ((d.toInt64) + n)), .second, .unset, .unset] [(.int (((d.toInt64) + n).toInt32)), (.int (4 : Int32)), (.int y), (.ref b46), (.ref b46)])) (fun t k => XS.l2i X48.here hx rfl (hb hby own_d15_43) rfl k) ?_
  obtain ⟨_, _, ⟨T49, L49, k49, n49⟩, -, X49, ⟨Lc49, hQ49, l49, y49, z49⟩, st49⟩ := X48.specialBack hx (y := (⟨"java/time/LocalDate", "<init>", "(III)V"⟩ : MethodName)) rfl hown (mvT hZ (hw _ (List.mem_of_getElem? (i := 83) rfl))) (mvT hZ (hw _ (List.mem_of_getElem? (i := 84) rfl))) (mvT hZ (hw _ (List.mem_of_getElem? (i := 86) rfl))) (by decide) (backOf (W := 1) (own_di l Z a0 hw [] b46 y (4 : Int32) (((d.toInt64) + n).toInt32) h46 n0 Z0_46 F46_b46_year F46_b46_month F46_b46_day A46 gb_b46 (by decide) (by decide) (by rw [own_l2i hD (by omega) (by omega)]; omega) (by rw [own_l2i hD (by omega) (by omega)]; omega)) hZ (hw _ (List.mem_of_getElem? (i := 86) rfl)) (hw _ (List.mem_of_getElem? (i := 10) rfl)) (by decide) (by decide)) (g := (mkF m 44 #[.val (.ref o1), .val (.long n), .second, .val (.long ((d.toInt64) + n)), .second, .unset, .unset] [(.int (((d.toInt64) + n).toInt32)), (.int (4 : Int32)), (.int y), (.ref b46), (.ref b46)])) rfl (by rw [hml]; rfl) (Steps.refl _) (a := b46) (argsL := [(.int y), (.int (4 : Int32)), (.int (((d.toInt64) + n).toInt32))]) (rest := [(.ref b46)]) (lenOf own_pd5 rfl) rfl (by show 2 * 0 + _ ≤ _; exact Nat.le_of_eq rfl) (hb hby own_d15_44) (fun _ _ => ⟨rfl, e48, (by decide : 1 + 0 ≤ _), (by decide : 3 + 0 ≤ _)⟩)
  dsimp only [Pt.U, Pt.locs, Pt.cells, Pt.slots] at X49 l49 y49 z49 st49 hQ49
  subst l49 y49 z49
  obtain ⟨rfl, N49q, K49, Ex49_q, Fq49_0, Fq49_1, Fq49_2⟩ := hQ49
  have N49 := Fr.app N0 N49q
  have Z0_49 : n0 ≤ T49.heap.size := Nat.le_trans Z0_46 K49.1
  have Kc49 := Kc46.trans K49 (fun x hx => Or.inr (by cases List.mem_singleton.mp hx; exact sz_b46))
  have F49_o1_year := F46_o1_year.keep K49 (ninS ne_o1_b46 nin0)
  have F49_o1_month := F46_o1_month.keep K49 (ninS ne_o1_b46 nin0)
  have F49_o1_day := F46_o1_day.keep K49 (ninS ne_o1_b46 nin0)
  have Ex49_o1 := Ex46_o1.keep K49
  have Ex49_b46 := A46.keep K49
  refine own_st (V := T49.setTop (mkF m 47 #[.val (.ref o1), .val (.long n), .second, .val (.long ((d.toInt64) + n)), .second, .unset, .unset] [(.ref b46)])) (fun t k => st49.trans k) ?_
  exact own_ret X49 hx hlk Bd.returns rfl (Or.inr (Or.inr (Or.inr (Or.inr ⟨rfl, rfl, rfl⟩)))) (hb hby own_d15_47) (by decide) (by decide) (by show Q_own_pd4B Z o1 y d n D h0 n0 _ T49.heap _; exact ⟨_, _, rfl, N49, Kc49, Ex49_q, Fq49_0, Fq49_1, Fq49_2, (own_l2i hD (by omega) (by omega))⟩)
def Q_own_md3B (Z : State) (o1 : Addr) (y d : Int32) (D : Int) (h0 : Heap) (n0 : Nat) (v : Option Value) (h : Heap) (L : List Loc) : Prop := ∃ b r, v = some (.ref b) ∧ Fr n0 L ∧ Keep h0 h [] ∧ Exa Z h b "java/time/LocalDate" ∧ Fld Z h b "java/time/LocalDate" "year" "I" (.int y) ∧ Fld Z h b "java/time/LocalDate" "month" "S" (.int (3 : Int32)) ∧ Fld Z h b "java/time/LocalDate" "day" "S" (.int r) ∧ r.toInt = D
theorem own_d17_0 : decode jdk_2323_method_50_code 0 = .ok (.lload_n 1, 1) := by decide +kernel
theorem own_d17_1 : decode jdk_2323_method_50_code 1 = .ok (.ldc2_w 500, 3) := by decide +kernel
theorem own_d17_4 : decode jdk_2323_method_50_code 4 = .ok (.lcmp, 1) := by decide +kernel
theorem own_d17_5 : decode jdk_2323_method_50_code 5 = .ok (.ifCond .ne 17, 3) := by decide +kernel
theorem own_d17_22 : decode jdk_2323_method_50_code 22 = .ok (.aload_n 0, 1) := by decide +kernel
theorem own_d17_23 : decode jdk_2323_method_50_code 23 = .ok (.lload_n 1, 1) := by decide +kernel
theorem own_d17_24 : decode jdk_2323_method_50_code 24 = .ok (.lneg, 1) := by decide +kernel
theorem own_d17_25 : decode jdk_2323_method_50_code 25 = .ok (.invokevirtual 385, 3) := by decide +kernel
theorem own_pd9 : parseMethodDescriptor "(J)Ljava/time/LocalDate;" = some ⟨[.long], some (.object "java/time/LocalDate")⟩ := by decide +kernel
theorem own_d17_28 : decode jdk_2323_method_50_code 28 = .ok (.areturn, 1) := by decide +kernel
set_option maxRecDepth 65536 in
set_option maxHeartbeats 40000000 in
theorem own_md3B (l : Launch) (Z : State) (a0 : Array Value) (hw : ∀ d ∈ tables_1, d.before a0 Z = true) (ws : List Jvm.Cond) (o1 : Addr) (y d : Int32) (D : Int) (h0 : Heap) (n0 : Nat) (Z0 : n0 ≤ h0.size) (E1 : Exa Z h0 o1 "java/time/LocalDate") (FY : Fld Z h0 o1 "java/time/LocalDate" "year" "I" (.int y)) (FM : Fld Z h0 o1 "java/time/LocalDate" "month" "S" (.int (3 : Int32))) (FD : Fld Z h0 o1 "java/time/LocalDate" "day" "S" (.int d)) (hD : (d.toInt64 + (-(2 : Int64))).toInt = D) (h1 : 1 ≤ D) (h2 : D ≤ 28) :
    MetFree l (⟨"java/time/LocalDate", "minusDays", "(J)Ljava/time/LocalDate;"⟩ : MethodName) (head1 (Jvm.Cond.code (⟨"java/time/LocalDate", "minusDays", "(J)Ljava/time/LocalDate;"⟩ : MethodName) jdk_2323_method_50_code 3 (some (.object "java/time/LocalDate")) :: ws) ({ frames := 3, cells := 1, slots := 3, locals := 46 } : Room)) (fun a U => a = #[(.ref o1), (.long (2 : Int64))] ∧ Z.Warmed39 U.vm ∧ U.heap = h0) (fun _ _ _ _ _ => True) (fun _ U o U' => ∃ v L, o = .returned v ∧ Q_own_md3B Z o1 y d D h0 n0 v U'.heap L ∧ FrameEnd U o U' L ({ frames := 3, cells := 1, slots := 3, locals := 46 } : Room).cells ({ frames := 3, cells := 1, slots := 3, locals := 46 } : Room).slots) := by
  refine MetFree.of_bodySF (plainFor_of_name own_pn_java_time_LocalDate) hisR ?_
  intro p e s m args below meth c s₁ Bd hml0 hP hK
  obtain ⟨rfl, hZ, hh⟩ := hP
  have hx := Bd.exec
  have hby := Bd.bytes
  have hml : c.maxLocals = 3 := hml0
  have hown : s.vm.findClass "java/time/LocalDate" = some m.cls := findClass_of_methodNamed Bd.named
  have hnm := (name_of_methodNamed Bd.named Bd.method).1
  have hlk : meth.locks = false := BodyLoose.notSynchronized Bd
  have X0 : Stand p l e ({ frames := 3, cells := 1, slots := 3, locals := 46 } : Room) s m #[(.ref o1), (.long (2 : Int64))] below meth c s₁ [] 0 0 := Stand.of_body Bd
  have e0 : s₁.heap = h0 := by rw [← hh, Bd.state]; rfl
  have N0 := Fr.nil n0
  show own_Go p e below #[(.ref o1), (.long (2 : Int64))] s (fun _ U o U' => ∃ v L, o = .returned v ∧ Q_own_md3B Z o1 y d D h0 n0 v U'.heap L ∧ FrameEnd U o U' L ({ frames := 3, cells := 1, slots := 3, locals := 46 } : Room).cells ({ frames := 3, cells := 1, slots := 3, locals := 46 } : Room).slots) (s₁.setTop (entryFrame m #[(.ref o1), (.long (2 : Int64))] 3))
  refine own_st (V := s₁.setTop (mkF m 0 #[.val (.ref o1), .val (.long (2 : Int64)), .second] [])) (fun t k => castTop (by first | (simp [entryFrame, mkF, argsToLocals, Value.category]; done) | rfl) k) ?_
  refine own_st (V := s₁.setTop (mkF m 1 #[.val (.ref o1), .val (.long (2 : Int64)), .second] [(.long (2 : Int64))])) (fun t k => XS.lloadN X0.here hx rfl (hb hby own_d17_0) rfl k) ?_
  refine own_st (V := s₁.setTop (mkF m 4 #[.val (.ref o1), .val (.long (2 : Int64)), .second] [(.long (-9223372036854775808 : Int64)), (.long (2 : Int64))])) (fun t k => X0.ldc2Long hx hown (mvT hZ (hw _ (List.mem_of_getElem? (i := 114) rfl))) (g := (mkF m 1 #[.val (.ref o1), .val (.long (2 : Int64)), .second] [(.long (2 : Int64))])) rfl (hb hby own_d17_1) t k) ?_
  refine own_st (V := s₁.setTop (mkF m 5 #[.val (.ref o1), .val (.long (2 : Int64)), .second] [(.int (lcmpW (2 : Int64) (-9223372036854775808 : Int64)))])) (fun t k => XS.lcmp X0.here hx rfl (hb hby own_d17_4) rfl k) ?_
  refine own_st (V := s₁.setTop (mkF m 22 #[.val (.ref o1), .val (.long (2 : Int64)), .second] [])) (fun t k => XS.ifYes X0.here hx rfl (pc0 := 5) (pc' := 22) rfl (hb hby own_d17_5) rfl ((if0 _ _).trans (feq (own_eq0 (by decide))).2) (by decide) (by decide) k) ?_
  refine own_st (V := s₁.setTop (mkF m 23 #[.val (.ref o1), .val (.long (2 : Int64)), .second] [(.ref o1)])) (fun t k => XS.aloadN X0.here hx rfl (hb hby own_d17_22) rfl rfl k) ?_
  refine own_st (V := s₁.setTop (mkF m 24 #[.val (.ref o1), .val (.long (2 : Int64)), .second] [(.long (2 : Int64)), (.ref o1)])) (fun t k => XS.lloadN X0.here hx rfl (hb hby own_d17_23) rfl k) ?_
  refine own_st (V := s₁.setTop (mkF m 25 #[.val (.ref o1), .val (.long (2 : Int64)), .second] [(.long (-(2 : Int64))), (.ref o1)])) (fun t k => XS.lneg X0.here hx rfl (hb hby own_d17_24) rfl k) ?_
  obtain ⟨cq50, kq50, q50a, q50b, q50c⟩ := isOf hZ e0 E1
  obtain ⟨_, _, ⟨T50, L50, k50, n50⟩, -, X50, ⟨Lc50, hQ50, l50, y50, z50⟩, st50⟩ := X0.virtualBack hx (y := (⟨"java/time/LocalDate", "plusDays", "(J)Ljava/time/LocalDate;"⟩ : MethodName)) (z := (⟨"java/time/LocalDate", "plusDays", "(J)Ljava/time/LocalDate;"⟩ : MethodName)) hown (mvT hZ (hw _ (List.mem_of_getElem? (i := 115) rfl))) (mvT hZ (hw _ (List.mem_of_getElem? (i := 97) rfl))) (notFace_of_selects (args := #[]) (mvT hZ (hw _ (List.mem_of_getElem? (i := 99) rfl)))) (mvT hZ (hw _ (List.mem_of_getElem? (i := 99) rfl))) (mvT hZ (hw _ (List.mem_of_getElem? (i := 98) rfl))) (by decide) (backOf (W := 0) (own_pd3B l Z a0 hw [] o1 y d (-(2 : Int64)) D h0 n0 Z0 E1 FY FM FD (by decide) hD h1 h2) hZ (hw _ (List.mem_of_getElem? (i := 100) rfl)) (hw _ (List.mem_of_getElem? (i := 10) rfl)) (by decide) (by decide)) q50a q50c (g := (mkF m 25 #[.val (.ref o1), .val (.long (2 : Int64)), .second] [(.long (-(2 : Int64))), (.ref o1)])) rfl (by rw [hml]; rfl) (Steps.refl _) (argsL := [(.long (-(2 : Int64)))]) (rest := []) (lenOf own_pd9 rfl) rfl (by show 2 * 0 + _ ≤ _; exact Nat.le_of_eq rfl) (hb hby own_d17_25) (fun _ _ => ⟨rfl, e0, (by decide : 0 + 1 ≤ _), (by decide : 0 + 3 ≤ _)⟩)
  dsimp only [Pt.U, Pt.locs, Pt.cells, Pt.slots] at X50 l50 y50 z50 st50 hQ50
  subst l50 y50 z50
  obtain ⟨d50, r50, rfl, N50q, K50, Ex50_q, Fq50_0, Fq50_1, Fq50_2, hr50⟩ := hQ50
  have N50 := Fr.app N0 N50q
  have Z0_50 : n0 ≤ T50.heap.size := Nat.le_trans Z0 K50.1
  have Kc50 := (Keep.refl h0 []).trans K50 all0
  have F50_o1_year := FY.keep K50 nin0
  have F50_o1_month := FM.keep K50 nin0
  have F50_o1_day := FD.keep K50 nin0
  have Ex50_o1 := E1.keep K50
  refine own_st (V := T50.setTop (mkF m 28 #[.val (.ref o1), .val (.long (2 : Int64)), .second] [(.ref d50)])) (fun t k => st50.trans k) ?_
  exact own_ret X50 hx hlk Bd.returns rfl (Or.inr (Or.inr (Or.inr (Or.inr ⟨rfl, rfl, rfl⟩)))) (hb hby own_d17_28) (by decide) (by decide) (by show Q_own_md3B Z o1 y d D h0 n0 _ T50.heap _; exact ⟨_, _, rfl, N50, Kc50, Ex50_q, Fq50_0, Fq50_1, Fq50_2, hr50⟩)
def Q_own_md3C (Z : State) (o1 : Addr) (y d : Int32) (D : Int) (h0 : Heap) (n0 : Nat) (v : Option Value) (h : Heap) (L : List Loc) : Prop := ∃ b r, v = some (.ref b) ∧ Fr n0 L ∧ Keep h0 h [] ∧ Exa Z h b "java/time/LocalDate" ∧ Fld Z h b "java/time/LocalDate" "year" "I" (.int y) ∧ Fld Z h b "java/time/LocalDate" "month" "S" (.int (3 : Int32)) ∧ Fld Z h b "java/time/LocalDate" "day" "S" (.int r) ∧ r.toInt = D
set_option maxRecDepth 65536 in
set_option maxHeartbeats 40000000 in
theorem own_md3C (l : Launch) (Z : State) (a0 : Array Value) (hw : ∀ d ∈ tables_1, d.before a0 Z = true) (ws : List Jvm.Cond) (o1 : Addr) (y d : Int32) (D : Int) (h0 : Heap) (n0 : Nat) (Z0 : n0 ≤ h0.size) (E1 : Exa Z h0 o1 "java/time/LocalDate") (FY : Fld Z h0 o1 "java/time/LocalDate" "year" "I" (.int y)) (FM : Fld Z h0 o1 "java/time/LocalDate" "month" "S" (.int (3 : Int32))) (FD : Fld Z h0 o1 "java/time/LocalDate" "day" "S" (.int d)) (hD : (d.toInt64 + (-(2 : Int64))).toInt = D) (h1 : 28 < D) (h2 : D ≤ 31) :
    MetFree l (⟨"java/time/LocalDate", "minusDays", "(J)Ljava/time/LocalDate;"⟩ : MethodName) (head1 (Jvm.Cond.code (⟨"java/time/LocalDate", "minusDays", "(J)Ljava/time/LocalDate;"⟩ : MethodName) jdk_2323_method_50_code 3 (some (.object "java/time/LocalDate")) :: ws) ({ frames := 3, cells := 1, slots := 3, locals := 46 } : Room)) (fun a U => a = #[(.ref o1), (.long (2 : Int64))] ∧ Z.Warmed39 U.vm ∧ U.heap = h0) (fun _ _ _ _ _ => True) (fun _ U o U' => ∃ v L, o = .returned v ∧ Q_own_md3C Z o1 y d D h0 n0 v U'.heap L ∧ FrameEnd U o U' L ({ frames := 3, cells := 1, slots := 3, locals := 46 } : Room).cells ({ frames := 3, cells := 1, slots := 3, locals := 46 } : Room).slots) := by
  refine MetFree.of_bodySF (plainFor_of_name own_pn_java_time_LocalDate) hisR ?_
  intro p e s m args below meth c s₁ Bd hml0 hP hK
  obtain ⟨rfl, hZ, hh⟩ := hP
  have hx := Bd.exec
  have hby := Bd.bytes
  have hml : c.maxLocals = 3 := hml0
  have hown : s.vm.findClass "java/time/LocalDate" = some m.cls := findClass_of_methodNamed Bd.named
  have hnm := (name_of_methodNamed Bd.named Bd.method).1
  have hlk : meth.locks = false := BodyLoose.notSynchronized Bd
  have X0 : Stand p l e ({ frames := 3, cells := 1, slots := 3, locals := 46 } : Room) s m #[(.ref o1), (.long (2 : Int64))] below meth c s₁ [] 0 0 := Stand.of_body Bd
  have e0 : s₁.heap = h0 := by rw [← hh, Bd.state]; rfl
  have N0 := Fr.nil n0
  show own_Go p e below #[(.ref o1), (.long (2 : Int64))] s (fun _ U o U' => ∃ v L, o = .returned v ∧ Q_own_md3C Z o1 y d D h0 n0 v U'.heap L ∧ FrameEnd U o U' L ({ frames := 3, cells := 1, slots := 3, locals := 46 } : Room).cells ({ frames := 3, cells := 1, slots := 3, locals := 46 } : Room).slots) (s₁.setTop (entryFrame m #[(.ref o1), (.long (2 : Int64))] 3))
  refine own_st (V := s₁.setTop (mkF m 0 #[.val (.ref o1), .val (.long (2 : Int64)), .second] [])) (fun t k => castTop (by first | (simp [entryFrame, mkF, argsToLocals, Value.category]; done) | rfl) k) ?_
  refine own_st (V := s₁.setTop (mkF m 1 #[.val (.ref o1), .val (.long (2 : Int64)), .second] [(.long (2 : Int64))])) (fun t k => XS.lloadN X0.here hx rfl (hb hby own_d17_0) rfl k) ?_
  refine own_st (V := s₁.setTop (mkF m 4 #[.val (.ref o1), .val (.long (2 : Int64)), .second] [(.long (-9223372036854775808 : Int64)), (.long (2 : Int64))])) (fun t k => X0.ldc2Long hx hown (mvT hZ (hw _ (List.mem_of_getElem? (i := 114) rfl))) (g := (mkF m 1 #[.val (.ref o1), .val (.long (2 : Int64)), .second] [(.long (2 : Int64))])) rfl (hb hby own_d17_1) t k) ?_
  refine own_st (V := s₁.setTop (mkF m 5 #[.val (.ref o1), .val (.long (2 : Int64)), .second] [(.int (lcmpW (2 : Int64) (-9223372036854775808 : Int64)))])) (fun t k => XS.lcmp X0.here hx rfl (hb hby own_d17_4) rfl k) ?_
  refine own_st (V := s₁.setTop (mkF m 22 #[.val (.ref o1), .val (.long (2 : Int64)), .second] [])) (fun t k => XS.ifYes X0.here hx rfl (pc0 := 5) (pc' := 22) rfl (hb hby own_d17_5) rfl ((if0 _ _).trans (feq (own_eq0 (by decide))).2) (by decide) (by decide) k) ?_
  refine own_st (V := s₁.setTop (mkF m 23 #[.val (.ref o1), .val (.long (2 : Int64)), .second] [(.ref o1)])) (fun t k => XS.aloadN X0.here hx rfl (hb hby own_d17_22) rfl rfl k) ?_
  refine own_st (V := s₁.setTop (mkF m 24 #[.val (.ref o1), .val (.long (2 : Int64)), .second] [(.long (2 : Int64)), (.ref o1)])) (fun t k => XS.lloadN X0.here hx rfl (hb hby own_d17_23) rfl k) ?_
  refine own_st (V := s₁.setTop (mkF m 25 #[.val (.ref o1), .val (.long (2 : Int64)), .second] [(.long (-(2 : Int64))), (.ref o1)])) (fun t k => XS.lneg X0.here hx rfl (hb hby own_d17_24) rfl k) ?_
  obtain ⟨cq51, kq51, q51a, q51b, q51c⟩ := isOf hZ e0 E1
  obtain ⟨_, _, ⟨T51, L51, k51, n51⟩, -, X51, ⟨Lc51, hQ51, l51, y51, z51⟩, st51⟩ := X0.virtualBack hx (y := (⟨"java/time/LocalDate", "plusDays", "(J)Ljava/time/LocalDate;"⟩ : MethodName)) (z := (⟨"java/time/LocalDate", "plusDays", "(J)Ljava/time/LocalDate;"⟩ : MethodName)) hown (mvT hZ (hw _ (List.mem_of_getElem? (i := 115) rfl))) (mvT hZ (hw _ (List.mem_of_getElem? (i := 97) rfl))) (notFace_of_selects (args := #[]) (mvT hZ (hw _ (List.mem_of_getElem? (i := 99) rfl)))) (mvT hZ (hw _ (List.mem_of_getElem? (i := 99) rfl))) (mvT hZ (hw _ (List.mem_of_getElem? (i := 98) rfl))) (by decide) (backOf (W := 0) (own_pd3C l Z a0 hw [] o1 y d (-(2 : Int64)) D h0 n0 Z0 E1 FY FM FD (by decide) hD h1 h2) hZ (hw _ (List.mem_of_getElem? (i := 100) rfl)) (hw _ (List.mem_of_getElem? (i := 10) rfl)) (by decide) (by decide)) q51a q51c (g := (mkF m 25 #[.val (.ref o1), .val (.long (2 : Int64)), .second] [(.long (-(2 : Int64))), (.ref o1)])) rfl (by rw [hml]; rfl) (Steps.refl _) (argsL := [(.long (-(2 : Int64)))]) (rest := []) (lenOf own_pd9 rfl) rfl (by show 2 * 0 + _ ≤ _; exact Nat.le_of_eq rfl) (hb hby own_d17_25) (fun _ _ => ⟨rfl, e0, (by decide : 0 + 1 ≤ _), (by decide : 0 + 3 ≤ _)⟩)
  dsimp only [Pt.U, Pt.locs, Pt.cells, Pt.slots] at X51 l51 y51 z51 st51 hQ51
  subst l51 y51 z51
  obtain ⟨d51, r51, rfl, N51q, K51, Ex51_q, Fq51_0, Fq51_1, Fq51_2, hr51⟩ := hQ51
  have N51 := Fr.app N0 N51q
  have Z0_51 : n0 ≤ T51.heap.size := Nat.le_trans Z0 K51.1
  have Kc51 := (Keep.refl h0 []).trans K51 all0
  have F51_o1_year := FY.keep K51 nin0
  have F51_o1_month := FM.keep K51 nin0
  have F51_o1_day := FD.keep K51 nin0
  have Ex51_o1 := E1.keep K51
  refine own_st (V := T51.setTop (mkF m 28 #[.val (.ref o1), .val (.long (2 : Int64)), .second] [(.ref d51)])) (fun t k => st51.trans k) ?_
  exact own_ret X51 hx hlk Bd.returns rfl (Or.inr (Or.inr (Or.inr (Or.inr ⟨rfl, rfl, rfl⟩)))) (hb hby own_d17_28) (by decide) (by decide) (by show Q_own_md3C Z o1 y d D h0 n0 _ T51.heap _; exact ⟨_, _, rfl, N51, Kc51, Ex51_q, Fq51_0, Fq51_1, Fq51_2, hr51⟩)
def Q_own_md4B (Z : State) (o1 : Addr) (y d : Int32) (D : Int) (h0 : Heap) (n0 : Nat) (v : Option Value) (h : Heap) (L : List Loc) : Prop := ∃ b r, v = some (.ref b) ∧ Fr n0 L ∧ Keep h0 h [] ∧ Exa Z h b "java/time/LocalDate" ∧ Fld Z h b "java/time/LocalDate" "year" "I" (.int y) ∧ Fld Z h b "java/time/LocalDate" "month" "S" (.int (4 : Int32)) ∧ Fld Z h b "java/time/LocalDate" "day" "S" (.int r) ∧ r.toInt = D
set_option maxRecDepth 65536 in
set_option maxHeartbeats 40000000 in
theorem own_md4B (l : Launch) (Z : State) (a0 : Array Value) (hw : ∀ d ∈ tables_1, d.before a0 Z = true) (ws : List Jvm.Cond) (o1 : Addr) (y d : Int32) (D : Int) (h0 : Heap) (n0 : Nat) (Z0 : n0 ≤ h0.size) (E1 : Exa Z h0 o1 "java/time/LocalDate") (FY : Fld Z h0 o1 "java/time/LocalDate" "year" "I" (.int y)) (FM : Fld Z h0 o1 "java/time/LocalDate" "month" "S" (.int (4 : Int32))) (FD : Fld Z h0 o1 "java/time/LocalDate" "day" "S" (.int d)) (hD : (d.toInt64 + (-(2 : Int64))).toInt = D) (h1 : 1 ≤ D) (h2 : D ≤ 28) :
    MetFree l (⟨"java/time/LocalDate", "minusDays", "(J)Ljava/time/LocalDate;"⟩ : MethodName) (head1 (Jvm.Cond.code (⟨"java/time/LocalDate", "minusDays", "(J)Ljava/time/LocalDate;"⟩ : MethodName) jdk_2323_method_50_code 3 (some (.object "java/time/LocalDate")) :: ws) ({ frames := 3, cells := 1, slots := 3, locals := 46 } : Room)) (fun a U => a = #[(.ref o1), (.long (2 : Int64))] ∧ Z.Warmed39 U.vm ∧ U.heap = h0) (fun _ _ _ _ _ => True) (fun _ U o U' => ∃ v L, o = .returned v ∧ Q_own_md4B Z o1 y d D h0 n0 v U'.heap L ∧ FrameEnd U o U' L ({ frames := 3, cells := 1, slots := 3, locals := 46 } : Room).cells ({ frames := 3, cells := 1, slots := 3, locals := 46 } : Room).slots) := by
  refine MetFree.of_bodySF (plainFor_of_name own_pn_java_time_LocalDate) hisR ?_
  intro p e s m args below meth c s₁ Bd hml0 hP hK
  obtain ⟨rfl, hZ, hh⟩ := hP
  have hx := Bd.exec
  have hby := Bd.bytes
  have hml : c.maxLocals = 3 := hml0
  have hown : s.vm.findClass "java/time/LocalDate" = some m.cls := findClass_of_methodNamed Bd.named
  have hnm := (name_of_methodNamed Bd.named Bd.method).1
  have hlk : meth.locks = false := BodyLoose.notSynchronized Bd
  have X0 : Stand p l e ({ frames := 3, cells := 1, slots := 3, locals := 46 } : Room) s m #[(.ref o1), (.long (2 : Int64))] below meth c s₁ [] 0 0 := Stand.of_body Bd
  have e0 : s₁.heap = h0 := by rw [← hh, Bd.state]; rfl
  have N0 := Fr.nil n0
  show own_Go p e below #[(.ref o1), (.long (2 : Int64))] s (fun _ U o U' => ∃ v L, o = .returned v ∧ Q_own_md4B Z o1 y d D h0 n0 v U'.heap L ∧ FrameEnd U o U' L ({ frames := 3, cells := 1, slots := 3, locals := 46 } : Room).cells ({ frames := 3, cells := 1, slots := 3, locals := 46 } : Room).slots) (s₁.setTop (entryFrame m #[(.ref o1), (.long (2 : Int64))] 3))
  refine own_st (V := s₁.setTop (mkF m 0 #[.val (.ref o1), .val (.long (2 : Int64)), .second] [])) (fun t k => castTop (by first | (simp [entryFrame, mkF, argsToLocals, Value.category]; done) | rfl) k) ?_
  refine own_st (V := s₁.setTop (mkF m 1 #[.val (.ref o1), .val (.long (2 : Int64)), .second] [(.long (2 : Int64))])) (fun t k => XS.lloadN X0.here hx rfl (hb hby own_d17_0) rfl k) ?_
  refine own_st (V := s₁.setTop (mkF m 4 #[.val (.ref o1), .val (.long (2 : Int64)), .second] [(.long (-9223372036854775808 : Int64)), (.long (2 : Int64))])) (fun t k => X0.ldc2Long hx hown (mvT hZ (hw _ (List.mem_of_getElem? (i := 114) rfl))) (g := (mkF m 1 #[.val (.ref o1), .val (.long (2 : Int64)), .second] [(.long (2 : Int64))])) rfl (hb hby own_d17_1) t k) ?_
  refine own_st (V := s₁.setTop (mkF m 5 #[.val (.ref o1), .val (.long (2 : Int64)), .second] [(.int (lcmpW (2 : Int64) (-9223372036854775808 : Int64)))])) (fun t k => XS.lcmp X0.here hx rfl (hb hby own_d17_4) rfl k) ?_
  refine own_st (V := s₁.setTop (mkF m 22 #[.val (.ref o1), .val (.long (2 : Int64)), .second] [])) (fun t k => XS.ifYes X0.here hx rfl (pc0 := 5) (pc' := 22) rfl (hb hby own_d17_5) rfl ((if0 _ _).trans (feq (own_eq0 (by decide))).2) (by decide) (by decide) k) ?_
  refine own_st (V := s₁.setTop (mkF m 23 #[.val (.ref o1), .val (.long (2 : Int64)), .second] [(.ref o1)])) (fun t k => XS.aloadN X0.here hx rfl (hb hby own_d17_22) rfl rfl k) ?_
  refine own_st (V := s₁.setTop (mkF m 24 #[.val (.ref o1), .val (.long (2 : Int64)), .second] [(.long (2 : Int64)), (.ref o1)])) (fun t k => XS.lloadN X0.here hx rfl (hb hby own_d17_23) rfl k) ?_
  refine own_st (V := s₁.setTop (mkF m 25 #[.val (.ref o1), .val (.long (2 : Int64)), .second] [(.long (-(2 : Int64))), (.ref o1)])) (fun t k => XS.lneg X0.here hx rfl (hb hby own_d17_24) rfl k) ?_
  obtain ⟨cq52, kq52, q52a, q52b, q52c⟩ := isOf hZ e0 E1
  obtain ⟨_, _, ⟨T52, L52, k52, n52⟩, -, X52, ⟨Lc52, hQ52, l52, y52, z52⟩, st52⟩ := X0.virtualBack hx (y := (⟨"java/time/LocalDate", "plusDays", "(J)Ljava/time/LocalDate;"⟩ : MethodName)) (z := (⟨"java/time/LocalDate", "plusDays", "(J)Ljava/time/LocalDate;"⟩ : MethodName)) hown (mvT hZ (hw _ (List.mem_of_getElem? (i := 115) rfl))) (mvT hZ (hw _ (List.mem_of_getElem? (i := 97) rfl))) (notFace_of_selects (args := #[]) (mvT hZ (hw _ (List.mem_of_getElem? (i := 99) rfl)))) (mvT hZ (hw _ (List.mem_of_getElem? (i := 99) rfl))) (mvT hZ (hw _ (List.mem_of_getElem? (i := 98) rfl))) (by decide) (backOf (W := 0) (own_pd4B l Z a0 hw [] o1 y d (-(2 : Int64)) D h0 n0 Z0 E1 FY FM FD (by decide) hD h1 h2) hZ (hw _ (List.mem_of_getElem? (i := 100) rfl)) (hw _ (List.mem_of_getElem? (i := 10) rfl)) (by decide) (by decide)) q52a q52c (g := (mkF m 25 #[.val (.ref o1), .val (.long (2 : Int64)), .second] [(.long (-(2 : Int64))), (.ref o1)])) rfl (by rw [hml]; rfl) (Steps.refl _) (argsL := [(.long (-(2 : Int64)))]) (rest := []) (lenOf own_pd9 rfl) rfl (by show 2 * 0 + _ ≤ _; exact Nat.le_of_eq rfl) (hb hby own_d17_25) (fun _ _ => ⟨rfl, e0, (by decide : 0 + 1 ≤ _), (by decide : 0 + 3 ≤ _)⟩)
  dsimp only [Pt.U, Pt.locs, Pt.cells, Pt.slots] at X52 l52 y52 z52 st52 hQ52
  subst l52 y52 z52
  obtain ⟨d52, r52, rfl, N52q, K52, Ex52_q, Fq52_0, Fq52_1, Fq52_2, hr52⟩ := hQ52
  have N52 := Fr.app N0 N52q
  have Z0_52 : n0 ≤ T52.heap.size := Nat.le_trans Z0 K52.1
  have Kc52 := (Keep.refl h0 []).trans K52 all0
  have F52_o1_year := FY.keep K52 nin0
  have F52_o1_month := FM.keep K52 nin0
  have F52_o1_day := FD.keep K52 nin0
  have Ex52_o1 := E1.keep K52
  refine own_st (V := T52.setTop (mkF m 28 #[.val (.ref o1), .val (.long (2 : Int64)), .second] [(.ref d52)])) (fun t k => st52.trans k) ?_
  exact own_ret X52 hx hlk Bd.returns rfl (Or.inr (Or.inr (Or.inr (Or.inr ⟨rfl, rfl, rfl⟩)))) (hb hby own_d17_28) (by decide) (by decide) (by show Q_own_md4B Z o1 y d D h0 n0 _ T52.heap _; exact ⟨_, _, rfl, N52, Kc52, Ex52_q, Fq52_0, Fq52_1, Fq52_2, hr52⟩)
theorem own_iadd {a b : Int32} {A B l1 u1 l2 u2 l u : Int} (ha : a.toInt = A ∧ l1 ≤ A ∧ A ≤ u1) (hb : b.toInt = B ∧ l2 ≤ B ∧ B ≤ u2) (c : l = l1 + l2 ∧ u = u1 + u2 ∧ -2147483648 ≤ l ∧ u ≤ 2147483647) : (a + b).toInt = A + B ∧ l ≤ A + B ∧ A + B ≤ u := by
  have q := c_iadd a b
  have r := rng32 (a + b)
  refine ⟨?_, ?_, ?_⟩ <;> omega
theorem own_isub {a b : Int32} {A B l1 u1 l2 u2 l u : Int} (ha : a.toInt = A ∧ l1 ≤ A ∧ A ≤ u1) (hb : b.toInt = B ∧ l2 ≤ B ∧ B ≤ u2) (c : l = l1 - u2 ∧ u = u1 - l2 ∧ -2147483648 ≤ l ∧ u ≤ 2147483647) : (a - b).toInt = A - B ∧ l ≤ A - B ∧ A - B ≤ u := by
  have q := c_isub a b
  have r := rng32 (a - b)
  refine ⟨?_, ?_, ?_⟩ <;> omega
theorem own_imulL {a b : Int32} {A l2 u2 K l u : Int} {B : Int} (ha : a.toInt = K) (hb : b.toInt = B ∧ l2 ≤ B ∧ B ≤ u2) (k0 : 0 ≤ K) (c : l = K * l2 ∧ u = K * u2 ∧ -2147483648 ≤ l ∧ u ≤ 2147483647) : (a * b).toInt = K * B ∧ l ≤ K * B ∧ K * B ≤ u := by
  have q := c_imul a b
  have r := rng32 (a * b)
  rw [ha, hb.1] at q
  have m1 : K * l2 ≤ K * B := Int.mul_le_mul_of_nonneg_left hb.2.1 k0
  have m2 : K * B ≤ K * u2 := Int.mul_le_mul_of_nonneg_left hb.2.2 k0
  generalize K * B = P at *
  generalize K * l2 = P1 at *
  generalize K * u2 = P2 at *
  refine ⟨?_, ?_, ?_⟩ <;> omega
theorem own_imulR {a b : Int32} {l1 u1 K l u : Int} {A : Int} (ha : a.toInt = A ∧ l1 ≤ A ∧ A ≤ u1) (hb : b.toInt = K) (k0 : 0 ≤ K) (c : l = l1 * K ∧ u = u1 * K ∧ -2147483648 ≤ l ∧ u ≤ 2147483647) : (a * b).toInt = A * K ∧ l ≤ A * K ∧ A * K ≤ u := by
  have q := c_imul a b
  have r := rng32 (a * b)
  rw [ha.1, hb] at q
  have m1 : l1 * K ≤ A * K := Int.mul_le_mul_of_nonneg_right ha.2.1 k0
  have m2 : A * K ≤ u1 * K := Int.mul_le_mul_of_nonneg_right ha.2.2 k0
  generalize A * K = P at *
  generalize l1 * K = P1 at *
  generalize u1 * K = P2 at *
  refine ⟨?_, ?_, ?_⟩ <;> omega
theorem own_idiv {a b : Int32} {A l1 u1 K l u : Int} (ha : a.toInt = A ∧ l1 ≤ A ∧ A ≤ u1) (hb : b.toInt = K) (c : 0 ≤ l1 ∧ 0 < K ∧ l = l1 / K ∧ u = u1 / K) : (a / b).toInt = A / K ∧ l ≤ A / K ∧ A / K ≤ u := by
  have q := (c_idiv a b K hb (fun e => by rw [e] at hb; have z : (-1 : Int32).toInt = -1 := (by decide); omega)).1 (by omega)
  refine ⟨by rw [q, ha.1], ?_, ?_⟩
  · rw [c.2.2.1]; exact Int.ediv_le_ediv c.2.1 ha.2.1
  · rw [c.2.2.2]; exact Int.ediv_le_ediv c.2.1 ha.2.2
theorem own_ladd {a b : Int64} {A B l1 u1 l2 u2 l u : Int} (ha : a.toInt = A ∧ l1 ≤ A ∧ A ≤ u1) (hb : b.toInt = B ∧ l2 ≤ B ∧ B ≤ u2) (c : l = l1 + l2 ∧ u = u1 + u2 ∧ -9223372036854775808 ≤ l ∧ u ≤ 9223372036854775807) : (a + b).toInt = A + B ∧ l ≤ A + B ∧ A + B ≤ u := by
  have q := c_ladd a b
  have r := rng64 (a + b)
  refine ⟨?_, ?_, ?_⟩ <;> omega
theorem own_lsub {a b : Int64} {A B l1 u1 l2 u2 l u : Int} (ha : a.toInt = A ∧ l1 ≤ A ∧ A ≤ u1) (hb : b.toInt = B ∧ l2 ≤ B ∧ B ≤ u2) (c : l = l1 - u2 ∧ u = u1 - l2 ∧ -9223372036854775808 ≤ l ∧ u ≤ 9223372036854775807) : (a - b).toInt = A - B ∧ l ≤ A - B ∧ A - B ≤ u := by
  have q := c_lsub a b
  have r := rng64 (a - b)
  refine ⟨?_, ?_, ?_⟩ <;> omega
theorem own_lmulL {a b : Int64} {A l2 u2 K l u : Int} {B : Int} (ha : a.toInt = K) (hb : b.toInt = B ∧ l2 ≤ B ∧ B ≤ u2) (k0 : 0 ≤ K) (c : l = K * l2 ∧ u = K * u2 ∧ -9223372036854775808 ≤ l ∧ u ≤ 9223372036854775807) : (a * b).toInt = K * B ∧ l ≤ K * B ∧ K * B ≤ u := by
  have q := c_lmul a b
  have r := rng64 (a * b)
  rw [ha, hb.1] at q
  have m1 : K * l2 ≤ K * B := Int.mul_le_mul_of_nonneg_left hb.2.1 k0
  have m2 : K * B ≤ K * u2 := Int.mul_le_mul_of_nonneg_left hb.2.2 k0
  generalize K * B = P at *
  generalize K * l2 = P1 at *
  generalize K * u2 = P2 at *
  refine ⟨?_, ?_, ?_⟩ <;> omega
theorem own_lmulR {a b : Int64} {l1 u1 K l u : Int} {A : Int} (ha : a.toInt = A ∧ l1 ≤ A ∧ A ≤ u1) (hb : b.toInt = K) (k0 : 0 ≤ K) (c : l = l1 * K ∧ u = u1 * K ∧ -9223372036854775808 ≤ l ∧ u ≤ 9223372036854775807) : (a * b).toInt = A * K ∧ l ≤ A * K ∧ A * K ≤ u := by
  have q := c_lmul a b
  have r := rng64 (a * b)
  rw [ha.1, hb] at q
  have m1 : l1 * K ≤ A * K := Int.mul_le_mul_of_nonneg_right ha.2.1 k0
  have m2 : A * K ≤ u1 * K := Int.mul_le_mul_of_nonneg_right ha.2.2 k0
  generalize A * K = P at *
  generalize l1 * K = P1 at *
  generalize u1 * K = P2 at *
  refine ⟨?_, ?_, ?_⟩ <;> omega
theorem own_ldiv {a b : Int64} {A l1 u1 K l u : Int} (ha : a.toInt = A ∧ l1 ≤ A ∧ A ≤ u1) (hb : b.toInt = K) (c : 0 ≤ l1 ∧ 0 < K ∧ l = l1 / K ∧ u = u1 / K) : (a / b).toInt = A / K ∧ l ≤ A / K ∧ A / K ≤ u := by
  have q := (c_ldiv a b K hb (fun e => by rw [e] at hb; have z : (-1 : Int64).toInt = -1 := (by decide); omega)).1 (by omega)
  refine ⟨by rw [q, ha.1], ?_, ?_⟩
  · rw [c.2.2.1]; exact Int.ediv_le_ediv c.2.1 ha.2.1
  · rw [c.2.2.2]; exact Int.ediv_le_ediv c.2.1 ha.2.2
theorem own_irem {a b : Int32} {A l1 u1 K u : Int} (ha : a.toInt = A ∧ l1 ≤ A ∧ A ≤ u1) (hb : b.toInt = K) (c : 0 ≤ l1 ∧ 0 < K ∧ u = K - 1) : (a % b).toInt = A % K ∧ 0 ≤ A % K ∧ A % K ≤ u := by
  have q := (c_irem a b K hb).1 (by omega)
  have z := Int.emod_nonneg A (show K ≠ 0 by omega)
  have w := Int.emod_lt_of_pos A c.2.1
  refine ⟨by rw [q, ha.1], z, by omega⟩
theorem own_i2l {a : Int32} {A l u : Int} (ha : a.toInt = A ∧ l ≤ A ∧ A ≤ u) : a.toInt64.toInt = A ∧ l ≤ A ∧ A ≤ u := ⟨by rw [c_i2l, ha.1], ha.2⟩
theorem own_l2i' {a : Int64} {A l u : Int} (ha : a.toInt = A ∧ l ≤ A ∧ A ≤ u) (c : -2147483648 ≤ l ∧ u ≤ 2147483647) : a.toInt32.toInt = A ∧ l ≤ A ∧ A ≤ u := by
  have q := c_l2i a
  have r := rng32 a.toInt32
  exact ⟨by omega, ha.2⟩
theorem own_d1_0 : decode prog_30_method_8_code 0 = .ok (.iload_n 0, 1) := by decide +kernel
theorem own_d1_1 : decode prog_30_method_8_code 1 = .ok (.bipush 19, 2) := by decide +kernel
theorem own_d1_3 : decode prog_30_method_8_code 3 = .ok (.irem, 1) := by decide +kernel
theorem own_d1_4 : decode prog_30_method_8_code 4 = .ok (.istore_n 1, 1) := by decide +kernel
theorem own_d1_5 : decode prog_30_method_8_code 5 = .ok (.iload_n 0, 1) := by decide +kernel
theorem own_d1_6 : decode prog_30_method_8_code 6 = .ok (.bipush 100, 2) := by decide +kernel
theorem own_d1_8 : decode prog_30_method_8_code 8 = .ok (.idiv, 1) := by decide +kernel
theorem own_d1_9 : decode prog_30_method_8_code 9 = .ok (.istore_n 2, 1) := by decide +kernel
theorem own_d1_10 : decode prog_30_method_8_code 10 = .ok (.iload_n 0, 1) := by decide +kernel
theorem own_d1_11 : decode prog_30_method_8_code 11 = .ok (.bipush 100, 2) := by decide +kernel
theorem own_d1_13 : decode prog_30_method_8_code 13 = .ok (.irem, 1) := by decide +kernel
theorem own_d1_14 : decode prog_30_method_8_code 14 = .ok (.istore_n 3, 1) := by decide +kernel
theorem own_d1_15 : decode prog_30_method_8_code 15 = .ok (.bipush 19, 2) := by decide +kernel
theorem own_d1_17 : decode prog_30_method_8_code 17 = .ok (.iload_n 1, 1) := by decide +kernel
theorem own_d1_18 : decode prog_30_method_8_code 18 = .ok (.imul, 1) := by decide +kernel
theorem own_d1_19 : decode prog_30_method_8_code 19 = .ok (.iload_n 2, 1) := by decide +kernel
theorem own_d1_20 : decode prog_30_method_8_code 20 = .ok (.iadd, 1) := by decide +kernel
theorem own_d1_21 : decode prog_30_method_8_code 21 = .ok (.iload_n 2, 1) := by decide +kernel
theorem own_d1_22 : decode prog_30_method_8_code 22 = .ok (.iconst 4, 1) := by decide +kernel
theorem own_d1_23 : decode prog_30_method_8_code 23 = .ok (.idiv, 1) := by decide +kernel
theorem own_d1_24 : decode prog_30_method_8_code 24 = .ok (.isub, 1) := by decide +kernel
theorem own_d1_25 : decode prog_30_method_8_code 25 = .ok (.iload_n 2, 1) := by decide +kernel
theorem own_d1_26 : decode prog_30_method_8_code 26 = .ok (.iload_n 2, 1) := by decide +kernel
theorem own_d1_27 : decode prog_30_method_8_code 27 = .ok (.bipush 8, 2) := by decide +kernel
theorem own_d1_29 : decode prog_30_method_8_code 29 = .ok (.iadd, 1) := by decide +kernel
theorem own_d1_30 : decode prog_30_method_8_code 30 = .ok (.bipush 25, 2) := by decide +kernel
theorem own_d1_32 : decode prog_30_method_8_code 32 = .ok (.idiv, 1) := by decide +kernel
theorem own_d1_33 : decode prog_30_method_8_code 33 = .ok (.isub, 1) := by decide +kernel
theorem own_d1_34 : decode prog_30_method_8_code 34 = .ok (.iconst 1, 1) := by decide +kernel
theorem own_d1_35 : decode prog_30_method_8_code 35 = .ok (.iadd, 1) := by decide +kernel
theorem own_d1_36 : decode prog_30_method_8_code 36 = .ok (.iconst 3, 1) := by decide +kernel
theorem own_d1_37 : decode prog_30_method_8_code 37 = .ok (.idiv, 1) := by decide +kernel
theorem own_d1_38 : decode prog_30_method_8_code 38 = .ok (.isub, 1) := by decide +kernel
theorem own_d1_39 : decode prog_30_method_8_code 39 = .ok (.bipush 15, 2) := by decide +kernel
theorem own_d1_41 : decode prog_30_method_8_code 41 = .ok (.iadd, 1) := by decide +kernel
theorem own_d1_42 : decode prog_30_method_8_code 42 = .ok (.bipush 30, 2) := by decide +kernel
theorem own_d1_44 : decode prog_30_method_8_code 44 = .ok (.irem, 1) := by decide +kernel
theorem own_d1_45 : decode prog_30_method_8_code 45 = .ok (.istore 4, 2) := by decide +kernel
theorem own_d1_47 : decode prog_30_method_8_code 47 = .ok (.bipush 32, 2) := by decide +kernel
theorem own_d1_49 : decode prog_30_method_8_code 49 = .ok (.iconst 2, 1) := by decide +kernel
theorem own_d1_50 : decode prog_30_method_8_code 50 = .ok (.iload_n 2, 1) := by decide +kernel
theorem own_d1_51 : decode prog_30_method_8_code 51 = .ok (.iconst 4, 1) := by decide +kernel
theorem own_d1_52 : decode prog_30_method_8_code 52 = .ok (.irem, 1) := by decide +kernel
theorem own_d1_53 : decode prog_30_method_8_code 53 = .ok (.imul, 1) := by decide +kernel
theorem own_d1_54 : decode prog_30_method_8_code 54 = .ok (.iadd, 1) := by decide +kernel
theorem own_d1_55 : decode prog_30_method_8_code 55 = .ok (.iconst 2, 1) := by decide +kernel
theorem own_d1_56 : decode prog_30_method_8_code 56 = .ok (.iload_n 3, 1) := by decide +kernel
theorem own_d1_57 : decode prog_30_method_8_code 57 = .ok (.iconst 4, 1) := by decide +kernel
theorem own_d1_58 : decode prog_30_method_8_code 58 = .ok (.idiv, 1) := by decide +kernel
theorem own_d1_59 : decode prog_30_method_8_code 59 = .ok (.imul, 1) := by decide +kernel
theorem own_d1_60 : decode prog_30_method_8_code 60 = .ok (.iadd, 1) := by decide +kernel
theorem own_d1_61 : decode prog_30_method_8_code 61 = .ok (.iload 4, 2) := by decide +kernel
theorem own_d1_63 : decode prog_30_method_8_code 63 = .ok (.isub, 1) := by decide +kernel
theorem own_d1_64 : decode prog_30_method_8_code 64 = .ok (.iload_n 3, 1) := by decide +kernel
theorem own_d1_65 : decode prog_30_method_8_code 65 = .ok (.iconst 4, 1) := by decide +kernel
theorem own_d1_66 : decode prog_30_method_8_code 66 = .ok (.irem, 1) := by decide +kernel
theorem own_d1_67 : decode prog_30_method_8_code 67 = .ok (.isub, 1) := by decide +kernel
theorem own_d1_68 : decode prog_30_method_8_code 68 = .ok (.bipush 7, 2) := by decide +kernel
theorem own_d1_70 : decode prog_30_method_8_code 70 = .ok (.irem, 1) := by decide +kernel
theorem own_d1_71 : decode prog_30_method_8_code 71 = .ok (.istore 5, 2) := by decide +kernel
theorem own_d1_73 : decode prog_30_method_8_code 73 = .ok (.iload_n 1, 1) := by decide +kernel
theorem own_d1_74 : decode prog_30_method_8_code 74 = .ok (.bipush 11, 2) := by decide +kernel
theorem own_d1_76 : decode prog_30_method_8_code 76 = .ok (.iload 4, 2) := by decide +kernel
theorem own_d1_78 : decode prog_30_method_8_code 78 = .ok (.imul, 1) := by decide +kernel
theorem own_d1_79 : decode prog_30_method_8_code 79 = .ok (.iadd, 1) := by decide +kernel
theorem own_d1_80 : decode prog_30_method_8_code 80 = .ok (.bipush 22, 2) := by decide +kernel
theorem own_d1_82 : decode prog_30_method_8_code 82 = .ok (.iload 5, 2) := by decide +kernel
theorem own_d1_84 : decode prog_30_method_8_code 84 = .ok (.imul, 1) := by decide +kernel
theorem own_d1_85 : decode prog_30_method_8_code 85 = .ok (.iadd, 1) := by decide +kernel
theorem own_d1_86 : decode prog_30_method_8_code 86 = .ok (.sipush 451, 3) := by decide +kernel
theorem own_d1_89 : decode prog_30_method_8_code 89 = .ok (.idiv, 1) := by decide +kernel
theorem own_d1_90 : decode prog_30_method_8_code 90 = .ok (.istore 6, 2) := by decide +kernel
theorem own_d1_92 : decode prog_30_method_8_code 92 = .ok (.iload 4, 2) := by decide +kernel
theorem own_d1_94 : decode prog_30_method_8_code 94 = .ok (.iload 5, 2) := by decide +kernel
theorem own_d1_96 : decode prog_30_method_8_code 96 = .ok (.iadd, 1) := by decide +kernel
theorem own_d1_97 : decode prog_30_method_8_code 97 = .ok (.bipush 7, 2) := by decide +kernel
theorem own_d1_99 : decode prog_30_method_8_code 99 = .ok (.iload 6, 2) := by decide +kernel
theorem own_d1_101 : decode prog_30_method_8_code 101 = .ok (.imul, 1) := by decide +kernel
theorem own_d1_102 : decode prog_30_method_8_code 102 = .ok (.isub, 1) := by decide +kernel
theorem own_d1_103 : decode prog_30_method_8_code 103 = .ok (.istore 7, 2) := by decide +kernel
def own_ih (y : Int) : Int := (19 * (y % 19) + y / 100 - y / 100 / 4 - (y / 100 - (y / 100 + 8) / 25 + 1) / 3 + 15) % 30
def own_il (y : Int) : Int := (32 + 2 * (y / 100 % 4) + 2 * (y % 100 / 4) - own_ih y - y % 100 % 4) % 7
def own_im (y : Int) : Int := (y % 19 + 11 * own_ih y + 22 * own_il y) / 451
theorem own_sh_gf_t1 (y : Int) (hy0 : 1583 ≤ y) (hy1 : y ≤ 999999999) : (0 : Int) ≤ (((y / (100 : Int)) - (((y / (100 : Int)) + (8 : Int)) / (25 : Int))) + (1 : Int)) ∧ (((y / (100 : Int)) - (((y / (100 : Int)) + (8 : Int)) / (25 : Int))) + (1 : Int)) ≤ (19999999 : Int) := by omega
theorem own_sh_gf_t2 (y : Int) (hy0 : 1583 ≤ y) (hy1 : y ≤ 999999999) : (0 : Int) ≤ ((((((19 : Int) * (y % (19 : Int))) + (y / (100 : Int))) - ((y / (100 : Int)) / (4 : Int))) - ((((y / (100 : Int)) - (((y / (100 : Int)) + (8 : Int)) / (25 : Int))) + (1 : Int)) / (3 : Int))) + (15 : Int)) ∧ ((((((19 : Int) * (y % (19 : Int))) + (y / (100 : Int))) - ((y / (100 : Int)) / (4 : Int))) - ((((y / (100 : Int)) - (((y / (100 : Int)) + (8 : Int)) / (25 : Int))) + (1 : Int)) / (3 : Int))) + (15 : Int)) ≤ (19999999 : Int) := by omega
set_option maxRecDepth 65536 in
set_option maxHeartbeats 40000000 in
theorem own_sh_gf (y : Int32) (hy0 : 1583 ≤ y.toInt) (hy1 : y.toInt ≤ 999999999) : ((((((((((19 : Int32) * (y % (19 : Int32))) + (y / (100 : Int32))) - ((y / (100 : Int32)) / (4 : Int32))) - ((((y / (100 : Int32)) - (((y / (100 : Int32)) + (8 : Int32)) / (25 : Int32))) + (1 : Int32)) / (3 : Int32))) + (15 : Int32)) % (30 : Int32)) + ((((((32 : Int32) + ((2 : Int32) * ((y / (100 : Int32)) % (4 : Int32)))) + ((2 : Int32) * ((y % (100 : Int32)) / (4 : Int32)))) - (((((((19 : Int32) * (y % (19 : Int32))) + (y / (100 : Int32))) - ((y / (100 : Int32)) / (4 : Int32))) - ((((y / (100 : Int32)) - (((y / (100 : Int32)) + (8 : Int32)) / (25 : Int32))) + (1 : Int32)) / (3 : Int32))) + (15 : Int32)) % (30 : Int32))) - ((y % (100 : Int32)) % (4 : Int32))) % (7 : Int32))) - ((7 : Int32) * ((((y % (19 : Int32)) + ((11 : Int32) * (((((((19 : Int32) * (y % (19 : Int32))) + (y / (100 : Int32))) - ((y / (100 : Int32)) / (4 : Int32))) - ((((y / (100 : Int32)) - (((y / (100 : Int32)) + (8 : Int32)) / (25 : Int32))) + (1 : Int32)) / (3 : Int32))) + (15 : Int32)) % (30 : Int32)))) + ((22 : Int32) * ((((((32 : Int32) + ((2 : Int32) * ((y / (100 : Int32)) % (4 : Int32)))) + ((2 : Int32) * ((y % (100 : Int32)) / (4 : Int32)))) - (((((((19 : Int32) * (y % (19 : Int32))) + (y / (100 : Int32))) - ((y / (100 : Int32)) / (4 : Int32))) - ((((y / (100 : Int32)) - (((y / (100 : Int32)) + (8 : Int32)) / (25 : Int32))) + (1 : Int32)) / (3 : Int32))) + (15 : Int32)) % (30 : Int32))) - ((y % (100 : Int32)) % (4 : Int32))) % (7 : Int32)))) / (451 : Int32))))).toInt = own_ih y.toInt + own_il y.toInt - 7 * own_im y.toInt := by
  have h0 : ((19 : Int32)).toInt = (19 : Int) ∧ (19 : Int) ≤ (19 : Int) ∧ (19 : Int) ≤ (19 : Int) := by decide
  have h1 : (y).toInt = y.toInt ∧ (1583 : Int) ≤ y.toInt ∧ y.toInt ≤ (999999999 : Int) := ⟨rfl, hy0, hy1⟩
  have h2 : ((y % (19 : Int32))).toInt = (y.toInt % (19 : Int)) ∧ (0 : Int) ≤ (y.toInt % (19 : Int)) ∧ (y.toInt % (19 : Int)) ≤ (18 : Int) := own_irem h1 h0.1 (by decide)
  have h3 : (((19 : Int32) * (y % (19 : Int32)))).toInt = ((19 : Int) * (y.toInt % (19 : Int))) ∧ (0 : Int) ≤ ((19 : Int) * (y.toInt % (19 : Int))) ∧ ((19 : Int) * (y.toInt % (19 : Int))) ≤ (342 : Int) := own_imulL (A := 0) h0.1 h2 (by decide) (by decide)
  have h4 : ((100 : Int32)).toInt = (100 : Int) ∧ (100 : Int) ≤ (100 : Int) ∧ (100 : Int) ≤ (100 : Int) := by decide
  have h5 : ((y / (100 : Int32))).toInt = (y.toInt / (100 : Int)) ∧ (15 : Int) ≤ (y.toInt / (100 : Int)) ∧ (y.toInt / (100 : Int)) ≤ (9999999 : Int) := own_idiv h1 h4.1 (by decide)
  have h6 : ((((19 : Int32) * (y % (19 : Int32))) + (y / (100 : Int32)))).toInt = (((19 : Int) * (y.toInt % (19 : Int))) + (y.toInt / (100 : Int))) ∧ (15 : Int) ≤ (((19 : Int) * (y.toInt % (19 : Int))) + (y.toInt / (100 : Int))) ∧ (((19 : Int) * (y.toInt % (19 : Int))) + (y.toInt / (100 : Int))) ≤ (10000341 : Int) := own_iadd h3 h5 (by decide)
  have h7 : ((4 : Int32)).toInt = (4 : Int) ∧ (4 : Int) ≤ (4 : Int) ∧ (4 : Int) ≤ (4 : Int) := by decide
  have h8 : (((y / (100 : Int32)) / (4 : Int32))).toInt = ((y.toInt / (100 : Int)) / (4 : Int)) ∧ (3 : Int) ≤ ((y.toInt / (100 : Int)) / (4 : Int)) ∧ ((y.toInt / (100 : Int)) / (4 : Int)) ≤ (2499999 : Int) := own_idiv h5 h7.1 (by decide)
  have h9 : (((((19 : Int32) * (y % (19 : Int32))) + (y / (100 : Int32))) - ((y / (100 : Int32)) / (4 : Int32)))).toInt = ((((19 : Int) * (y.toInt % (19 : Int))) + (y.toInt / (100 : Int))) - ((y.toInt / (100 : Int)) / (4 : Int))) ∧ (-2499984 : Int) ≤ ((((19 : Int) * (y.toInt % (19 : Int))) + (y.toInt / (100 : Int))) - ((y.toInt / (100 : Int)) / (4 : Int))) ∧ ((((19 : Int) * (y.toInt % (19 : Int))) + (y.toInt / (100 : Int))) - ((y.toInt / (100 : Int)) / (4 : Int))) ≤ (10000338 : Int) := own_isub h6 h8 (by decide)
  have h10 : ((8 : Int32)).toInt = (8 : Int) ∧ (8 : Int) ≤ (8 : Int) ∧ (8 : Int) ≤ (8 : Int) := by decide
  have h11 : (((y / (100 : Int32)) + (8 : Int32))).toInt = ((y.toInt / (100 : Int)) + (8 : Int)) ∧ (23 : Int) ≤ ((y.toInt / (100 : Int)) + (8 : Int)) ∧ ((y.toInt / (100 : Int)) + (8 : Int)) ≤ (10000007 : Int) := own_iadd h5 h10 (by decide)
  have h12 : ((25 : Int32)).toInt = (25 : Int) ∧ (25 : Int) ≤ (25 : Int) ∧ (25 : Int) ≤ (25 : Int) := by decide
  have h13 : ((((y / (100 : Int32)) + (8 : Int32)) / (25 : Int32))).toInt = (((y.toInt / (100 : Int)) + (8 : Int)) / (25 : Int)) ∧ (0 : Int) ≤ (((y.toInt / (100 : Int)) + (8 : Int)) / (25 : Int)) ∧ (((y.toInt / (100 : Int)) + (8 : Int)) / (25 : Int)) ≤ (400000 : Int) := own_idiv h11 h12.1 (by decide)
  have h14 : (((y / (100 : Int32)) - (((y / (100 : Int32)) + (8 : Int32)) / (25 : Int32)))).toInt = ((y.toInt / (100 : Int)) - (((y.toInt / (100 : Int)) + (8 : Int)) / (25 : Int))) ∧ (-399985 : Int) ≤ ((y.toInt / (100 : Int)) - (((y.toInt / (100 : Int)) + (8 : Int)) / (25 : Int))) ∧ ((y.toInt / (100 : Int)) - (((y.toInt / (100 : Int)) + (8 : Int)) / (25 : Int))) ≤ (9999999 : Int) := own_isub h5 h13 (by decide)
  have h15 : ((1 : Int32)).toInt = (1 : Int) ∧ (1 : Int) ≤ (1 : Int) ∧ (1 : Int) ≤ (1 : Int) := by decide
  have h16 : ((((y / (100 : Int32)) - (((y / (100 : Int32)) + (8 : Int32)) / (25 : Int32))) + (1 : Int32))).toInt = (((y.toInt / (100 : Int)) - (((y.toInt / (100 : Int)) + (8 : Int)) / (25 : Int))) + (1 : Int)) ∧ (-399984 : Int) ≤ (((y.toInt / (100 : Int)) - (((y.toInt / (100 : Int)) + (8 : Int)) / (25 : Int))) + (1 : Int)) ∧ (((y.toInt / (100 : Int)) - (((y.toInt / (100 : Int)) + (8 : Int)) / (25 : Int))) + (1 : Int)) ≤ (10000000 : Int) := own_iadd h14 h15 (by decide)
  have h16 : ((((y / (100 : Int32)) - (((y / (100 : Int32)) + (8 : Int32)) / (25 : Int32))) + (1 : Int32))).toInt = (((y.toInt / (100 : Int)) - (((y.toInt / (100 : Int)) + (8 : Int)) / (25 : Int))) + (1 : Int)) ∧ (0 : Int) ≤ (((y.toInt / (100 : Int)) - (((y.toInt / (100 : Int)) + (8 : Int)) / (25 : Int))) + (1 : Int)) ∧ (((y.toInt / (100 : Int)) - (((y.toInt / (100 : Int)) + (8 : Int)) / (25 : Int))) + (1 : Int)) ≤ (19999999 : Int) := ⟨h16.1, own_sh_gf_t1 y.toInt hy0 hy1⟩
  have h17 : ((3 : Int32)).toInt = (3 : Int) ∧ (3 : Int) ≤ (3 : Int) ∧ (3 : Int) ≤ (3 : Int) := by decide
  have h18 : (((((y / (100 : Int32)) - (((y / (100 : Int32)) + (8 : Int32)) / (25 : Int32))) + (1 : Int32)) / (3 : Int32))).toInt = ((((y.toInt / (100 : Int)) - (((y.toInt / (100 : Int)) + (8 : Int)) / (25 : Int))) + (1 : Int)) / (3 : Int)) ∧ (0 : Int) ≤ ((((y.toInt / (100 : Int)) - (((y.toInt / (100 : Int)) + (8 : Int)) / (25 : Int))) + (1 : Int)) / (3 : Int)) ∧ ((((y.toInt / (100 : Int)) - (((y.toInt / (100 : Int)) + (8 : Int)) / (25 : Int))) + (1 : Int)) / (3 : Int)) ≤ (6666666 : Int) := own_idiv h16 h17.1 (by decide)
  have h19 : ((((((19 : Int32) * (y % (19 : Int32))) + (y / (100 : Int32))) - ((y / (100 : Int32)) / (4 : Int32))) - ((((y / (100 : Int32)) - (((y / (100 : Int32)) + (8 : Int32)) / (25 : Int32))) + (1 : Int32)) / (3 : Int32)))).toInt = (((((19 : Int) * (y.toInt % (19 : Int))) + (y.toInt / (100 : Int))) - ((y.toInt / (100 : Int)) / (4 : Int))) - ((((y.toInt / (100 : Int)) - (((y.toInt / (100 : Int)) + (8 : Int)) / (25 : Int))) + (1 : Int)) / (3 : Int))) ∧ (-9166650 : Int) ≤ (((((19 : Int) * (y.toInt % (19 : Int))) + (y.toInt / (100 : Int))) - ((y.toInt / (100 : Int)) / (4 : Int))) - ((((y.toInt / (100 : Int)) - (((y.toInt / (100 : Int)) + (8 : Int)) / (25 : Int))) + (1 : Int)) / (3 : Int))) ∧ (((((19 : Int) * (y.toInt % (19 : Int))) + (y.toInt / (100 : Int))) - ((y.toInt / (100 : Int)) / (4 : Int))) - ((((y.toInt / (100 : Int)) - (((y.toInt / (100 : Int)) + (8 : Int)) / (25 : Int))) + (1 : Int)) / (3 : Int))) ≤ (10000338 : Int) := own_isub h9 h18 (by decide)
  have h20 : ((15 : Int32)).toInt = (15 : Int) ∧ (15 : Int) ≤ (15 : Int) ∧ (15 : Int) ≤ (15 : Int) := by decide
  have h21 : (((((((19 : Int32) * (y % (19 : Int32))) + (y / (100 : Int32))) - ((y / (100 : Int32)) / (4 : Int32))) - ((((y / (100 : Int32)) - (((y / (100 : Int32)) + (8 : Int32)) / (25 : Int32))) + (1 : Int32)) / (3 : Int32))) + (15 : Int32))).toInt = ((((((19 : Int) * (y.toInt % (19 : Int))) + (y.toInt / (100 : Int))) - ((y.toInt / (100 : Int)) / (4 : Int))) - ((((y.toInt / (100 : Int)) - (((y.toInt / (100 : Int)) + (8 : Int)) / (25 : Int))) + (1 : Int)) / (3 : Int))) + (15 : Int)) ∧ (-9166635 : Int) ≤ ((((((19 : Int) * (y.toInt % (19 : Int))) + (y.toInt / (100 : Int))) - ((y.toInt / (100 : Int)) / (4 : Int))) - ((((y.toInt / (100 : Int)) - (((y.toInt / (100 : Int)) + (8 : Int)) / (25 : Int))) + (1 : Int)) / (3 : Int))) + (15 : Int)) ∧ ((((((19 : Int) * (y.toInt % (19 : Int))) + (y.toInt / (100 : Int))) - ((y.toInt / (100 : Int)) / (4 : Int))) - ((((y.toInt / (100 : Int)) - (((y.toInt / (100 : Int)) + (8 : Int)) / (25 : Int))) + (1 : Int)) / (3 : Int))) + (15 : Int)) ≤ (10000353 : Int) := own_iadd h19 h20 (by decide)
  have h21 : (((((((19 : Int32) * (y % (19 : Int32))) + (y / (100 : Int32))) - ((y / (100 : Int32)) / (4 : Int32))) - ((((y / (100 : Int32)) - (((y / (100 : Int32)) + (8 : Int32)) / (25 : Int32))) + (1 : Int32)) / (3 : Int32))) + (15 : Int32))).toInt = ((((((19 : Int) * (y.toInt % (19 : Int))) + (y.toInt / (100 : Int))) - ((y.toInt / (100 : Int)) / (4 : Int))) - ((((y.toInt / (100 : Int)) - (((y.toInt / (100 : Int)) + (8 : Int)) / (25 : Int))) + (1 : Int)) / (3 : Int))) + (15 : Int)) ∧ (0 : Int) ≤ ((((((19 : Int) * (y.toInt % (19 : Int))) + (y.toInt / (100 : Int))) - ((y.toInt / (100 : Int)) / (4 : Int))) - ((((y.toInt / (100 : Int)) - (((y.toInt / (100 : Int)) + (8 : Int)) / (25 : Int))) + (1 : Int)) / (3 : Int))) + (15 : Int)) ∧ ((((((19 : Int) * (y.toInt % (19 : Int))) + (y.toInt / (100 : Int))) - ((y.toInt / (100 : Int)) / (4 : Int))) - ((((y.toInt / (100 : Int)) - (((y.toInt / (100 : Int)) + (8 : Int)) / (25 : Int))) + (1 : Int)) / (3 : Int))) + (15 : Int)) ≤ (19999999 : Int) := ⟨h21.1, own_sh_gf_t2 y.toInt hy0 hy1⟩
  have h22 : ((30 : Int32)).toInt = (30 : Int) ∧ (30 : Int) ≤ (30 : Int) ∧ (30 : Int) ≤ (30 : Int) := by decide
  have h23 : ((((((((19 : Int32) * (y % (19 : Int32))) + (y / (100 : Int32))) - ((y / (100 : Int32)) / (4 : Int32))) - ((((y / (100 : Int32)) - (((y / (100 : Int32)) + (8 : Int32)) / (25 : Int32))) + (1 : Int32)) / (3 : Int32))) + (15 : Int32)) % (30 : Int32))).toInt = (((((((19 : Int) * (y.toInt % (19 : Int))) + (y.toInt / (100 : Int))) - ((y.toInt / (100 : Int)) / (4 : Int))) - ((((y.toInt / (100 : Int)) - (((y.toInt / (100 : Int)) + (8 : Int)) / (25 : Int))) + (1 : Int)) / (3 : Int))) + (15 : Int)) % (30 : Int)) ∧ (0 : Int) ≤ (((((((19 : Int) * (y.toInt % (19 : Int))) + (y.toInt / (100 : Int))) - ((y.toInt / (100 : Int)) / (4 : Int))) - ((((y.toInt / (100 : Int)) - (((y.toInt / (100 : Int)) + (8 : Int)) / (25 : Int))) + (1 : Int)) / (3 : Int))) + (15 : Int)) % (30 : Int)) ∧ (((((((19 : Int) * (y.toInt % (19 : Int))) + (y.toInt / (100 : Int))) - ((y.toInt / (100 : Int)) / (4 : Int))) - ((((y.toInt / (100 : Int)) - (((y.toInt / (100 : Int)) + (8 : Int)) / (25 : Int))) + (1 : Int)) / (3 : Int))) + (15 : Int)) % (30 : Int)) ≤ (29 : Int) := own_irem h21 h22.1 (by decide)
  have h24 : ((32 : Int32)).toInt = (32 : Int) ∧ (32 : Int) ≤ (32 : Int) ∧ (32 : Int) ≤ (32 : Int) := by decide
  have h25 : ((2 : Int32)).toInt = (2 : Int) ∧ (2 : Int) ≤ (2 : Int) ∧ (2 : Int) ≤ (2 : Int) := by decide
  have h26 : (((y / (100 : Int32)) % (4 : Int32))).toInt = ((y.toInt / (100 : Int)) % (4 : Int)) ∧ (0 : Int) ≤ ((y.toInt / (100 : Int)) % (4 : Int)) ∧ ((y.toInt / (100 : Int)) % (4 : Int)) ≤ (3 : Int) := own_irem h5 h7.1 (by decide)
  have h27 : (((2 : Int32) * ((y / (100 : Int32)) % (4 : Int32)))).toInt = ((2 : Int) * ((y.toInt / (100 : Int)) % (4 : Int))) ∧ (0 : Int) ≤ ((2 : Int) * ((y.toInt / (100 : Int)) % (4 : Int))) ∧ ((2 : Int) * ((y.toInt / (100 : Int)) % (4 : Int))) ≤ (6 : Int) := own_imulL (A := 0) h25.1 h26 (by decide) (by decide)
  have h28 : (((32 : Int32) + ((2 : Int32) * ((y / (100 : Int32)) % (4 : Int32))))).toInt = ((32 : Int) + ((2 : Int) * ((y.toInt / (100 : Int)) % (4 : Int)))) ∧ (32 : Int) ≤ ((32 : Int) + ((2 : Int) * ((y.toInt / (100 : Int)) % (4 : Int)))) ∧ ((32 : Int) + ((2 : Int) * ((y.toInt / (100 : Int)) % (4 : Int)))) ≤ (38 : Int) := own_iadd h24 h27 (by decide)
  have h29 : ((y % (100 : Int32))).toInt = (y.toInt % (100 : Int)) ∧ (0 : Int) ≤ (y.toInt % (100 : Int)) ∧ (y.toInt % (100 : Int)) ≤ (99 : Int) := own_irem h1 h4.1 (by decide)
  have h30 : (((y % (100 : Int32)) / (4 : Int32))).toInt = ((y.toInt % (100 : Int)) / (4 : Int)) ∧ (0 : Int) ≤ ((y.toInt % (100 : Int)) / (4 : Int)) ∧ ((y.toInt % (100 : Int)) / (4 : Int)) ≤ (24 : Int) := own_idiv h29 h7.1 (by decide)
  have h31 : (((2 : Int32) * ((y % (100 : Int32)) / (4 : Int32)))).toInt = ((2 : Int) * ((y.toInt % (100 : Int)) / (4 : Int))) ∧ (0 : Int) ≤ ((2 : Int) * ((y.toInt % (100 : Int)) / (4 : Int))) ∧ ((2 : Int) * ((y.toInt % (100 : Int)) / (4 : Int))) ≤ (48 : Int) := own_imulL (A := 0) h25.1 h30 (by decide) (by decide)
  have h32 : ((((32 : Int32) + ((2 : Int32) * ((y / (100 : Int32)) % (4 : Int32)))) + ((2 : Int32) * ((y % (100 : Int32)) / (4 : Int32))))).toInt = (((32 : Int) + ((2 : Int) * ((y.toInt / (100 : Int)) % (4 : Int)))) + ((2 : Int) * ((y.toInt % (100 : Int)) / (4 : Int)))) ∧ (32 : Int) ≤ (((32 : Int) + ((2 : Int) * ((y.toInt / (100 : Int)) % (4 : Int)))) + ((2 : Int) * ((y.toInt % (100 : Int)) / (4 : Int)))) ∧ (((32 : Int) + ((2 : Int) * ((y.toInt / (100 : Int)) % (4 : Int)))) + ((2 : Int) * ((y.toInt % (100 : Int)) / (4 : Int)))) ≤ (86 : Int) := own_iadd h28 h31 (by decide)
  have h33 : (((((32 : Int32) + ((2 : Int32) * ((y / (100 : Int32)) % (4 : Int32)))) + ((2 : Int32) * ((y % (100 : Int32)) / (4 : Int32)))) - (((((((19 : Int32) * (y % (19 : Int32))) + (y / (100 : Int32))) - ((y / (100 : Int32)) / (4 : Int32))) - ((((y / (100 : Int32)) - (((y / (100 : Int32)) + (8 : Int32)) / (25 : Int32))) + (1 : Int32)) / (3 : Int32))) + (15 : Int32)) % (30 : Int32)))).toInt = ((((32 : Int) + ((2 : Int) * ((y.toInt / (100 : Int)) % (4 : Int)))) + ((2 : Int) * ((y.toInt % (100 : Int)) / (4 : Int)))) - (((((((19 : Int) * (y.toInt % (19 : Int))) + (y.toInt / (100 : Int))) - ((y.toInt / (100 : Int)) / (4 : Int))) - ((((y.toInt / (100 : Int)) - (((y.toInt / (100 : Int)) + (8 : Int)) / (25 : Int))) + (1 : Int)) / (3 : Int))) + (15 : Int)) % (30 : Int))) ∧ (3 : Int) ≤ ((((32 : Int) + ((2 : Int) * ((y.toInt / (100 : Int)) % (4 : Int)))) + ((2 : Int) * ((y.toInt % (100 : Int)) / (4 : Int)))) - (((((((19 : Int) * (y.toInt % (19 : Int))) + (y.toInt / (100 : Int))) - ((y.toInt / (100 : Int)) / (4 : Int))) - ((((y.toInt / (100 : Int)) - (((y.toInt / (100 : Int)) + (8 : Int)) / (25 : Int))) + (1 : Int)) / (3 : Int))) + (15 : Int)) % (30 : Int))) ∧ ((((32 : Int) + ((2 : Int) * ((y.toInt / (100 : Int)) % (4 : Int)))) + ((2 : Int) * ((y.toInt % (100 : Int)) / (4 : Int)))) - (((((((19 : Int) * (y.toInt % (19 : Int))) + (y.toInt / (100 : Int))) - ((y.toInt / (100 : Int)) / (4 : Int))) - ((((y.toInt / (100 : Int)) - (((y.toInt / (100 : Int)) + (8 : Int)) / (25 : Int))) + (1 : Int)) / (3 : Int))) + (15 : Int)) % (30 : Int))) ≤ (86 : Int) := own_isub h32 h23 (by decide)
  have h34 : (((y % (100 : Int32)) % (4 : Int32))).toInt = ((y.toInt % (100 : Int)) % (4 : Int)) ∧ (0 : Int) ≤ ((y.toInt % (100 : Int)) % (4 : Int)) ∧ ((y.toInt % (100 : Int)) % (4 : Int)) ≤ (3 : Int) := own_irem h29 h7.1 (by decide)
  have h35 : ((((((32 : Int32) + ((2 : Int32) * ((y / (100 : Int32)) % (4 : Int32)))) + ((2 : Int32) * ((y % (100 : Int32)) / (4 : Int32)))) - (((((((19 : Int32) * (y % (19 : Int32))) + (y / (100 : Int32))) - ((y / (100 : Int32)) / (4 : Int32))) - ((((y / (100 : Int32)) - (((y / (100 : Int32)) + (8 : Int32)) / (25 : Int32))) + (1 : Int32)) / (3 : Int32))) + (15 : Int32)) % (30 : Int32))) - ((y % (100 : Int32)) % (4 : Int32)))).toInt = (((((32 : Int) + ((2 : Int) * ((y.toInt / (100 : Int)) % (4 : Int)))) + ((2 : Int) * ((y.toInt % (100 : Int)) / (4 : Int)))) - (((((((19 : Int) * (y.toInt % (19 : Int))) + (y.toInt / (100 : Int))) - ((y.toInt / (100 : Int)) / (4 : Int))) - ((((y.toInt / (100 : Int)) - (((y.toInt / (100 : Int)) + (8 : Int)) / (25 : Int))) + (1 : Int)) / (3 : Int))) + (15 : Int)) % (30 : Int))) - ((y.toInt % (100 : Int)) % (4 : Int))) ∧ (0 : Int) ≤ (((((32 : Int) + ((2 : Int) * ((y.toInt / (100 : Int)) % (4 : Int)))) + ((2 : Int) * ((y.toInt % (100 : Int)) / (4 : Int)))) - (((((((19 : Int) * (y.toInt % (19 : Int))) + (y.toInt / (100 : Int))) - ((y.toInt / (100 : Int)) / (4 : Int))) - ((((y.toInt / (100 : Int)) - (((y.toInt / (100 : Int)) + (8 : Int)) / (25 : Int))) + (1 : Int)) / (3 : Int))) + (15 : Int)) % (30 : Int))) - ((y.toInt % (100 : Int)) % (4 : Int))) ∧ (((((32 : Int) + ((2 : Int) * ((y.toInt / (100 : Int)) % (4 : Int)))) + ((2 : Int) * ((y.toInt % (100 : Int)) / (4 : Int)))) - (((((((19 : Int) * (y.toInt % (19 : Int))) + (y.toInt / (100 : Int))) - ((y.toInt / (100 : Int)) / (4 : Int))) - ((((y.toInt / (100 : Int)) - (((y.toInt / (100 : Int)) + (8 : Int)) / (25 : Int))) + (1 : Int)) / (3 : Int))) + (15 : Int)) % (30 : Int))) - ((y.toInt % (100 : Int)) % (4 : Int))) ≤ (86 : Int) := own_isub h33 h34 (by decide)
  have h36 : ((7 : Int32)).toInt = (7 : Int) ∧ (7 : Int) ≤ (7 : Int) ∧ (7 : Int) ≤ (7 : Int) := by decide
  have h37 : (((((((32 : Int32) + ((2 : Int32) * ((y / (100 : Int32)) % (4 : Int32)))) + ((2 : Int32) * ((y % (100 : Int32)) / (4 : Int32)))) - (((((((19 : Int32) * (y % (19 : Int32))) + (y / (100 : Int32))) - ((y / (100 : Int32)) / (4 : Int32))) - ((((y / (100 : Int32)) - (((y / (100 : Int32)) + (8 : Int32)) / (25 : Int32))) + (1 : Int32)) / (3 : Int32))) + (15 : Int32)) % (30 : Int32))) - ((y % (100 : Int32)) % (4 : Int32))) % (7 : Int32))).toInt = ((((((32 : Int) + ((2 : Int) * ((y.toInt / (100 : Int)) % (4 : Int)))) + ((2 : Int) * ((y.toInt % (100 : Int)) / (4 : Int)))) - (((((((19 : Int) * (y.toInt % (19 : Int))) + (y.toInt / (100 : Int))) - ((y.toInt / (100 : Int)) / (4 : Int))) - ((((y.toInt / (100 : Int)) - (((y.toInt / (100 : Int)) + (8 : Int)) / (25 : Int))) + (1 : Int)) / (3 : Int))) + (15 : Int)) % (30 : Int))) - ((y.toInt % (100 : Int)) % (4 : Int))) % (7 : Int)) ∧ (0 : Int) ≤ ((((((32 : Int) + ((2 : Int) * ((y.toInt / (100 : Int)) % (4 : Int)))) + ((2 : Int) * ((y.toInt % (100 : Int)) / (4 : Int)))) - (((((((19 : Int) * (y.toInt % (19 : Int))) + (y.toInt / (100 : Int))) - ((y.toInt / (100 : Int)) / (4 : Int))) - ((((y.toInt / (100 : Int)) - (((y.toInt / (100 : Int)) + (8 : Int)) / (25 : Int))) + (1 : Int)) / (3 : Int))) + (15 : Int)) % (30 : Int))) - ((y.toInt % (100 : Int)) % (4 : Int))) % (7 : Int)) ∧ ((((((32 : Int) + ((2 : Int) * ((y.toInt / (100 : Int)) % (4 : Int)))) + ((2 : Int) * ((y.toInt % (100 : Int)) / (4 : Int)))) - (((((((19 : Int) * (y.toInt % (19 : Int))) + (y.toInt / (100 : Int))) - ((y.toInt / (100 : Int)) / (4 : Int))) - ((((y.toInt / (100 : Int)) - (((y.toInt / (100 : Int)) + (8 : Int)) / (25 : Int))) + (1 : Int)) / (3 : Int))) + (15 : Int)) % (30 : Int))) - ((y.toInt % (100 : Int)) % (4 : Int))) % (7 : Int)) ≤ (6 : Int) := own_irem h35 h36.1 (by decide)
  have h38 : (((((((((19 : Int32) * (y % (19 : Int32))) + (y / (100 : Int32))) - ((y / (100 : Int32)) / (4 : Int32))) - ((((y / (100 : Int32)) - (((y / (100 : Int32)) + (8 : Int32)) / (25 : Int32))) + (1 : Int32)) / (3 : Int32))) + (15 : Int32)) % (30 : Int32)) + ((((((32 : Int32) + ((2 : Int32) * ((y / (100 : Int32)) % (4 : Int32)))) + ((2 : Int32) * ((y % (100 : Int32)) / (4 : Int32)))) - (((((((19 : Int32) * (y % (19 : Int32))) + (y / (100 : Int32))) - ((y / (100 : Int32)) / (4 : Int32))) - ((((y / (100 : Int32)) - (((y / (100 : Int32)) + (8 : Int32)) / (25 : Int32))) + (1 : Int32)) / (3 : Int32))) + (15 : Int32)) % (30 : Int32))) - ((y % (100 : Int32)) % (4 : Int32))) % (7 : Int32)))).toInt = ((((((((19 : Int) * (y.toInt % (19 : Int))) + (y.toInt / (100 : Int))) - ((y.toInt / (100 : Int)) / (4 : Int))) - ((((y.toInt / (100 : Int)) - (((y.toInt / (100 : Int)) + (8 : Int)) / (25 : Int))) + (1 : Int)) / (3 : Int))) + (15 : Int)) % (30 : Int)) + ((((((32 : Int) + ((2 : Int) * ((y.toInt / (100 : Int)) % (4 : Int)))) + ((2 : Int) * ((y.toInt % (100 : Int)) / (4 : Int)))) - (((((((19 : Int) * (y.toInt % (19 : Int))) + (y.toInt / (100 : Int))) - ((y.toInt / (100 : Int)) / (4 : Int))) - ((((y.toInt / (100 : Int)) - (((y.toInt / (100 : Int)) + (8 : Int)) / (25 : Int))) + (1 : Int)) / (3 : Int))) + (15 : Int)) % (30 : Int))) - ((y.toInt % (100 : Int)) % (4 : Int))) % (7 : Int))) ∧ (0 : Int) ≤ ((((((((19 : Int) * (y.toInt % (19 : Int))) + (y.toInt / (100 : Int))) - ((y.toInt / (100 : Int)) / (4 : Int))) - ((((y.toInt / (100 : Int)) - (((y.toInt / (100 : Int)) + (8 : Int)) / (25 : Int))) + (1 : Int)) / (3 : Int))) + (15 : Int)) % (30 : Int)) + ((((((32 : Int) + ((2 : Int) * ((y.toInt / (100 : Int)) % (4 : Int)))) + ((2 : Int) * ((y.toInt % (100 : Int)) / (4 : Int)))) - (((((((19 : Int) * (y.toInt % (19 : Int))) + (y.toInt / (100 : Int))) - ((y.toInt / (100 : Int)) / (4 : Int))) - ((((y.toInt / (100 : Int)) - (((y.toInt / (100 : Int)) + (8 : Int)) / (25 : Int))) + (1 : Int)) / (3 : Int))) + (15 : Int)) % (30 : Int))) - ((y.toInt % (100 : Int)) % (4 : Int))) % (7 : Int))) ∧ ((((((((19 : Int) * (y.toInt % (19 : Int))) + (y.toInt / (100 : Int))) - ((y.toInt / (100 : Int)) / (4 : Int))) - ((((y.toInt / (100 : Int)) - (((y.toInt / (100 : Int)) + (8 : Int)) / (25 : Int))) + (1 : Int)) / (3 : Int))) + (15 : Int)) % (30 : Int)) + ((((((32 : Int) + ((2 : Int) * ((y.toInt / (100 : Int)) % (4 : Int)))) + ((2 : Int) * ((y.toInt % (100 : Int)) / (4 : Int)))) - (((((((19 : Int) * (y.toInt % (19 : Int))) + (y.toInt / (100 : Int))) - ((y.toInt / (100 : Int)) / (4 : Int))) - ((((y.toInt / (100 : Int)) - (((y.toInt / (100 : Int)) + (8 : Int)) / (25 : Int))) + (1 : Int)) / (3 : Int))) + (15 : Int)) % (30 : Int))) - ((y.toInt % (100 : Int)) % (4 : Int))) % (7 : Int))) ≤ (35 : Int) := own_iadd h23 h37 (by decide)
  have h39 : ((11 : Int32)).toInt = (11 : Int) ∧ (11 : Int) ≤ (11 : Int) ∧ (11 : Int) ≤ (11 : Int) := by decide
  have h40 : (((11 : Int32) * (((((((19 : Int32) * (y % (19 : Int32))) + (y / (100 : Int32))) - ((y / (100 : Int32)) / (4 : Int32))) - ((((y / (100 : Int32)) - (((y / (100 : Int32)) + (8 : Int32)) / (25 : Int32))) + (1 : Int32)) / (3 : Int32))) + (15 : Int32)) % (30 : Int32)))).toInt = ((11 : Int) * (((((((19 : Int) * (y.toInt % (19 : Int))) + (y.toInt / (100 : Int))) - ((y.toInt / (100 : Int)) / (4 : Int))) - ((((y.toInt / (100 : Int)) - (((y.toInt / (100 : Int)) + (8 : Int)) / (25 : Int))) + (1 : Int)) / (3 : Int))) + (15 : Int)) % (30 : Int))) ∧ (0 : Int) ≤ ((11 : Int) * (((((((19 : Int) * (y.toInt % (19 : Int))) + (y.toInt / (100 : Int))) - ((y.toInt / (100 : Int)) / (4 : Int))) - ((((y.toInt / (100 : Int)) - (((y.toInt / (100 : Int)) + (8 : Int)) / (25 : Int))) + (1 : Int)) / (3 : Int))) + (15 : Int)) % (30 : Int))) ∧ ((11 : Int) * (((((((19 : Int) * (y.toInt % (19 : Int))) + (y.toInt / (100 : Int))) - ((y.toInt / (100 : Int)) / (4 : Int))) - ((((y.toInt / (100 : Int)) - (((y.toInt / (100 : Int)) + (8 : Int)) / (25 : Int))) + (1 : Int)) / (3 : Int))) + (15 : Int)) % (30 : Int))) ≤ (319 : Int) := own_imulL (A := 0) h39.1 h23 (by decide) (by decide)
  have h41 : (((y % (19 : Int32)) + ((11 : Int32) * (((((((19 : Int32) * (y % (19 : Int32))) + (y / (100 : Int32))) - ((y / (100 : Int32)) / (4 : Int32))) - ((((y / (100 : Int32)) - (((y / (100 : Int32)) + (8 : Int32)) / (25 : Int32))) + (1 : Int32)) / (3 : Int32))) + (15 : Int32)) % (30 : Int32))))).toInt = ((y.toInt % (19 : Int)) + ((11 : Int) * (((((((19 : Int) * (y.toInt % (19 : Int))) + (y.toInt / (100 : Int))) - ((y.toInt / (100 : Int)) / (4 : Int))) - ((((y.toInt / (100 : Int)) - (((y.toInt / (100 : Int)) + (8 : Int)) / (25 : Int))) + (1 : Int)) / (3 : Int))) + (15 : Int)) % (30 : Int)))) ∧ (0 : Int) ≤ ((y.toInt % (19 : Int)) + ((11 : Int) * (((((((19 : Int) * (y.toInt % (19 : Int))) + (y.toInt / (100 : Int))) - ((y.toInt / (100 : Int)) / (4 : Int))) - ((((y.toInt / (100 : Int)) - (((y.toInt / (100 : Int)) + (8 : Int)) / (25 : Int))) + (1 : Int)) / (3 : Int))) + (15 : Int)) % (30 : Int)))) ∧ ((y.toInt % (19 : Int)) + ((11 : Int) * (((((((19 : Int) * (y.toInt % (19 : Int))) + (y.toInt / (100 : Int))) - ((y.toInt / (100 : Int)) / (4 : Int))) - ((((y.toInt / (100 : Int)) - (((y.toInt / (100 : Int)) + (8 : Int)) / (25 : Int))) + (1 : Int)) / (3 : Int))) + (15 : Int)) % (30 : Int)))) ≤ (337 : Int) := own_iadd h2 h40 (by decide)
  have h42 : ((22 : Int32)).toInt = (22 : Int) ∧ (22 : Int) ≤ (22 : Int) ∧ (22 : Int) ≤ (22 : Int) := by decide
  have h43 : (((22 : Int32) * ((((((32 : Int32) + ((2 : Int32) * ((y / (100 : Int32)) % (4 : Int32)))) + ((2 : Int32) * ((y % (100 : Int32)) / (4 : Int32)))) - (((((((19 : Int32) * (y % (19 : Int32))) + (y / (100 : Int32))) - ((y / (100 : Int32)) / (4 : Int32))) - ((((y / (100 : Int32)) - (((y / (100 : Int32)) + (8 : Int32)) / (25 : Int32))) + (1 : Int32)) / (3 : Int32))) + (15 : Int32)) % (30 : Int32))) - ((y % (100 : Int32)) % (4 : Int32))) % (7 : Int32)))).toInt = ((22 : Int) * ((((((32 : Int) + ((2 : Int) * ((y.toInt / (100 : Int)) % (4 : Int)))) + ((2 : Int) * ((y.toInt % (100 : Int)) / (4 : Int)))) - (((((((19 : Int) * (y.toInt % (19 : Int))) + (y.toInt / (100 : Int))) - ((y.toInt / (100 : Int)) / (4 : Int))) - ((((y.toInt / (100 : Int)) - (((y.toInt / (100 : Int)) + (8 : Int)) / (25 : Int))) + (1 : Int)) / (3 : Int))) + (15 : Int)) % (30 : Int))) - ((y.toInt % (100 : Int)) % (4 : Int))) % (7 : Int))) ∧ (0 : Int) ≤ ((22 : Int) * ((((((32 : Int) + ((2 : Int) * ((y.toInt / (100 : Int)) % (4 : Int)))) + ((2 : Int) * ((y.toInt % (100 : Int)) / (4 : Int)))) - (((((((19 : Int) * (y.toInt % (19 : Int))) + (y.toInt / (100 : Int))) - ((y.toInt / (100 : Int)) / (4 : Int))) - ((((y.toInt / (100 : Int)) - (((y.toInt / (100 : Int)) + (8 : Int)) / (25 : Int))) + (1 : Int)) / (3 : Int))) + (15 : Int)) % (30 : Int))) - ((y.toInt % (100 : Int)) % (4 : Int))) % (7 : Int))) ∧ ((22 : Int) * ((((((32 : Int) + ((2 : Int) * ((y.toInt / (100 : Int)) % (4 : Int)))) + ((2 : Int) * ((y.toInt % (100 : Int)) / (4 : Int)))) - (((((((19 : Int) * (y.toInt % (19 : Int))) + (y.toInt / (100 : Int))) - ((y.toInt / (100 : Int)) / (4 : Int))) - ((((y.toInt / (100 : Int)) - (((y.toInt / (100 : Int)) + (8 : Int)) / (25 : Int))) + (1 : Int)) / (3 : Int))) + (15 : Int)) % (30 : Int))) - ((y.toInt % (100 : Int)) % (4 : Int))) % (7 : Int))) ≤ (132 : Int) := own_imulL (A := 0) h42.1 h37 (by decide) (by decide)
  have h44 : ((((y % (19 : Int32)) + ((11 : Int32) * (((((((19 : Int32) * (y % (19 : Int32))) + (y / (100 : Int32))) - ((y / (100 : Int32)) / (4 : Int32))) - ((((y / (100 : Int32)) - (((y / (100 : Int32)) + (8 : Int32)) / (25 : Int32))) + (1 : Int32)) / (3 : Int32))) + (15 : Int32)) % (30 : Int32)))) + ((22 : Int32) * ((((((32 : Int32) + ((2 : Int32) * ((y / (100 : Int32)) % (4 : Int32)))) + ((2 : Int32) * ((y % (100 : Int32)) / (4 : Int32)))) - (((((((19 : Int32) * (y % (19 : Int32))) + (y / (100 : Int32))) - ((y / (100 : Int32)) / (4 : Int32))) - ((((y / (100 : Int32)) - (((y / (100 : Int32)) + (8 : Int32)) / (25 : Int32))) + (1 : Int32)) / (3 : Int32))) + (15 : Int32)) % (30 : Int32))) - ((y % (100 : Int32)) % (4 : Int32))) % (7 : Int32))))).toInt = (((y.toInt % (19 : Int)) + ((11 : Int) * (((((((19 : Int) * (y.toInt % (19 : Int))) + (y.toInt / (100 : Int))) - ((y.toInt / (100 : Int)) / (4 : Int))) - ((((y.toInt / (100 : Int)) - (((y.toInt / (100 : Int)) + (8 : Int)) / (25 : Int))) + (1 : Int)) / (3 : Int))) + (15 : Int)) % (30 : Int)))) + ((22 : Int) * ((((((32 : Int) + ((2 : Int) * ((y.toInt / (100 : Int)) % (4 : Int)))) + ((2 : Int) * ((y.toInt % (100 : Int)) / (4 : Int)))) - (((((((19 : Int) * (y.toInt % (19 : Int))) + (y.toInt / (100 : Int))) - ((y.toInt / (100 : Int)) / (4 : Int))) - ((((y.toInt / (100 : Int)) - (((y.toInt / (100 : Int)) + (8 : Int)) / (25 : Int))) + (1 : Int)) / (3 : Int))) + (15 : Int)) % (30 : Int))) - ((y.toInt % (100 : Int)) % (4 : Int))) % (7 : Int)))) ∧ (0 : Int) ≤ (((y.toInt % (19 : Int)) + ((11 : Int) * (((((((19 : Int) * (y.toInt % (19 : Int))) + (y.toInt / (100 : Int))) - ((y.toInt / (100 : Int)) / (4 : Int))) - ((((y.toInt / (100 : Int)) - (((y.toInt / (100 : Int)) + (8 : Int)) / (25 : Int))) + (1 : Int)) / (3 : Int))) + (15 : Int)) % (30 : Int)))) + ((22 : Int) * ((((((32 : Int) + ((2 : Int) * ((y.toInt / (100 : Int)) % (4 : Int)))) + ((2 : Int) * ((y.toInt % (100 : Int)) / (4 : Int)))) - (((((((19 : Int) * (y.toInt % (19 : Int))) + (y.toInt / (100 : Int))) - ((y.toInt / (100 : Int)) / (4 : Int))) - ((((y.toInt / (100 : Int)) - (((y.toInt / (100 : Int)) + (8 : Int)) / (25 : Int))) + (1 : Int)) / (3 : Int))) + (15 : Int)) % (30 : Int))) - ((y.toInt % (100 : Int)) % (4 : Int))) % (7 : Int)))) ∧ (((y.toInt % (19 : Int)) + ((11 : Int) * (((((((19 : Int) * (y.toInt % (19 : Int))) + (y.toInt / (100 : Int))) - ((y.toInt / (100 : Int)) / (4 : Int))) - ((((y.toInt / (100 : Int)) - (((y.toInt / (100 : Int)) + (8 : Int)) / (25 : Int))) + (1 : Int)) / (3 : Int))) + (15 : Int)) % (30 : Int)))) + ((22 : Int) * ((((((32 : Int) + ((2 : Int) * ((y.toInt / (100 : Int)) % (4 : Int)))) + ((2 : Int) * ((y.toInt % (100 : Int)) / (4 : Int)))) - (((((((19 : Int) * (y.toInt % (19 : Int))) + (y.toInt / (100 : Int))) - ((y.toInt / (100 : Int)) / (4 : Int))) - ((((y.toInt / (100 : Int)) - (((y.toInt / (100 : Int)) + (8 : Int)) / (25 : Int))) + (1 : Int)) / (3 : Int))) + (15 : Int)) % (30 : Int))) - ((y.toInt % (100 : Int)) % (4 : Int))) % (7 : Int)))) ≤ (469 : Int) := own_iadd h41 h43 (by decide)
  have h45 : ((451 : Int32)).toInt = (451 : Int) ∧ (451 : Int) ≤ (451 : Int) ∧ (451 : Int) ≤ (451 : Int) := by decide
  have h46 : (((((y % (19 : Int32)) + ((11 : Int32) * (((((((19 : Int32) * (y % (19 : Int32))) + (y / (100 : Int32))) - ((y / (100 : Int32)) / (4 : Int32))) - ((((y / (100 : Int32)) - (((y / (100 : Int32)) + (8 : Int32)) / (25 : Int32))) + (1 : Int32)) / (3 : Int32))) + (15 : Int32)) % (30 : Int32)))) + ((22 : Int32) * ((((((32 : Int32) + ((2 : Int32) * ((y / (100 : Int32)) % (4 : Int32)))) + ((2 : Int32) * ((y % (100 : Int32)) / (4 : Int32)))) - (((((((19 : Int32) * (y % (19 : Int32))) + (y / (100 : Int32))) - ((y / (100 : Int32)) / (4 : Int32))) - ((((y / (100 : Int32)) - (((y / (100 : Int32)) + (8 : Int32)) / (25 : Int32))) + (1 : Int32)) / (3 : Int32))) + (15 : Int32)) % (30 : Int32))) - ((y % (100 : Int32)) % (4 : Int32))) % (7 : Int32)))) / (451 : Int32))).toInt = ((((y.toInt % (19 : Int)) + ((11 : Int) * (((((((19 : Int) * (y.toInt % (19 : Int))) + (y.toInt / (100 : Int))) - ((y.toInt / (100 : Int)) / (4 : Int))) - ((((y.toInt / (100 : Int)) - (((y.toInt / (100 : Int)) + (8 : Int)) / (25 : Int))) + (1 : Int)) / (3 : Int))) + (15 : Int)) % (30 : Int)))) + ((22 : Int) * ((((((32 : Int) + ((2 : Int) * ((y.toInt / (100 : Int)) % (4 : Int)))) + ((2 : Int) * ((y.toInt % (100 : Int)) / (4 : Int)))) - (((((((19 : Int) * (y.toInt % (19 : Int))) + (y.toInt / (100 : Int))) - ((y.toInt / (100 : Int)) / (4 : Int))) - ((((y.toInt / (100 : Int)) - (((y.toInt / (100 : Int)) + (8 : Int)) / (25 : Int))) + (1 : Int)) / (3 : Int))) + (15 : Int)) % (30 : Int))) - ((y.toInt % (100 : Int)) % (4 : Int))) % (7 : Int)))) / (451 : Int)) ∧ (0 : Int) ≤ ((((y.toInt % (19 : Int)) + ((11 : Int) * (((((((19 : Int) * (y.toInt % (19 : Int))) + (y.toInt / (100 : Int))) - ((y.toInt / (100 : Int)) / (4 : Int))) - ((((y.toInt / (100 : Int)) - (((y.toInt / (100 : Int)) + (8 : Int)) / (25 : Int))) + (1 : Int)) / (3 : Int))) + (15 : Int)) % (30 : Int)))) + ((22 : Int) * ((((((32 : Int) + ((2 : Int) * ((y.toInt / (100 : Int)) % (4 : Int)))) + ((2 : Int) * ((y.toInt % (100 : Int)) / (4 : Int)))) - (((((((19 : Int) * (y.toInt % (19 : Int))) + (y.toInt / (100 : Int))) - ((y.toInt / (100 : Int)) / (4 : Int))) - ((((y.toInt / (100 : Int)) - (((y.toInt / (100 : Int)) + (8 : Int)) / (25 : Int))) + (1 : Int)) / (3 : Int))) + (15 : Int)) % (30 : Int))) - ((y.toInt % (100 : Int)) % (4 : Int))) % (7 : Int)))) / (451 : Int)) ∧ ((((y.toInt % (19 : Int)) + ((11 : Int) * (((((((19 : Int) * (y.toInt % (19 : Int))) + (y.toInt / (100 : Int))) - ((y.toInt / (100 : Int)) / (4 : Int))) - ((((y.toInt / (100 : Int)) - (((y.toInt / (100 : Int)) + (8 : Int)) / (25 : Int))) + (1 : Int)) / (3 : Int))) + (15 : Int)) % (30 : Int)))) + ((22 : Int) * ((((((32 : Int) + ((2 : Int) * ((y.toInt / (100 : Int)) % (4 : Int)))) + ((2 : Int) * ((y.toInt % (100 : Int)) / (4 : Int)))) - (((((((19 : Int) * (y.toInt % (19 : Int))) + (y.toInt / (100 : Int))) - ((y.toInt / (100 : Int)) / (4 : Int))) - ((((y.toInt / (100 : Int)) - (((y.toInt / (100 : Int)) + (8 : Int)) / (25 : Int))) + (1 : Int)) / (3 : Int))) + (15 : Int)) % (30 : Int))) - ((y.toInt % (100 : Int)) % (4 : Int))) % (7 : Int)))) / (451 : Int)) ≤ (1 : Int) := own_idiv h44 h45.1 (by decide)
  have h47 : (((7 : Int32) * ((((y % (19 : Int32)) + ((11 : Int32) * (((((((19 : Int32) * (y % (19 : Int32))) + (y / (100 : Int32))) - ((y / (100 : Int32)) / (4 : Int32))) - ((((y / (100 : Int32)) - (((y / (100 : Int32)) + (8 : Int32)) / (25 : Int32))) + (1 : Int32)) / (3 : Int32))) + (15 : Int32)) % (30 : Int32)))) + ((22 : Int32) * ((((((32 : Int32) + ((2 : Int32) * ((y / (100 : Int32)) % (4 : Int32)))) + ((2 : Int32) * ((y % (100 : Int32)) / (4 : Int32)))) - (((((((19 : Int32) * (y % (19 : Int32))) + (y / (100 : Int32))) - ((y / (100 : Int32)) / (4 : Int32))) - ((((y / (100 : Int32)) - (((y / (100 : Int32)) + (8 : Int32)) / (25 : Int32))) + (1 : Int32)) / (3 : Int32))) + (15 : Int32)) % (30 : Int32))) - ((y % (100 : Int32)) % (4 : Int32))) % (7 : Int32)))) / (451 : Int32)))).toInt = ((7 : Int) * ((((y.toInt % (19 : Int)) + ((11 : Int) * (((((((19 : Int) * (y.toInt % (19 : Int))) + (y.toInt / (100 : Int))) - ((y.toInt / (100 : Int)) / (4 : Int))) - ((((y.toInt / (100 : Int)) - (((y.toInt / (100 : Int)) + (8 : Int)) / (25 : Int))) + (1 : Int)) / (3 : Int))) + (15 : Int)) % (30 : Int)))) + ((22 : Int) * ((((((32 : Int) + ((2 : Int) * ((y.toInt / (100 : Int)) % (4 : Int)))) + ((2 : Int) * ((y.toInt % (100 : Int)) / (4 : Int)))) - (((((((19 : Int) * (y.toInt % (19 : Int))) + (y.toInt / (100 : Int))) - ((y.toInt / (100 : Int)) / (4 : Int))) - ((((y.toInt / (100 : Int)) - (((y.toInt / (100 : Int)) + (8 : Int)) / (25 : Int))) + (1 : Int)) / (3 : Int))) + (15 : Int)) % (30 : Int))) - ((y.toInt % (100 : Int)) % (4 : Int))) % (7 : Int)))) / (451 : Int))) ∧ (0 : Int) ≤ ((7 : Int) * ((((y.toInt % (19 : Int)) + ((11 : Int) * (((((((19 : Int) * (y.toInt % (19 : Int))) + (y.toInt / (100 : Int))) - ((y.toInt / (100 : Int)) / (4 : Int))) - ((((y.toInt / (100 : Int)) - (((y.toInt / (100 : Int)) + (8 : Int)) / (25 : Int))) + (1 : Int)) / (3 : Int))) + (15 : Int)) % (30 : Int)))) + ((22 : Int) * ((((((32 : Int) + ((2 : Int) * ((y.toInt / (100 : Int)) % (4 : Int)))) + ((2 : Int) * ((y.toInt % (100 : Int)) / (4 : Int)))) - (((((((19 : Int) * (y.toInt % (19 : Int))) + (y.toInt / (100 : Int))) - ((y.toInt / (100 : Int)) / (4 : Int))) - ((((y.toInt / (100 : Int)) - (((y.toInt / (100 : Int)) + (8 : Int)) / (25 : Int))) + (1 : Int)) / (3 : Int))) + (15 : Int)) % (30 : Int))) - ((y.toInt % (100 : Int)) % (4 : Int))) % (7 : Int)))) / (451 : Int))) ∧ ((7 : Int) * ((((y.toInt % (19 : Int)) + ((11 : Int) * (((((((19 : Int) * (y.toInt % (19 : Int))) + (y.toInt / (100 : Int))) - ((y.toInt / (100 : Int)) / (4 : Int))) - ((((y.toInt / (100 : Int)) - (((y.toInt / (100 : Int)) + (8 : Int)) / (25 : Int))) + (1 : Int)) / (3 : Int))) + (15 : Int)) % (30 : Int)))) + ((22 : Int) * ((((((32 : Int) + ((2 : Int) * ((y.toInt / (100 : Int)) % (4 : Int)))) + ((2 : Int) * ((y.toInt % (100 : Int)) / (4 : Int)))) - (((((((19 : Int) * (y.toInt % (19 : Int))) + (y.toInt / (100 : Int))) - ((y.toInt / (100 : Int)) / (4 : Int))) - ((((y.toInt / (100 : Int)) - (((y.toInt / (100 : Int)) + (8 : Int)) / (25 : Int))) + (1 : Int)) / (3 : Int))) + (15 : Int)) % (30 : Int))) - ((y.toInt % (100 : Int)) % (4 : Int))) % (7 : Int)))) / (451 : Int))) ≤ (7 : Int) := own_imulL (A := 0) h36.1 h46 (by decide) (by decide)
  have h48 : ((((((((((19 : Int32) * (y % (19 : Int32))) + (y / (100 : Int32))) - ((y / (100 : Int32)) / (4 : Int32))) - ((((y / (100 : Int32)) - (((y / (100 : Int32)) + (8 : Int32)) / (25 : Int32))) + (1 : Int32)) / (3 : Int32))) + (15 : Int32)) % (30 : Int32)) + ((((((32 : Int32) + ((2 : Int32) * ((y / (100 : Int32)) % (4 : Int32)))) + ((2 : Int32) * ((y % (100 : Int32)) / (4 : Int32)))) - (((((((19 : Int32) * (y % (19 : Int32))) + (y / (100 : Int32))) - ((y / (100 : Int32)) / (4 : Int32))) - ((((y / (100 : Int32)) - (((y / (100 : Int32)) + (8 : Int32)) / (25 : Int32))) + (1 : Int32)) / (3 : Int32))) + (15 : Int32)) % (30 : Int32))) - ((y % (100 : Int32)) % (4 : Int32))) % (7 : Int32))) - ((7 : Int32) * ((((y % (19 : Int32)) + ((11 : Int32) * (((((((19 : Int32) * (y % (19 : Int32))) + (y / (100 : Int32))) - ((y / (100 : Int32)) / (4 : Int32))) - ((((y / (100 : Int32)) - (((y / (100 : Int32)) + (8 : Int32)) / (25 : Int32))) + (1 : Int32)) / (3 : Int32))) + (15 : Int32)) % (30 : Int32)))) + ((22 : Int32) * ((((((32 : Int32) + ((2 : Int32) * ((y / (100 : Int32)) % (4 : Int32)))) + ((2 : Int32) * ((y % (100 : Int32)) / (4 : Int32)))) - (((((((19 : Int32) * (y % (19 : Int32))) + (y / (100 : Int32))) - ((y / (100 : Int32)) / (4 : Int32))) - ((((y / (100 : Int32)) - (((y / (100 : Int32)) + (8 : Int32)) / (25 : Int32))) + (1 : Int32)) / (3 : Int32))) + (15 : Int32)) % (30 : Int32))) - ((y % (100 : Int32)) % (4 : Int32))) % (7 : Int32)))) / (451 : Int32))))).toInt = (((((((((19 : Int) * (y.toInt % (19 : Int))) + (y.toInt / (100 : Int))) - ((y.toInt / (100 : Int)) / (4 : Int))) - ((((y.toInt / (100 : Int)) - (((y.toInt / (100 : Int)) + (8 : Int)) / (25 : Int))) + (1 : Int)) / (3 : Int))) + (15 : Int)) % (30 : Int)) + ((((((32 : Int) + ((2 : Int) * ((y.toInt / (100 : Int)) % (4 : Int)))) + ((2 : Int) * ((y.toInt % (100 : Int)) / (4 : Int)))) - (((((((19 : Int) * (y.toInt % (19 : Int))) + (y.toInt / (100 : Int))) - ((y.toInt / (100 : Int)) / (4 : Int))) - ((((y.toInt / (100 : Int)) - (((y.toInt / (100 : Int)) + (8 : Int)) / (25 : Int))) + (1 : Int)) / (3 : Int))) + (15 : Int)) % (30 : Int))) - ((y.toInt % (100 : Int)) % (4 : Int))) % (7 : Int))) - ((7 : Int) * ((((y.toInt % (19 : Int)) + ((11 : Int) * (((((((19 : Int) * (y.toInt % (19 : Int))) + (y.toInt / (100 : Int))) - ((y.toInt / (100 : Int)) / (4 : Int))) - ((((y.toInt / (100 : Int)) - (((y.toInt / (100 : Int)) + (8 : Int)) / (25 : Int))) + (1 : Int)) / (3 : Int))) + (15 : Int)) % (30 : Int)))) + ((22 : Int) * ((((((32 : Int) + ((2 : Int) * ((y.toInt / (100 : Int)) % (4 : Int)))) + ((2 : Int) * ((y.toInt % (100 : Int)) / (4 : Int)))) - (((((((19 : Int) * (y.toInt % (19 : Int))) + (y.toInt / (100 : Int))) - ((y.toInt / (100 : Int)) / (4 : Int))) - ((((y.toInt / (100 : Int)) - (((y.toInt / (100 : Int)) + (8 : Int)) / (25 : Int))) + (1 : Int)) / (3 : Int))) + (15 : Int)) % (30 : Int))) - ((y.toInt % (100 : Int)) % (4 : Int))) % (7 : Int)))) / (451 : Int)))) ∧ (-7 : Int) ≤ (((((((((19 : Int) * (y.toInt % (19 : Int))) + (y.toInt / (100 : Int))) - ((y.toInt / (100 : Int)) / (4 : Int))) - ((((y.toInt / (100 : Int)) - (((y.toInt / (100 : Int)) + (8 : Int)) / (25 : Int))) + (1 : Int)) / (3 : Int))) + (15 : Int)) % (30 : Int)) + ((((((32 : Int) + ((2 : Int) * ((y.toInt / (100 : Int)) % (4 : Int)))) + ((2 : Int) * ((y.toInt % (100 : Int)) / (4 : Int)))) - (((((((19 : Int) * (y.toInt % (19 : Int))) + (y.toInt / (100 : Int))) - ((y.toInt / (100 : Int)) / (4 : Int))) - ((((y.toInt / (100 : Int)) - (((y.toInt / (100 : Int)) + (8 : Int)) / (25 : Int))) + (1 : Int)) / (3 : Int))) + (15 : Int)) % (30 : Int))) - ((y.toInt % (100 : Int)) % (4 : Int))) % (7 : Int))) - ((7 : Int) * ((((y.toInt % (19 : Int)) + ((11 : Int) * (((((((19 : Int) * (y.toInt % (19 : Int))) + (y.toInt / (100 : Int))) - ((y.toInt / (100 : Int)) / (4 : Int))) - ((((y.toInt / (100 : Int)) - (((y.toInt / (100 : Int)) + (8 : Int)) / (25 : Int))) + (1 : Int)) / (3 : Int))) + (15 : Int)) % (30 : Int)))) + ((22 : Int) * ((((((32 : Int) + ((2 : Int) * ((y.toInt / (100 : Int)) % (4 : Int)))) + ((2 : Int) * ((y.toInt % (100 : Int)) / (4 : Int)))) - (((((((19 : Int) * (y.toInt % (19 : Int))) + (y.toInt / (100 : Int))) - ((y.toInt / (100 : Int)) / (4 : Int))) - ((((y.toInt / (100 : Int)) - (((y.toInt / (100 : Int)) + (8 : Int)) / (25 : Int))) + (1 : Int)) / (3 : Int))) + (15 : Int)) % (30 : Int))) - ((y.toInt % (100 : Int)) % (4 : Int))) % (7 : Int)))) / (451 : Int)))) ∧ (((((((((19 : Int) * (y.toInt % (19 : Int))) + (y.toInt / (100 : Int))) - ((y.toInt / (100 : Int)) / (4 : Int))) - ((((y.toInt / (100 : Int)) - (((y.toInt / (100 : Int)) + (8 : Int)) / (25 : Int))) + (1 : Int)) / (3 : Int))) + (15 : Int)) % (30 : Int)) + ((((((32 : Int) + ((2 : Int) * ((y.toInt / (100 : Int)) % (4 : Int)))) + ((2 : Int) * ((y.toInt % (100 : Int)) / (4 : Int)))) - (((((((19 : Int) * (y.toInt % (19 : Int))) + (y.toInt / (100 : Int))) - ((y.toInt / (100 : Int)) / (4 : Int))) - ((((y.toInt / (100 : Int)) - (((y.toInt / (100 : Int)) + (8 : Int)) / (25 : Int))) + (1 : Int)) / (3 : Int))) + (15 : Int)) % (30 : Int))) - ((y.toInt % (100 : Int)) % (4 : Int))) % (7 : Int))) - ((7 : Int) * ((((y.toInt % (19 : Int)) + ((11 : Int) * (((((((19 : Int) * (y.toInt % (19 : Int))) + (y.toInt / (100 : Int))) - ((y.toInt / (100 : Int)) / (4 : Int))) - ((((y.toInt / (100 : Int)) - (((y.toInt / (100 : Int)) + (8 : Int)) / (25 : Int))) + (1 : Int)) / (3 : Int))) + (15 : Int)) % (30 : Int)))) + ((22 : Int) * ((((((32 : Int) + ((2 : Int) * ((y.toInt / (100 : Int)) % (4 : Int)))) + ((2 : Int) * ((y.toInt % (100 : Int)) / (4 : Int)))) - (((((((19 : Int) * (y.toInt % (19 : Int))) + (y.toInt / (100 : Int))) - ((y.toInt / (100 : Int)) / (4 : Int))) - ((((y.toInt / (100 : Int)) - (((y.toInt / (100 : Int)) + (8 : Int)) / (25 : Int))) + (1 : Int)) / (3 : Int))) + (15 : Int)) % (30 : Int))) - ((y.toInt % (100 : Int)) % (4 : Int))) % (7 : Int)))) / (451 : Int)))) ≤ (35 : Int) := own_isub h38 h47 (by decide)
  exact h48.1
def Q_own_ilya (Z : State) (o1 : Addr) (q1 : Int64) (h0 : Heap) (n0 : Nat) (v : Option Value) (h : Heap) (L : List Loc) : Prop := v = some (.int (0 : Int32)) ∧ Fr n0 L ∧ h = h0
theorem own_d23_0 : decode jdk_2369_method_18_code 0 = .ok (.lload_n 1, 1) := by decide +kernel
theorem own_d23_1 : decode jdk_2369_method_18_code 1 = .ok (.ldc2_w 117, 3) := by decide +kernel
theorem own_d23_4 : decode jdk_2369_method_18_code 4 = .ok (.land, 1) := by decide +kernel
theorem own_d23_5 : decode jdk_2369_method_18_code 5 = .ok (.lconst 0, 1) := by decide +kernel
theorem own_d23_6 : decode jdk_2369_method_18_code 6 = .ok (.lcmp, 1) := by decide +kernel
theorem own_d23_7 : decode jdk_2369_method_18_code 7 = .ok (.ifCond .ne 27, 3) := by decide +kernel
theorem own_d23_34 : decode jdk_2369_method_18_code 34 = .ok (.iconst 0, 1) := by decide +kernel
theorem own_d23_35 : decode jdk_2369_method_18_code 35 = .ok (.ireturn, 1) := by decide +kernel
theorem own_pn_java_time_chrono_IsoChronology : plainName "java/time/chrono/IsoChronology" = true := by first | (simp [plainName, overriddenIn]; done) | decide +kernel
set_option maxRecDepth 65536 in
set_option maxHeartbeats 40000000 in
theorem own_ilya (l : Launch) (Z : State) (a0 : Array Value) (hw : ∀ d ∈ tables_1, d.before a0 Z = true) (ws : List Jvm.Cond) (o1 : Addr) (q1 : Int64) (h0 : Heap) (n0 : Nat) (Z0 : n0 ≤ h0.size) (h0' : 0 ≤ q1.toInt) (hl : ¬ (q1.toInt % 4 = 0)) :
    MetFree l (⟨"java/time/chrono/IsoChronology", "isLeapYear", "(J)Z"⟩ : MethodName) (head1 (Jvm.Cond.code (⟨"java/time/chrono/IsoChronology", "isLeapYear", "(J)Z"⟩ : MethodName) jdk_2369_method_18_code 3 (some .boolean) :: ws) ({ frames := 0, cells := 0, slots := 0, locals := 0 } : Room)) (fun a U => a = #[(.ref o1), (.long q1)] ∧ Z.Warmed39 U.vm ∧ U.heap = h0) (fun _ _ _ _ _ => True) (fun _ U o U' => ∃ v L, o = .returned v ∧ Q_own_ilya Z o1 q1 h0 n0 v U'.heap L ∧ FrameEnd U o U' L ({ frames := 0, cells := 0, slots := 0, locals := 0 } : Room).cells ({ frames := 0, cells := 0, slots := 0, locals := 0 } : Room).slots) := by
  refine MetFree.of_bodySF (plainFor_of_name own_pn_java_time_chrono_IsoChronology) hisR ?_
  intro p e s m args below meth c s₁ Bd hml0 hP hK
  obtain ⟨rfl, hZ, hh⟩ := hP
  have hx := Bd.exec
  have hby := Bd.bytes
  have hml : c.maxLocals = 3 := hml0
  have hown : s.vm.findClass "java/time/chrono/IsoChronology" = some m.cls := findClass_of_methodNamed Bd.named
  have hnm := (name_of_methodNamed Bd.named Bd.method).1
  have hlk : meth.locks = false := BodyLoose.notSynchronized Bd
  have X0 : Stand p l e ({ frames := 0, cells := 0, slots := 0, locals := 0 } : Room) s m #[(.ref o1), (.long q1)] below meth c s₁ [] 0 0 := Stand.of_body Bd
  have e0 : s₁.heap = h0 := by rw [← hh, Bd.state]; rfl
  have N0 := Fr.nil n0
  show own_Go p e below #[(.ref o1), (.long q1)] s (fun _ U o U' => ∃ v L, o = .returned v ∧ Q_own_ilya Z o1 q1 h0 n0 v U'.heap L ∧ FrameEnd U o U' L ({ frames := 0, cells := 0, slots := 0, locals := 0 } : Room).cells ({ frames := 0, cells := 0, slots := 0, locals := 0 } : Room).slots) (s₁.setTop (entryFrame m #[(.ref o1), (.long q1)] 3))
  refine own_st (V := s₁.setTop (mkF m 0 #[.val (.ref o1), .val (.long q1), .second] [])) (fun t k => castTop (by first | (simp [entryFrame, mkF, argsToLocals, Value.category]; done) | rfl) k) ?_
  refine own_st (V := s₁.setTop (mkF m 1 #[.val (.ref o1), .val (.long q1), .second] [(.long q1)])) (fun t k => XS.lloadN X0.here hx rfl (hb hby own_d23_0) rfl k) ?_
  refine own_st (V := s₁.setTop (mkF m 4 #[.val (.ref o1), .val (.long q1), .second] [(.long (3 : Int64)), (.long q1)])) (fun t k => X0.ldc2Long hx hown (mvT hZ (hw _ (List.mem_of_getElem? (i := 159) rfl))) (g := (mkF m 1 #[.val (.ref o1), .val (.long q1), .second] [(.long q1)])) rfl (hb hby own_d23_1) t k) ?_
  refine own_st (V := s₁.setTop (mkF m 5 #[.val (.ref o1), .val (.long q1), .second] [(.long (q1 &&& (3 : Int64)))])) (fun t k => XS.land X0.here hx rfl (hb hby own_d23_4) rfl k) ?_
  refine own_st (V := s₁.setTop (mkF m 6 #[.val (.ref o1), .val (.long q1), .second] [(.long (0 : Int64)), (.long (q1 &&& (3 : Int64)))])) (fun t k => XS.lconst X0.here hx rfl (hb hby own_d23_5) k) ?_
  refine own_st (V := s₁.setTop (mkF m 7 #[.val (.ref o1), .val (.long q1), .second] [(.int (lcmpW (q1 &&& (3 : Int64)) (0 : Int64)))])) (fun t k => XS.lcmp X0.here hx rfl (hb hby own_d23_6) rfl k) ?_
  refine own_st (V := s₁.setTop (mkF m 34 #[.val (.ref o1), .val (.long q1), .second] [])) (fun t k => XS.ifYes X0.here hx rfl (pc0 := 7) (pc' := 34) rfl (hb hby own_d23_7) rfl ((if0 _ _).trans (feq (own_eq0 (by have z : (0 : Int64).toInt = 0 := (by decide); have e := c_maskL q1 3 2 (by decide) (by decide); omega))).2) (by decide) (by decide) k) ?_
  refine own_st (V := s₁.setTop (mkF m 35 #[.val (.ref o1), .val (.long q1), .second] [(.int (0 : Int32))])) (fun t k => XS.iconst X0.here hx rfl (hb hby own_d23_34) k) ?_
  exact own_ret X0 hx hlk Bd.returns (by decide +kernel) (Or.inl ⟨rfl, by simp, _, rfl⟩) (hb hby own_d23_35) (by decide) (by decide) (by show Q_own_ilya Z o1 q1 h0 n0 _ s₁.heap _; rw [e0]; exact ⟨rfl, N0, rfl⟩)
def Q_own_ilyb (Z : State) (o1 : Addr) (q1 : Int64) (h0 : Heap) (n0 : Nat) (v : Option Value) (h : Heap) (L : List Loc) : Prop := v = some (.int (1 : Int32)) ∧ Fr n0 L ∧ h = h0
theorem own_d23_10 : decode jdk_2369_method_18_code 10 = .ok (.lload_n 1, 1) := by decide +kernel
theorem own_d23_11 : decode jdk_2369_method_18_code 11 = .ok (.ldc2_w 123, 3) := by decide +kernel
theorem own_d23_14 : decode jdk_2369_method_18_code 14 = .ok (.lrem, 1) := by decide +kernel
theorem own_d23_15 : decode jdk_2369_method_18_code 15 = .ok (.lconst 0, 1) := by decide +kernel
theorem own_d23_16 : decode jdk_2369_method_18_code 16 = .ok (.lcmp, 1) := by decide +kernel
theorem own_d23_17 : decode jdk_2369_method_18_code 17 = .ok (.ifCond .ne 13, 3) := by decide +kernel
theorem own_d23_30 : decode jdk_2369_method_18_code 30 = .ok (.iconst 1, 1) := by decide +kernel
theorem own_d23_31 : decode jdk_2369_method_18_code 31 = .ok (.goto 4, 3) := by decide +kernel
set_option maxRecDepth 65536 in
set_option maxHeartbeats 40000000 in
theorem own_ilyb (l : Launch) (Z : State) (a0 : Array Value) (hw : ∀ d ∈ tables_1, d.before a0 Z = true) (ws : List Jvm.Cond) (o1 : Addr) (q1 : Int64) (h0 : Heap) (n0 : Nat) (Z0 : n0 ≤ h0.size) (h0' : 0 ≤ q1.toInt) (hl : q1.toInt % 4 = 0) (hl2 : ¬ (q1.toInt % 100 = 0)) :
    MetFree l (⟨"java/time/chrono/IsoChronology", "isLeapYear", "(J)Z"⟩ : MethodName) (head1 (Jvm.Cond.code (⟨"java/time/chrono/IsoChronology", "isLeapYear", "(J)Z"⟩ : MethodName) jdk_2369_method_18_code 3 (some .boolean) :: ws) ({ frames := 0, cells := 0, slots := 0, locals := 0 } : Room)) (fun a U => a = #[(.ref o1), (.long q1)] ∧ Z.Warmed39 U.vm ∧ U.heap = h0) (fun _ _ _ _ _ => True) (fun _ U o U' => ∃ v L, o = .returned v ∧ Q_own_ilyb Z o1 q1 h0 n0 v U'.heap L ∧ FrameEnd U o U' L ({ frames := 0, cells := 0, slots := 0, locals := 0 } : Room).cells ({ frames := 0, cells := 0, slots := 0, locals := 0 } : Room).slots) := by
  refine MetFree.of_bodySF (plainFor_of_name own_pn_java_time_chrono_IsoChronology) hisR ?_
  intro p e s m args below meth c s₁ Bd hml0 hP hK
  obtain ⟨rfl, hZ, hh⟩ := hP
  have hx := Bd.exec
  have hby := Bd.bytes
  have hml : c.maxLocals = 3 := hml0
  have hown : s.vm.findClass "java/time/chrono/IsoChronology" = some m.cls := findClass_of_methodNamed Bd.named
  have hnm := (name_of_methodNamed Bd.named Bd.method).1
  have hlk : meth.locks = false := BodyLoose.notSynchronized Bd
  have X0 : Stand p l e ({ frames := 0, cells := 0, slots := 0, locals := 0 } : Room) s m #[(.ref o1), (.long q1)] below meth c s₁ [] 0 0 := Stand.of_body Bd
  have e0 : s₁.heap = h0 := by rw [← hh, Bd.state]; rfl
  have N0 := Fr.nil n0
  show own_Go p e below #[(.ref o1), (.long q1)] s (fun _ U o U' => ∃ v L, o = .returned v ∧ Q_own_ilyb Z o1 q1 h0 n0 v U'.heap L ∧ FrameEnd U o U' L ({ frames := 0, cells := 0, slots := 0, locals := 0 } : Room).cells ({ frames := 0, cells := 0, slots := 0, locals := 0 } : Room).slots) (s₁.setTop (entryFrame m #[(.ref o1), (.long q1)] 3))
  refine own_st (V := s₁.setTop (mkF m 0 #[.val (.ref o1), .val (.long q1), .second] [])) (fun t k => castTop (by first | (simp [entryFrame, mkF, argsToLocals, Value.category]; done) | rfl) k) ?_
  refine own_st (V := s₁.setTop (mkF m 1 #[.val (.ref o1), .val (.long q1), .second] [(.long q1)])) (fun t k => XS.lloadN X0.here hx rfl (hb hby own_d23_0) rfl k) ?_
  refine own_st (V := s₁.setTop (mkF m 4 #[.val (.ref o1), .val (.long q1), .second] [(.long (3 : Int64)), (.long q1)])) (fun t k => X0.ldc2Long hx hown (mvT hZ (hw _ (List.mem_of_getElem? (i := 159) rfl))) (g := (mkF m 1 #[.val (.ref o1), .val (.long q1), .second] [(.long q1)])) rfl (hb hby own_d23_1) t k) ?_
  refine own_st (V := s₁.setTop (mkF m 5 #[.val (.ref o1), .val (.long q1), .second] [(.long (q1 &&& (3 : Int64)))])) (fun t k => XS.land X0.here hx rfl (hb hby own_d23_4) rfl k) ?_
  refine own_st (V := s₁.setTop (mkF m 6 #[.val (.ref o1), .val (.long q1), .second] [(.long (0 : Int64)), (.long (q1 &&& (3 : Int64)))])) (fun t k => XS.lconst X0.here hx rfl (hb hby own_d23_5) k) ?_
  refine own_st (V := s₁.setTop (mkF m 7 #[.val (.ref o1), .val (.long q1), .second] [(.int (lcmpW (q1 &&& (3 : Int64)) (0 : Int64)))])) (fun t k => XS.lcmp X0.here hx rfl (hb hby own_d23_6) rfl k) ?_
  refine own_st (V := s₁.setTop (mkF m 10 #[.val (.ref o1), .val (.long q1), .second] [])) (fun t k => XS.ifNo X0.here hx rfl (hb hby own_d23_7) rfl ((if0 _ _).trans (teq (own_eq1 (by have z : (0 : Int64).toInt = 0 := (by decide); have e := c_maskL q1 3 2 (by decide) (by decide); omega))).2) k) ?_
  refine own_st (V := s₁.setTop (mkF m 11 #[.val (.ref o1), .val (.long q1), .second] [(.long q1)])) (fun t k => XS.lloadN X0.here hx rfl (hb hby own_d23_10) rfl k) ?_
  refine own_st (V := s₁.setTop (mkF m 14 #[.val (.ref o1), .val (.long q1), .second] [(.long (100 : Int64)), (.long q1)])) (fun t k => X0.ldc2Long hx hown (mvT hZ (hw _ (List.mem_of_getElem? (i := 172) rfl))) (g := (mkF m 11 #[.val (.ref o1), .val (.long q1), .second] [(.long q1)])) rfl (hb hby own_d23_11) t k) ?_
  refine own_st (V := s₁.setTop (mkF m 15 #[.val (.ref o1), .val (.long q1), .second] [(.long (q1 - (q1 / (100 : Int64)) * (100 : Int64)))])) (fun t k => XS.lrem X0.here hx rfl (hb hby own_d23_14) rfl (by decide) k) ?_
  refine own_st (V := s₁.setTop (mkF m 16 #[.val (.ref o1), .val (.long q1), .second] [(.long (0 : Int64)), (.long (q1 - (q1 / (100 : Int64)) * (100 : Int64)))])) (fun t k => XS.lconst X0.here hx rfl (hb hby own_d23_15) k) ?_
  refine own_st (V := s₁.setTop (mkF m 17 #[.val (.ref o1), .val (.long q1), .second] [(.int (lcmpW (q1 - (q1 / (100 : Int64)) * (100 : Int64)) (0 : Int64)))])) (fun t k => XS.lcmp X0.here hx rfl (hb hby own_d23_16) rfl k) ?_
  refine own_st (V := s₁.setTop (mkF m 30 #[.val (.ref o1), .val (.long q1), .second] [])) (fun t k => XS.ifYes X0.here hx rfl (pc0 := 17) (pc' := 30) rfl (hb hby own_d23_17) rfl ((if0 _ _).trans (feq (own_eq0 (by have z : (0 : Int64).toInt = 0 := (by decide); have e := (c_lrem q1 100 100 (by decide)).1 (by omega); omega))).2) (by decide) (by decide) k) ?_
  refine own_st (V := s₁.setTop (mkF m 31 #[.val (.ref o1), .val (.long q1), .second] [(.int (1 : Int32))])) (fun t k => XS.iconst X0.here hx rfl (hb hby own_d23_30) k) ?_
  refine own_st (V := s₁.setTop (mkF m 35 #[.val (.ref o1), .val (.long q1), .second] [(.int (1 : Int32))])) (fun t k => XS.goto X0.here hx rfl (pc0 := 31) (pc' := 35) rfl (hb hby own_d23_31) (by decide) (by decide) k) ?_
  exact own_ret X0 hx hlk Bd.returns (by decide +kernel) (Or.inl ⟨rfl, by simp, _, rfl⟩) (hb hby own_d23_35) (by decide) (by decide) (by show Q_own_ilyb Z o1 q1 h0 n0 _ s₁.heap _; rw [e0]; exact ⟨rfl, N0, rfl⟩)
def Q_own_ilyc (Z : State) (o1 : Addr) (q1 : Int64) (h0 : Heap) (n0 : Nat) (v : Option Value) (h : Heap) (L : List Loc) : Prop := v = some (.int (1 : Int32)) ∧ Fr n0 L ∧ h = h0
theorem own_d23_20 : decode jdk_2369_method_18_code 20 = .ok (.lload_n 1, 1) := by decide +kernel
theorem own_d23_21 : decode jdk_2369_method_18_code 21 = .ok (.ldc2_w 127, 3) := by decide +kernel
theorem own_d23_24 : decode jdk_2369_method_18_code 24 = .ok (.lrem, 1) := by decide +kernel
theorem own_d23_25 : decode jdk_2369_method_18_code 25 = .ok (.lconst 0, 1) := by decide +kernel
theorem own_d23_26 : decode jdk_2369_method_18_code 26 = .ok (.lcmp, 1) := by decide +kernel
theorem own_d23_27 : decode jdk_2369_method_18_code 27 = .ok (.ifCond .ne 7, 3) := by decide +kernel
set_option maxRecDepth 65536 in
set_option maxHeartbeats 40000000 in
theorem own_ilyc (l : Launch) (Z : State) (a0 : Array Value) (hw : ∀ d ∈ tables_1, d.before a0 Z = true) (ws : List Jvm.Cond) (o1 : Addr) (q1 : Int64) (h0 : Heap) (n0 : Nat) (Z0 : n0 ≤ h0.size) (h0' : 0 ≤ q1.toInt) (hl : q1.toInt % 4 = 0) (hl2 : q1.toInt % 100 = 0) (hl3 : q1.toInt % 400 = 0) :
    MetFree l (⟨"java/time/chrono/IsoChronology", "isLeapYear", "(J)Z"⟩ : MethodName) (head1 (Jvm.Cond.code (⟨"java/time/chrono/IsoChronology", "isLeapYear", "(J)Z"⟩ : MethodName) jdk_2369_method_18_code 3 (some .boolean) :: ws) ({ frames := 0, cells := 0, slots := 0, locals := 0 } : Room)) (fun a U => a = #[(.ref o1), (.long q1)] ∧ Z.Warmed39 U.vm ∧ U.heap = h0) (fun _ _ _ _ _ => True) (fun _ U o U' => ∃ v L, o = .returned v ∧ Q_own_ilyc Z o1 q1 h0 n0 v U'.heap L ∧ FrameEnd U o U' L ({ frames := 0, cells := 0, slots := 0, locals := 0 } : Room).cells ({ frames := 0, cells := 0, slots := 0, locals := 0 } : Room).slots) := by
  refine MetFree.of_bodySF (plainFor_of_name own_pn_java_time_chrono_IsoChronology) hisR ?_
  intro p e s m args below meth c s₁ Bd hml0 hP hK
  obtain ⟨rfl, hZ, hh⟩ := hP
  have hx := Bd.exec
  have hby := Bd.bytes
  have hml : c.maxLocals = 3 := hml0
  have hown : s.vm.findClass "java/time/chrono/IsoChronology" = some m.cls := findClass_of_methodNamed Bd.named
  have hnm := (name_of_methodNamed Bd.named Bd.method).1
  have hlk : meth.locks = false := BodyLoose.notSynchronized Bd
  have X0 : Stand p l e ({ frames := 0, cells := 0, slots := 0, locals := 0 } : Room) s m #[(.ref o1), (.long q1)] below meth c s₁ [] 0 0 := Stand.of_body Bd
  have e0 : s₁.heap = h0 := by rw [← hh, Bd.state]; rfl
  have N0 := Fr.nil n0
  show own_Go p e below #[(.ref o1), (.long q1)] s (fun _ U o U' => ∃ v L, o = .returned v ∧ Q_own_ilyc Z o1 q1 h0 n0 v U'.heap L ∧ FrameEnd U o U' L ({ frames := 0, cells := 0, slots := 0, locals := 0 } : Room).cells ({ frames := 0, cells := 0, slots := 0, locals := 0 } : Room).slots) (s₁.setTop (entryFrame m #[(.ref o1), (.long q1)] 3))
  refine own_st (V := s₁.setTop (mkF m 0 #[.val (.ref o1), .val (.long q1), .second] [])) (fun t k => castTop (by first | (simp [entryFrame, mkF, argsToLocals, Value.category]; done) | rfl) k) ?_
  refine own_st (V := s₁.setTop (mkF m 1 #[.val (.ref o1), .val (.long q1), .second] [(.long q1)])) (fun t k => XS.lloadN X0.here hx rfl (hb hby own_d23_0) rfl k) ?_
  refine own_st (V := s₁.setTop (mkF m 4 #[.val (.ref o1), .val (.long q1), .second] [(.long (3 : Int64)), (.long q1)])) (fun t k => X0.ldc2Long hx hown (mvT hZ (hw _ (List.mem_of_getElem? (i := 159) rfl))) (g := (mkF m 1 #[.val (.ref o1), .val (.long q1), .second] [(.long q1)])) rfl (hb hby own_d23_1) t k) ?_
  refine own_st (V := s₁.setTop (mkF m 5 #[.val (.ref o1), .val (.long q1), .second] [(.long (q1 &&& (3 : Int64)))])) (fun t k => XS.land X0.here hx rfl (hb hby own_d23_4) rfl k) ?_
  refine own_st (V := s₁.setTop (mkF m 6 #[.val (.ref o1), .val (.long q1), .second] [(.long (0 : Int64)), (.long (q1 &&& (3 : Int64)))])) (fun t k => XS.lconst X0.here hx rfl (hb hby own_d23_5) k) ?_
  refine own_st (V := s₁.setTop (mkF m 7 #[.val (.ref o1), .val (.long q1), .second] [(.int (lcmpW (q1 &&& (3 : Int64)) (0 : Int64)))])) (fun t k => XS.lcmp X0.here hx rfl (hb hby own_d23_6) rfl k) ?_
  refine own_st (V := s₁.setTop (mkF m 10 #[.val (.ref o1), .val (.long q1), .second] [])) (fun t k => XS.ifNo X0.here hx rfl (hb hby own_d23_7) rfl ((if0 _ _).trans (teq (own_eq1 (by have z : (0 : Int64).toInt = 0 := (by decide); have e := c_maskL q1 3 2 (by decide) (by decide); omega))).2) k) ?_
  refine own_st (V := s₁.setTop (mkF m 11 #[.val (.ref o1), .val (.long q1), .second] [(.long q1)])) (fun t k => XS.lloadN X0.here hx rfl (hb hby own_d23_10) rfl k) ?_
  refine own_st (V := s₁.setTop (mkF m 14 #[.val (.ref o1), .val (.long q1), .second] [(.long (100 : Int64)), (.long q1)])) (fun t k => X0.ldc2Long hx hown (mvT hZ (hw _ (List.mem_of_getElem? (i := 172) rfl))) (g := (mkF m 11 #[.val (.ref o1), .val (.long q1), .second] [(.long q1)])) rfl (hb hby own_d23_11) t k) ?_
  refine own_st (V := s₁.setTop (mkF m 15 #[.val (.ref o1), .val (.long q1), .second] [(.long (q1 - (q1 / (100 : Int64)) * (100 : Int64)))])) (fun t k => XS.lrem X0.here hx rfl (hb hby own_d23_14) rfl (by decide) k) ?_
  refine own_st (V := s₁.setTop (mkF m 16 #[.val (.ref o1), .val (.long q1), .second] [(.long (0 : Int64)), (.long (q1 - (q1 / (100 : Int64)) * (100 : Int64)))])) (fun t k => XS.lconst X0.here hx rfl (hb hby own_d23_15) k) ?_
  refine own_st (V := s₁.setTop (mkF m 17 #[.val (.ref o1), .val (.long q1), .second] [(.int (lcmpW (q1 - (q1 / (100 : Int64)) * (100 : Int64)) (0 : Int64)))])) (fun t k => XS.lcmp X0.here hx rfl (hb hby own_d23_16) rfl k) ?_
  refine own_st (V := s₁.setTop (mkF m 20 #[.val (.ref o1), .val (.long q1), .second] [])) (fun t k => XS.ifNo X0.here hx rfl (hb hby own_d23_17) rfl ((if0 _ _).trans (teq (own_eq1 (by have z : (0 : Int64).toInt = 0 := (by decide); have e := (c_lrem q1 100 100 (by decide)).1 (by omega); omega))).2) k) ?_
  refine own_st (V := s₁.setTop (mkF m 21 #[.val (.ref o1), .val (.long q1), .second] [(.long q1)])) (fun t k => XS.lloadN X0.here hx rfl (hb hby own_d23_20) rfl k) ?_
  refine own_st (V := s₁.setTop (mkF m 24 #[.val (.ref o1), .val (.long q1), .second] [(.long (400 : Int64)), (.long q1)])) (fun t k => X0.ldc2Long hx hown (mvT hZ (hw _ (List.mem_of_getElem? (i := 173) rfl))) (g := (mkF m 21 #[.val (.ref o1), .val (.long q1), .second] [(.long q1)])) rfl (hb hby own_d23_21) t k) ?_
  refine own_st (V := s₁.setTop (mkF m 25 #[.val (.ref o1), .val (.long q1), .second] [(.long (q1 - (q1 / (400 : Int64)) * (400 : Int64)))])) (fun t k => XS.lrem X0.here hx rfl (hb hby own_d23_24) rfl (by decide) k) ?_
  refine own_st (V := s₁.setTop (mkF m 26 #[.val (.ref o1), .val (.long q1), .second] [(.long (0 : Int64)), (.long (q1 - (q1 / (400 : Int64)) * (400 : Int64)))])) (fun t k => XS.lconst X0.here hx rfl (hb hby own_d23_25) k) ?_
  refine own_st (V := s₁.setTop (mkF m 27 #[.val (.ref o1), .val (.long q1), .second] [(.int (lcmpW (q1 - (q1 / (400 : Int64)) * (400 : Int64)) (0 : Int64)))])) (fun t k => XS.lcmp X0.here hx rfl (hb hby own_d23_26) rfl k) ?_
  refine own_st (V := s₁.setTop (mkF m 30 #[.val (.ref o1), .val (.long q1), .second] [])) (fun t k => XS.ifNo X0.here hx rfl (hb hby own_d23_27) rfl ((if0 _ _).trans (teq (own_eq1 (by have z : (0 : Int64).toInt = 0 := (by decide); have e := (c_lrem q1 400 400 (by decide)).1 (by omega); omega))).2) k) ?_
  refine own_st (V := s₁.setTop (mkF m 31 #[.val (.ref o1), .val (.long q1), .second] [(.int (1 : Int32))])) (fun t k => XS.iconst X0.here hx rfl (hb hby own_d23_30) k) ?_
  refine own_st (V := s₁.setTop (mkF m 35 #[.val (.ref o1), .val (.long q1), .second] [(.int (1 : Int32))])) (fun t k => XS.goto X0.here hx rfl (pc0 := 31) (pc' := 35) rfl (hb hby own_d23_31) (by decide) (by decide) k) ?_
  exact own_ret X0 hx hlk Bd.returns (by decide +kernel) (Or.inl ⟨rfl, by simp, _, rfl⟩) (hb hby own_d23_35) (by decide) (by decide) (by show Q_own_ilyc Z o1 q1 h0 n0 _ s₁.heap _; rw [e0]; exact ⟨rfl, N0, rfl⟩)
def Q_own_ilyd (Z : State) (o1 : Addr) (q1 : Int64) (h0 : Heap) (n0 : Nat) (v : Option Value) (h : Heap) (L : List Loc) : Prop := v = some (.int (0 : Int32)) ∧ Fr n0 L ∧ h = h0
set_option maxRecDepth 65536 in
set_option maxHeartbeats 40000000 in
theorem own_ilyd (l : Launch) (Z : State) (a0 : Array Value) (hw : ∀ d ∈ tables_1, d.before a0 Z = true) (ws : List Jvm.Cond) (o1 : Addr) (q1 : Int64) (h0 : Heap) (n0 : Nat) (Z0 : n0 ≤ h0.size) (h0' : 0 ≤ q1.toInt) (hl : q1.toInt % 4 = 0) (hl2 : q1.toInt % 100 = 0) (hl3 : ¬ (q1.toInt % 400 = 0)) :
    MetFree l (⟨"java/time/chrono/IsoChronology", "isLeapYear", "(J)Z"⟩ : MethodName) (head1 (Jvm.Cond.code (⟨"java/time/chrono/IsoChronology", "isLeapYear", "(J)Z"⟩ : MethodName) jdk_2369_method_18_code 3 (some .boolean) :: ws) ({ frames := 0, cells := 0, slots := 0, locals := 0 } : Room)) (fun a U => a = #[(.ref o1), (.long q1)] ∧ Z.Warmed39 U.vm ∧ U.heap = h0) (fun _ _ _ _ _ => True) (fun _ U o U' => ∃ v L, o = .returned v ∧ Q_own_ilyd Z o1 q1 h0 n0 v U'.heap L ∧ FrameEnd U o U' L ({ frames := 0, cells := 0, slots := 0, locals := 0 } : Room).cells ({ frames := 0, cells := 0, slots := 0, locals := 0 } : Room).slots) := by
  refine MetFree.of_bodySF (plainFor_of_name own_pn_java_time_chrono_IsoChronology) hisR ?_
  intro p e s m args below meth c s₁ Bd hml0 hP hK
  obtain ⟨rfl, hZ, hh⟩ := hP
  have hx := Bd.exec
  have hby := Bd.bytes
  have hml : c.maxLocals = 3 := hml0
  have hown : s.vm.findClass "java/time/chrono/IsoChronology" = some m.cls := findClass_of_methodNamed Bd.named
  have hnm := (name_of_methodNamed Bd.named Bd.method).1
  have hlk : meth.locks = false := BodyLoose.notSynchronized Bd
  have X0 : Stand p l e ({ frames := 0, cells := 0, slots := 0, locals := 0 } : Room) s m #[(.ref o1), (.long q1)] below meth c s₁ [] 0 0 := Stand.of_body Bd
  have e0 : s₁.heap = h0 := by rw [← hh, Bd.state]; rfl
  have N0 := Fr.nil n0
  show own_Go p e below #[(.ref o1), (.long q1)] s (fun _ U o U' => ∃ v L, o = .returned v ∧ Q_own_ilyd Z o1 q1 h0 n0 v U'.heap L ∧ FrameEnd U o U' L ({ frames := 0, cells := 0, slots := 0, locals := 0 } : Room).cells ({ frames := 0, cells := 0, slots := 0, locals := 0 } : Room).slots) (s₁.setTop (entryFrame m #[(.ref o1), (.long q1)] 3))
  refine own_st (V := s₁.setTop (mkF m 0 #[.val (.ref o1), .val (.long q1), .second] [])) (fun t k => castTop (by first | (simp [entryFrame, mkF, argsToLocals, Value.category]; done) | rfl) k) ?_
  refine own_st (V := s₁.setTop (mkF m 1 #[.val (.ref o1), .val (.long q1), .second] [(.long q1)])) (fun t k => XS.lloadN X0.here hx rfl (hb hby own_d23_0) rfl k) ?_
  refine own_st (V := s₁.setTop (mkF m 4 #[.val (.ref o1), .val (.long q1), .second] [(.long (3 : Int64)), (.long q1)])) (fun t k => X0.ldc2Long hx hown (mvT hZ (hw _ (List.mem_of_getElem? (i := 159) rfl))) (g := (mkF m 1 #[.val (.ref o1), .val (.long q1), .second] [(.long q1)])) rfl (hb hby own_d23_1) t k) ?_
  refine own_st (V := s₁.setTop (mkF m 5 #[.val (.ref o1), .val (.long q1), .second] [(.long (q1 &&& (3 : Int64)))])) (fun t k => XS.land X0.here hx rfl (hb hby own_d23_4) rfl k) ?_
  refine own_st (V := s₁.setTop (mkF m 6 #[.val (.ref o1), .val (.long q1), .second] [(.long (0 : Int64)), (.long (q1 &&& (3 : Int64)))])) (fun t k => XS.lconst X0.here hx rfl (hb hby own_d23_5) k) ?_
  refine own_st (V := s₁.setTop (mkF m 7 #[.val (.ref o1), .val (.long q1), .second] [(.int (lcmpW (q1 &&& (3 : Int64)) (0 : Int64)))])) (fun t k => XS.lcmp X0.here hx rfl (hb hby own_d23_6) rfl k) ?_
  refine own_st (V := s₁.setTop (mkF m 10 #[.val (.ref o1), .val (.long q1), .second] [])) (fun t k => XS.ifNo X0.here hx rfl (hb hby own_d23_7) rfl ((if0 _ _).trans (teq (own_eq1 (by have z : (0 : Int64).toInt = 0 := (by decide); have e := c_maskL q1 3 2 (by decide) (by decide); omega))).2) k) ?_
  refine own_st (V := s₁.setTop (mkF m 11 #[.val (.ref o1), .val (.long q1), .second] [(.long q1)])) (fun t k => XS.lloadN X0.here hx rfl (hb hby own_d23_10) rfl k) ?_
  refine own_st (V := s₁.setTop (mkF m 14 #[.val (.ref o1), .val (.long q1), .second] [(.long (100 : Int64)), (.long q1)])) (fun t k => X0.ldc2Long hx hown (mvT hZ (hw _ (List.mem_of_getElem? (i := 172) rfl))) (g := (mkF m 11 #[.val (.ref o1), .val (.long q1), .second] [(.long q1)])) rfl (hb hby own_d23_11) t k) ?_
  refine own_st (V := s₁.setTop (mkF m 15 #[.val (.ref o1), .val (.long q1), .second] [(.long (q1 - (q1 / (100 : Int64)) * (100 : Int64)))])) (fun t k => XS.lrem X0.here hx rfl (hb hby own_d23_14) rfl (by decide) k) ?_
  refine own_st (V := s₁.setTop (mkF m 16 #[.val (.ref o1), .val (.long q1), .second] [(.long (0 : Int64)), (.long (q1 - (q1 / (100 : Int64)) * (100 : Int64)))])) (fun t k => XS.lconst X0.here hx rfl (hb hby own_d23_15) k) ?_
  refine own_st (V := s₁.setTop (mkF m 17 #[.val (.ref o1), .val (.long q1), .second] [(.int (lcmpW (q1 - (q1 / (100 : Int64)) * (100 : Int64)) (0 : Int64)))])) (fun t k => XS.lcmp X0.here hx rfl (hb hby own_d23_16) rfl k) ?_
  refine own_st (V := s₁.setTop (mkF m 20 #[.val (.ref o1), .val (.long q1), .second] [])) (fun t k => XS.ifNo X0.here hx rfl (hb hby own_d23_17) rfl ((if0 _ _).trans (teq (own_eq1 (by have z : (0 : Int64).toInt = 0 := (by decide); have e := (c_lrem q1 100 100 (by decide)).1 (by omega); omega))).2) k) ?_
  refine own_st (V := s₁.setTop (mkF m 21 #[.val (.ref o1), .val (.long q1), .second] [(.long q1)])) (fun t k => XS.lloadN X0.here hx rfl (hb hby own_d23_20) rfl k) ?_
  refine own_st (V := s₁.setTop (mkF m 24 #[.val (.ref o1), .val (.long q1), .second] [(.long (400 : Int64)), (.long q1)])) (fun t k => X0.ldc2Long hx hown (mvT hZ (hw _ (List.mem_of_getElem? (i := 173) rfl))) (g := (mkF m 21 #[.val (.ref o1), .val (.long q1), .second] [(.long q1)])) rfl (hb hby own_d23_21) t k) ?_
  refine own_st (V := s₁.setTop (mkF m 25 #[.val (.ref o1), .val (.long q1), .second] [(.long (q1 - (q1 / (400 : Int64)) * (400 : Int64)))])) (fun t k => XS.lrem X0.here hx rfl (hb hby own_d23_24) rfl (by decide) k) ?_
  refine own_st (V := s₁.setTop (mkF m 26 #[.val (.ref o1), .val (.long q1), .second] [(.long (0 : Int64)), (.long (q1 - (q1 / (400 : Int64)) * (400 : Int64)))])) (fun t k => XS.lconst X0.here hx rfl (hb hby own_d23_25) k) ?_
  refine own_st (V := s₁.setTop (mkF m 27 #[.val (.ref o1), .val (.long q1), .second] [(.int (lcmpW (q1 - (q1 / (400 : Int64)) * (400 : Int64)) (0 : Int64)))])) (fun t k => XS.lcmp X0.here hx rfl (hb hby own_d23_26) rfl k) ?_
  refine own_st (V := s₁.setTop (mkF m 34 #[.val (.ref o1), .val (.long q1), .second] [])) (fun t k => XS.ifYes X0.here hx rfl (pc0 := 27) (pc' := 34) rfl (hb hby own_d23_27) rfl ((if0 _ _).trans (feq (own_eq0 (by have z : (0 : Int64).toInt = 0 := (by decide); have e := (c_lrem q1 400 400 (by decide)).1 (by omega); omega))).2) (by decide) (by decide) k) ?_
  refine own_st (V := s₁.setTop (mkF m 35 #[.val (.ref o1), .val (.long q1), .second] [(.int (0 : Int32))])) (fun t k => XS.iconst X0.here hx rfl (hb hby own_d23_34) k) ?_
  exact own_ret X0 hx hlk Bd.returns (by decide +kernel) (Or.inl ⟨rfl, by simp, _, rfl⟩) (hb hby own_d23_35) (by decide) (by decide) (by show Q_own_ilyd Z o1 q1 h0 n0 _ s₁.heap _; rw [e0]; exact ⟨rfl, N0, rfl⟩)
def Q_own_ily1 (Z : State) (o1 : Addr) (q1 : Int64) (h0 : Heap) (n0 : Nat) (v : Option Value) (h : Heap) (L : List Loc) : Prop := v = some (.int (1 : Int32)) ∧ Fr n0 L ∧ h = h0
theorem own_ily1 (l : Launch) (Z : State) (a0 : Array Value) (hw : ∀ d ∈ tables_1, d.before a0 Z = true) (ws : List Jvm.Cond) (o1 : Addr) (q1 : Int64) (h0 : Heap) (n0 : Nat) (Z0 : n0 ≤ h0.size) (h0' : 0 ≤ q1.toInt) (hl : (q1.toInt % 4 = 0 ∧ (¬ (q1.toInt % 100 = 0) ∨ q1.toInt % 400 = 0))) :
    MetFree l (⟨"java/time/chrono/IsoChronology", "isLeapYear", "(J)Z"⟩ : MethodName) (head1 (Jvm.Cond.code (⟨"java/time/chrono/IsoChronology", "isLeapYear", "(J)Z"⟩ : MethodName) jdk_2369_method_18_code 3 (some .boolean) :: ws) ({ frames := 0, cells := 0, slots := 0, locals := 0 } : Room)) (fun a U => a = #[(.ref o1), (.long q1)] ∧ Z.Warmed39 U.vm ∧ U.heap = h0) (fun _ _ _ _ _ => True) (fun _ U o U' => ∃ v L, o = .returned v ∧ Q_own_ily1 Z o1 q1 h0 n0 v U'.heap L ∧ FrameEnd U o U' L ({ frames := 0, cells := 0, slots := 0, locals := 0 } : Room).cells ({ frames := 0, cells := 0, slots := 0, locals := 0 } : Room).slots) := by
  rcases hl with ⟨h4, h1 | h1⟩
  · exact own_ilyb l Z a0 hw ws o1 q1 h0 n0 Z0 h0' h4 h1
  · exact own_ilyc l Z a0 hw ws o1 q1 h0 n0 Z0 h0' h4 (by omega) h1
def Q_own_lly1 (Z : State) (o1 : Addr) (y : Int32) (cy ry cd rd ce re mm iso : Addr) (h0 : Heap) (n0 : Nat) (v : Option Value) (h : Heap) (L : List Loc) : Prop := v = some (.int (1 : Int32)) ∧ Fr n0 L ∧ h = h0
theorem own_d22_0 : decode jdk_2323_method_30_code 0 = .ok (.getstatic 70, 3) := by decide +kernel
theorem own_d22_3 : decode jdk_2323_method_30_code 3 = .ok (.aload_n 0, 1) := by decide +kernel
theorem own_d22_4 : decode jdk_2323_method_30_code 4 = .ok (.getfield 246, 3) := by decide +kernel
theorem own_d22_7 : decode jdk_2323_method_30_code 7 = .ok (.i2l, 1) := by decide +kernel
theorem own_d22_8 : decode jdk_2323_method_30_code 8 = .ok (.invokevirtual 76, 3) := by decide +kernel
theorem own_d22_11 : decode jdk_2323_method_30_code 11 = .ok (.ireturn, 1) := by decide +kernel
set_option maxRecDepth 65536 in
set_option maxHeartbeats 40000000 in
theorem own_lly1 (l : Launch) (Z : State) (a0 : Array Value) (hw : ∀ d ∈ tables_1, d.before a0 Z = true) (ws : List Jvm.Cond) (o1 : Addr) (y : Int32) (cy ry cd rd ce re mm iso : Addr) (h0 : Heap) (n0 : Nat) (Z0 : n0 ≤ h0.size) (Od : Old Z n0 h0) (Wd : own_W Z cy ry cd rd ce re mm iso) (FY : Fld Z h0 o1 "java/time/LocalDate" "year" "I" (.int y)) (hy0 : 1583 ≤ y.toInt) (hy1 : y.toInt ≤ 999999999) (hl : (y.toInt % 4 = 0 ∧ (¬ (y.toInt % 100 = 0) ∨ y.toInt % 400 = 0))) :
    MetFree l (⟨"java/time/LocalDate", "isLeapYear", "()Z"⟩ : MethodName) (head1 (Jvm.Cond.code (⟨"java/time/LocalDate", "isLeapYear", "()Z"⟩ : MethodName) jdk_2323_method_30_code 1 (some .boolean) :: ws) ({ frames := 1, cells := 0, slots := 0, locals := 14 } : Room)) (fun a U => a = #[(.ref o1)] ∧ Z.Warmed39 U.vm ∧ U.heap = h0) (fun _ _ _ _ _ => True) (fun _ U o U' => ∃ v L, o = .returned v ∧ Q_own_lly1 Z o1 y cy ry cd rd ce re mm iso h0 n0 v U'.heap L ∧ FrameEnd U o U' L ({ frames := 1, cells := 0, slots := 0, locals := 14 } : Room).cells ({ frames := 1, cells := 0, slots := 0, locals := 14 } : Room).slots) := by
  refine MetFree.of_bodySF (plainFor_of_name own_pn_java_time_LocalDate) hisR ?_
  intro p e s m args below meth c s₁ Bd hml0 hP hK
  obtain ⟨rfl, hZ, hh⟩ := hP
  have hx := Bd.exec
  have hby := Bd.bytes
  have hml : c.maxLocals = 1 := hml0
  have hown : s.vm.findClass "java/time/LocalDate" = some m.cls := findClass_of_methodNamed Bd.named
  have hnm := (name_of_methodNamed Bd.named Bd.method).1
  have hlk : meth.locks = false := BodyLoose.notSynchronized Bd
  have X0 : Stand p l e ({ frames := 1, cells := 0, slots := 0, locals := 14 } : Room) s m #[(.ref o1)] below meth c s₁ [] 0 0 := Stand.of_body Bd
  have e0 : s₁.heap = h0 := by rw [← hh, Bd.state]; rfl
  have N0 := Fr.nil n0
  show own_Go p e below #[(.ref o1)] s (fun _ U o U' => ∃ v L, o = .returned v ∧ Q_own_lly1 Z o1 y cy ry cd rd ce re mm iso h0 n0 v U'.heap L ∧ FrameEnd U o U' L ({ frames := 1, cells := 0, slots := 0, locals := 14 } : Room).cells ({ frames := 1, cells := 0, slots := 0, locals := 14 } : Room).slots) (s₁.setTop (entryFrame m #[(.ref o1)] 1))
  refine own_st (V := s₁.setTop (mkF m 0 #[.val (.ref o1)] [])) (fun t k => castTop (by first | (simp [entryFrame, mkF, argsToLocals, Value.category]; done) | rfl) k) ?_
  obtain ⟨T53, X53, e53, st53⟩ := getS2 X0 hx hZ hown (host := "") (Or.inl (hw _ (List.mem_of_getElem? (i := 152) rfl))) Via.refl e0 (own_so Od Wd.2.2.2.2.2.2.2.2.2.2.2.2.2.2.2.2.2.2.2.2.2.1) (g := (mkF m 0 #[.val (.ref o1)] [])) rfl (hb hby own_d22_0)
  refine own_st (V := T53.setTop (mkF m 3 #[.val (.ref o1)] [(.ref iso)])) (fun t k => st53 _ k) ?_
  refine own_st (V := T53.setTop (mkF m 4 #[.val (.ref o1)] [(.ref o1), (.ref iso)])) (fun t k => XS.aloadN X53.here hx rfl (hb hby own_d22_3) rfl rfl k) ?_
  obtain ⟨T54, X54, e54, st54⟩ := getF X53 hx hZ hown (host := "") (Or.inl (hw _ (List.mem_of_getElem? (i := 90) rfl))) Via.refl e53 FY (g := (mkF m 4 #[.val (.ref o1)] [(.ref o1), (.ref iso)])) rfl rfl (hb hby own_d22_4)
  refine own_st (V := T54.setTop (mkF m 7 #[.val (.ref o1)] [(.int y), (.ref iso)])) (fun t k => st54 _ k) ?_
  refine own_st (V := T54.setTop (mkF m 8 #[.val (.ref o1)] [(.long (y.toInt64)), (.ref iso)])) (fun t k => XS.i2l X54.here hx rfl (hb hby own_d22_7) rfl k) ?_
  obtain ⟨cq55, kq55, q55a, q55b, q55c⟩ := isOf hZ e54 (own_eo Od Wd.2.2.2.2.2.2.2.2.2.2.2.2.2.2.2.2.2.2.2.2.2.2)
  obtain ⟨_, _, ⟨T55, L55, k55, n55⟩, -, X55, ⟨Lc55, hQ55, l55, y55, z55⟩, st55⟩ := X54.virtualBack hx (y := (⟨"java/time/chrono/IsoChronology", "isLeapYear", "(J)Z"⟩ : MethodName)) (z := (⟨"java/time/chrono/IsoChronology", "isLeapYear", "(J)Z"⟩ : MethodName)) hown (mvT hZ (hw _ (List.mem_of_getElem? (i := 154) rfl))) (mvT hZ (hw _ (List.mem_of_getElem? (i := 155) rfl))) (notFace_of_selects (args := #[]) (mvT hZ (hw _ (List.mem_of_getElem? (i := 157) rfl)))) (mvT hZ (hw _ (List.mem_of_getElem? (i := 157) rfl))) (mvT hZ (hw _ (List.mem_of_getElem? (i := 156) rfl))) (by decide) (backOf (W := 0) (own_ily1 l Z a0 hw [] iso (y.toInt64) h0 n0 Z0 (by rw [c_i2l]; omega) (by rw [c_i2l]; exact hl)) hZ (hw _ (List.mem_of_getElem? (i := 158) rfl)) (hw _ (List.mem_of_getElem? (i := 153) rfl)) (by decide) (by decide)) q55a q55c (g := (mkF m 8 #[.val (.ref o1)] [(.long (y.toInt64)), (.ref iso)])) rfl (by rw [hml]; rfl) (Steps.refl _) (argsL := [(.long (y.toInt64))]) (rest := []) (lenOf own_pd1 rfl) rfl (by show 2 * 0 + _ ≤ _; exact Nat.le_of_eq rfl) (hb hby own_d22_8) (fun _ _ => ⟨rfl, e54, (by decide : 0 + 0 ≤ _), (by decide : 0 + 0 ≤ _)⟩)
  dsimp only [Pt.U, Pt.locs, Pt.cells, Pt.slots] at X55 l55 y55 z55 st55 hQ55
  subst l55 y55 z55
  obtain ⟨rfl, N55q, e55⟩ := hQ55
  have N55 := Fr.app N0 N55q
  refine own_st (V := T55.setTop (mkF m 11 #[.val (.ref o1)] [(.int (1 : Int32))])) (fun t k => st55.trans k) ?_
  exact own_ret X55 hx hlk Bd.returns (by decide +kernel) (Or.inl ⟨rfl, by simp, _, rfl⟩) (hb hby own_d22_11) (by decide) (by decide) (by show Q_own_lly1 Z o1 y cy ry cd rd ce re mm iso h0 n0 _ T55.heap _; rw [e55]; exact ⟨rfl, N55, rfl⟩)
def Q_own_ily0 (Z : State) (o1 : Addr) (q1 : Int64) (h0 : Heap) (n0 : Nat) (v : Option Value) (h : Heap) (L : List Loc) : Prop := v = some (.int (0 : Int32)) ∧ Fr n0 L ∧ h = h0
theorem own_ily0 (l : Launch) (Z : State) (a0 : Array Value) (hw : ∀ d ∈ tables_1, d.before a0 Z = true) (ws : List Jvm.Cond) (o1 : Addr) (q1 : Int64) (h0 : Heap) (n0 : Nat) (Z0 : n0 ≤ h0.size) (h0' : 0 ≤ q1.toInt) (hl : ¬ (q1.toInt % 4 = 0 ∧ (¬ (q1.toInt % 100 = 0) ∨ q1.toInt % 400 = 0))) :
    MetFree l (⟨"java/time/chrono/IsoChronology", "isLeapYear", "(J)Z"⟩ : MethodName) (head1 (Jvm.Cond.code (⟨"java/time/chrono/IsoChronology", "isLeapYear", "(J)Z"⟩ : MethodName) jdk_2369_method_18_code 3 (some .boolean) :: ws) ({ frames := 0, cells := 0, slots := 0, locals := 0 } : Room)) (fun a U => a = #[(.ref o1), (.long q1)] ∧ Z.Warmed39 U.vm ∧ U.heap = h0) (fun _ _ _ _ _ => True) (fun _ U o U' => ∃ v L, o = .returned v ∧ Q_own_ily0 Z o1 q1 h0 n0 v U'.heap L ∧ FrameEnd U o U' L ({ frames := 0, cells := 0, slots := 0, locals := 0 } : Room).cells ({ frames := 0, cells := 0, slots := 0, locals := 0 } : Room).slots) := by
  by_cases h4 : q1.toInt % 4 = 0
  · exact own_ilyd l Z a0 hw ws o1 q1 h0 n0 Z0 h0' h4 (by omega) (by omega)
  · exact own_ilya l Z a0 hw ws o1 q1 h0 n0 Z0 h0' h4
def Q_own_lly0 (Z : State) (o1 : Addr) (y : Int32) (cy ry cd rd ce re mm iso : Addr) (h0 : Heap) (n0 : Nat) (v : Option Value) (h : Heap) (L : List Loc) : Prop := v = some (.int (0 : Int32)) ∧ Fr n0 L ∧ h = h0
set_option maxRecDepth 65536 in
set_option maxHeartbeats 40000000 in
theorem own_lly0 (l : Launch) (Z : State) (a0 : Array Value) (hw : ∀ d ∈ tables_1, d.before a0 Z = true) (ws : List Jvm.Cond) (o1 : Addr) (y : Int32) (cy ry cd rd ce re mm iso : Addr) (h0 : Heap) (n0 : Nat) (Z0 : n0 ≤ h0.size) (Od : Old Z n0 h0) (Wd : own_W Z cy ry cd rd ce re mm iso) (FY : Fld Z h0 o1 "java/time/LocalDate" "year" "I" (.int y)) (hy0 : 1583 ≤ y.toInt) (hy1 : y.toInt ≤ 999999999) (hl : ¬ (y.toInt % 4 = 0 ∧ (¬ (y.toInt % 100 = 0) ∨ y.toInt % 400 = 0))) :
    MetFree l (⟨"java/time/LocalDate", "isLeapYear", "()Z"⟩ : MethodName) (head1 (Jvm.Cond.code (⟨"java/time/LocalDate", "isLeapYear", "()Z"⟩ : MethodName) jdk_2323_method_30_code 1 (some .boolean) :: ws) ({ frames := 1, cells := 0, slots := 0, locals := 14 } : Room)) (fun a U => a = #[(.ref o1)] ∧ Z.Warmed39 U.vm ∧ U.heap = h0) (fun _ _ _ _ _ => True) (fun _ U o U' => ∃ v L, o = .returned v ∧ Q_own_lly0 Z o1 y cy ry cd rd ce re mm iso h0 n0 v U'.heap L ∧ FrameEnd U o U' L ({ frames := 1, cells := 0, slots := 0, locals := 14 } : Room).cells ({ frames := 1, cells := 0, slots := 0, locals := 14 } : Room).slots) := by
  refine MetFree.of_bodySF (plainFor_of_name own_pn_java_time_LocalDate) hisR ?_
  intro p e s m args below meth c s₁ Bd hml0 hP hK
  obtain ⟨rfl, hZ, hh⟩ := hP
  have hx := Bd.exec
  have hby := Bd.bytes
  have hml : c.maxLocals = 1 := hml0
  have hown : s.vm.findClass "java/time/LocalDate" = some m.cls := findClass_of_methodNamed Bd.named
  have hnm := (name_of_methodNamed Bd.named Bd.method).1
  have hlk : meth.locks = false := BodyLoose.notSynchronized Bd
  have X0 : Stand p l e ({ frames := 1, cells := 0, slots := 0, locals := 14 } : Room) s m #[(.ref o1)] below meth c s₁ [] 0 0 := Stand.of_body Bd
  have e0 : s₁.heap = h0 := by rw [← hh, Bd.state]; rfl
  have N0 := Fr.nil n0
  show own_Go p e below #[(.ref o1)] s (fun _ U o U' => ∃ v L, o = .returned v ∧ Q_own_lly0 Z o1 y cy ry cd rd ce re mm iso h0 n0 v U'.heap L ∧ FrameEnd U o U' L ({ frames := 1, cells := 0, slots := 0, locals := 14 } : Room).cells ({ frames := 1, cells := 0, slots := 0, locals := 14 } : Room).slots) (s₁.setTop (entryFrame m #[(.ref o1)] 1))
  refine own_st (V := s₁.setTop (mkF m 0 #[.val (.ref o1)] [])) (fun t k => castTop (by first | (simp [entryFrame, mkF, argsToLocals, Value.category]; done) | rfl) k) ?_
  obtain ⟨T56, X56, e56, st56⟩ := getS2 X0 hx hZ hown (host := "") (Or.inl (hw _ (List.mem_of_getElem? (i := 152) rfl))) Via.refl e0 (own_so Od Wd.2.2.2.2.2.2.2.2.2.2.2.2.2.2.2.2.2.2.2.2.2.1) (g := (mkF m 0 #[.val (.ref o1)] [])) rfl (hb hby own_d22_0)
  refine own_st (V := T56.setTop (mkF m 3 #[.val (.ref o1)] [(.ref iso)])) (fun t k => st56 _ k) ?_
  refine own_st (V := T56.setTop (mkF m 4 #[.val (.ref o1)] [(.ref o1), (.ref iso)])) (fun t k => XS.aloadN X56.here hx rfl (hb hby own_d22_3) rfl rfl k) ?_
  obtain ⟨T57, X57, e57, st57⟩ := getF X56 hx hZ hown (host := "") (Or.inl (hw _ (List.mem_of_getElem? (i := 90) rfl))) Via.refl e56 FY (g := (mkF m 4 #[.val (.ref o1)] [(.ref o1), (.ref iso)])) rfl rfl (hb hby own_d22_4)
  refine own_st (V := T57.setTop (mkF m 7 #[.val (.ref o1)] [(.int y), (.ref iso)])) (fun t k => st57 _ k) ?_
  refine own_st (V := T57.setTop (mkF m 8 #[.val (.ref o1)] [(.long (y.toInt64)), (.ref iso)])) (fun t k => XS.i2l X57.here hx rfl (hb hby own_d22_7) rfl k) ?_
  obtain ⟨cq58, kq58, q58a, q58b, q58c⟩ := isOf hZ e57 (own_eo Od Wd.2.2.2.2.2.2.2.2.2.2.2.2.2.2.2.2.2.2.2.2.2.2)
  obtain ⟨_, _, ⟨T58, L58, k58, n58⟩, -, X58, ⟨Lc58, hQ58, l58, y58, z58⟩, st58⟩ := X57.virtualBack hx (y := (⟨"java/time/chrono/IsoChronology", "isLeapYear", "(J)Z"⟩ : MethodName)) (z := (⟨"java/time/chrono/IsoChronology", "isLeapYear", "(J)Z"⟩ : MethodName)) hown (mvT hZ (hw _ (List.mem_of_getElem? (i := 154) rfl))) (mvT hZ (hw _ (List.mem_of_getElem? (i := 155) rfl))) (notFace_of_selects (args := #[]) (mvT hZ (hw _ (List.mem_of_getElem? (i := 157) rfl)))) (mvT hZ (hw _ (List.mem_of_getElem? (i := 157) rfl))) (mvT hZ (hw _ (List.mem_of_getElem? (i := 156) rfl))) (by decide) (backOf (W := 0) (own_ily0 l Z a0 hw [] iso (y.toInt64) h0 n0 Z0 (by rw [c_i2l]; omega) (by rw [c_i2l]; exact hl)) hZ (hw _ (List.mem_of_getElem? (i := 158) rfl)) (hw _ (List.mem_of_getElem? (i := 153) rfl)) (by decide) (by decide)) q58a q58c (g := (mkF m 8 #[.val (.ref o1)] [(.long (y.toInt64)), (.ref iso)])) rfl (by rw [hml]; rfl) (Steps.refl _) (argsL := [(.long (y.toInt64))]) (rest := []) (lenOf own_pd1 rfl) rfl (by show 2 * 0 + _ ≤ _; exact Nat.le_of_eq rfl) (hb hby own_d22_8) (fun _ _ => ⟨rfl, e57, (by decide : 0 + 0 ≤ _), (by decide : 0 + 0 ≤ _)⟩)
  dsimp only [Pt.U, Pt.locs, Pt.cells, Pt.slots] at X58 l58 y58 z58 st58 hQ58
  subst l58 y58 z58
  obtain ⟨rfl, N58q, e58⟩ := hQ58
  have N58 := Fr.app N0 N58q
  refine own_st (V := T58.setTop (mkF m 11 #[.val (.ref o1)] [(.int (0 : Int32))])) (fun t k => st58.trans k) ?_
  exact own_ret X58 hx hlk Bd.returns (by decide +kernel) (Or.inl ⟨rfl, by simp, _, rfl⟩) (hb hby own_d22_11) (by decide) (by decide) (by show Q_own_lly0 Z o1 y cy ry cd rd ce re mm iso h0 n0 _ T58.heap _; rw [e58]; exact ⟨rfl, N58, rfl⟩)
theorem own_e (y h : Int) (hy : 0 ≤ y) (hh : 0 ≤ h) (hh2 : h < 30) : (2 * (y % 4) + 4 * (y % 7) + 6 * h + (4 + y / 100 - y / 100 / 4) % 7) % 7 = (32 + 2 * (y / 100 % 4) + 2 * (y % 100 / 4) - h - y % 100 % 4) % 7 := by
  have g4 : y % 4 = y % 100 % 4 := by omega
  rw [g4]
  have hK : (2 * (y % 100 % 4) + 4 * (y % 7) + 6 * h + (4 + y / 100 - y / 100 / 4) % 7) - (32 + 2 * (y / 100 % 4) + 2 * (y % 100 / 4) - h - y % 100 % 4) = 7 * (y % 100 % 4 + 2 * (y % 100 / 4) + 229 * (y / 100 / 4) + 57 * (y / 100 % 4) - 4 * (y / 7) + h - 4 - (4 + y / 100 - y / 100 / 4) / 7) := by omega
  generalize (2 * (y % 100 % 4) + 4 * (y % 7) + 6 * h + (4 + y / 100 - y / 100 / 4) % 7) = A at hK ⊢
  generalize (32 + 2 * (y / 100 % 4) + 2 * (y % 100 / 4) - h - y % 100 % 4) = B at hK ⊢
  generalize (y % 100 % 4 + 2 * (y % 100 / 4) + 229 * (y / 100 / 4) + 57 * (y / 100 % 4) - 4 * (y / 7) + h - 4 - (4 + y / 100 - y / 100 / 4) / 7) = K at hK
  omega
theorem own_m (a M h l : Int) (ha : 0 ≤ a) (ha2 : a ≤ 18) (hM : 0 ≤ M) (hM2 : M < 30) (hh : h = (19 * a + M) % 30) (hl : 0 ≤ l) (hl2 : l ≤ 6) :
   ((h = 29 ∧ l = 6) → (a + 11 * h + 22 * l) / 451 = 1) ∧ ((h = 28 ∧ l = 6 ∧ (11 * M + 11) % 30 < 19) → (a + 11 * h + 22 * l) / 451 = 1) ∧ (¬ (h = 29 ∧ l = 6) → ¬ (h = 28 ∧ l = 6 ∧ (11 * M + 11) % 30 < 19) → (a + 11 * h + 22 * l) / 451 = 0) := by
  have e : h = 28 → ((11 * M + 11) % 30 < 19 ↔ 11 ≤ a) := by
    intro q
    obtain rfl | rfl | rfl | rfl | rfl | rfl | rfl | rfl | rfl | rfl | rfl | rfl | rfl | rfl | rfl | rfl | rfl | rfl | rfl : a = 0 ∨ a = 1 ∨ a = 2 ∨ a = 3 ∨ a = 4 ∨ a = 5 ∨ a = 6 ∨ a = 7 ∨ a = 8 ∨ a = 9 ∨ a = 10 ∨ a = 11 ∨ a = 12 ∨ a = 13 ∨ a = 14 ∨ a = 15 ∨ a = 16 ∨ a = 17 ∨ a = 18 := by omega
    all_goals omega
  refine ⟨by omega, by omega, fun n1 n2 => ?_⟩
  by_cases q : h = 28
  · have := e q; omega
  · omega
theorem own_ye (Y D : Int) (h0 : 0 ≤ Y) (h1 : 30 ≤ D) (h2 : D ≤ 31) : (400 * (365 * Y + Y / 4 - Y / 100 + Y / 400 + D - 1) + 591) / 146097 = Y := by
  have a : 146097 * Y ≤ 400 * (365 * Y + Y / 4 - Y / 100 + Y / 400 + D - 1) + 591 := by omega
  have b : 400 * (365 * Y + Y / 4 - Y / 100 + Y / 400 + D - 1) + 591 < 146097 * (Y + 1) := by omega
  omega
theorem own_tl (Y : Int) (h0 : 0 ≤ Y) : ((Y % 4 = 0 ∧ (¬ (Y % 100 = 0) ∨ Y % 400 = 0)) → (Y + 3) / 4 - (Y + 99) / 100 + (Y + 399) / 400 = Y / 4 - Y / 100 + Y / 400) ∧ (¬ (Y % 4 = 0 ∧ (¬ (Y % 100 = 0) ∨ Y % 400 = 0)) → (Y + 3) / 4 - (Y + 99) / 100 + (Y + 399) / 400 = Y / 4 - Y / 100 + Y / 400 + 1) := by
  constructor <;> intro h <;> omega

theorem own_tq1 {Y D A B C a b c T : Int} (z : T = (((((((0 : Int) + ((365 : Int) * Y)) + ((A - B) + C)) + ((((367 : Int) * (4 : Int)) - (362 : Int)) / (12 : Int))) + (D - (1 : Int))) - (1 : Int)) - (719528 : Int))) (q : A - B + C = a - b + c) : T = 365 * Y + a - b + c + 90 + D - 719528 := by omega
set_option maxRecDepth 65536 in
set_option maxHeartbeats 40000000 in
theorem own_tev1 (y d : Int32) (hy0 : 1583 ≤ y.toInt) (hy1 : y.toInt ≤ 999999999) (hd1 : 1 ≤ d.toInt) (hd2 : d.toInt ≤ 2) (hl : (y.toInt % 4 = 0 ∧ (¬ (y.toInt % 100 = 0) ∨ y.toInt % 400 = 0))) : ((((((((0 : Int64) + ((365 : Int64) * (y.toInt64))) + (((((y.toInt64) + (3 : Int64)) / (4 : Int64)) - (((y.toInt64) + (99 : Int64)) / (100 : Int64))) + (((y.toInt64) + (399 : Int64)) / (400 : Int64)))) + ((((367 : Int64) * ((4 : Int32).toInt64)) - (362 : Int64)) / (12 : Int64))) + ((d - (1 : Int32)).toInt64)) - (1 : Int64)) - (719528 : Int64))).toInt = 365 * y.toInt + y.toInt / 4 - y.toInt / 100 + y.toInt / 400 + 90 + d.toInt - 719528 := by
  have h0 : ((0 : Int64)).toInt = (0 : Int) ∧ (0 : Int) ≤ (0 : Int) ∧ (0 : Int) ≤ (0 : Int) := by decide
  have h1 : ((365 : Int64)).toInt = (365 : Int) ∧ (365 : Int) ≤ (365 : Int) ∧ (365 : Int) ≤ (365 : Int) := by decide
  have h2 : (y).toInt = y.toInt ∧ (1583 : Int) ≤ y.toInt ∧ y.toInt ≤ (999999999 : Int) := ⟨rfl, hy0, hy1⟩
  have h3 : ((y.toInt64)).toInt = y.toInt ∧ (1583 : Int) ≤ y.toInt ∧ y.toInt ≤ (999999999 : Int) := own_i2l h2
  have h4 : (((365 : Int64) * (y.toInt64))).toInt = ((365 : Int) * y.toInt) ∧ (577795 : Int) ≤ ((365 : Int) * y.toInt) ∧ ((365 : Int) * y.toInt) ≤ (364999999635 : Int) := own_lmulL (A := 0) h1.1 h3 (by decide) (by decide)
  have h5 : (((0 : Int64) + ((365 : Int64) * (y.toInt64)))).toInt = ((0 : Int) + ((365 : Int) * y.toInt)) ∧ (577795 : Int) ≤ ((0 : Int) + ((365 : Int) * y.toInt)) ∧ ((0 : Int) + ((365 : Int) * y.toInt)) ≤ (364999999635 : Int) := own_ladd h0 h4 (by decide)
  have h6 : ((3 : Int64)).toInt = (3 : Int) ∧ (3 : Int) ≤ (3 : Int) ∧ (3 : Int) ≤ (3 : Int) := by decide
  have h7 : (((y.toInt64) + (3 : Int64))).toInt = (y.toInt + (3 : Int)) ∧ (1586 : Int) ≤ (y.toInt + (3 : Int)) ∧ (y.toInt + (3 : Int)) ≤ (1000000002 : Int) := own_ladd h3 h6 (by decide)
  have h8 : ((4 : Int64)).toInt = (4 : Int) ∧ (4 : Int) ≤ (4 : Int) ∧ (4 : Int) ≤ (4 : Int) := by decide
  have h9 : ((((y.toInt64) + (3 : Int64)) / (4 : Int64))).toInt = ((y.toInt + (3 : Int)) / (4 : Int)) ∧ (396 : Int) ≤ ((y.toInt + (3 : Int)) / (4 : Int)) ∧ ((y.toInt + (3 : Int)) / (4 : Int)) ≤ (250000000 : Int) := own_ldiv h7 h8.1 (by decide)
  have h10 : ((99 : Int64)).toInt = (99 : Int) ∧ (99 : Int) ≤ (99 : Int) ∧ (99 : Int) ≤ (99 : Int) := by decide
  have h11 : (((y.toInt64) + (99 : Int64))).toInt = (y.toInt + (99 : Int)) ∧ (1682 : Int) ≤ (y.toInt + (99 : Int)) ∧ (y.toInt + (99 : Int)) ≤ (1000000098 : Int) := own_ladd h3 h10 (by decide)
  have h12 : ((100 : Int64)).toInt = (100 : Int) ∧ (100 : Int) ≤ (100 : Int) ∧ (100 : Int) ≤ (100 : Int) := by decide
  have h13 : ((((y.toInt64) + (99 : Int64)) / (100 : Int64))).toInt = ((y.toInt + (99 : Int)) / (100 : Int)) ∧ (16 : Int) ≤ ((y.toInt + (99 : Int)) / (100 : Int)) ∧ ((y.toInt + (99 : Int)) / (100 : Int)) ≤ (10000000 : Int) := own_ldiv h11 h12.1 (by decide)
  have h14 : (((((y.toInt64) + (3 : Int64)) / (4 : Int64)) - (((y.toInt64) + (99 : Int64)) / (100 : Int64)))).toInt = (((y.toInt + (3 : Int)) / (4 : Int)) - ((y.toInt + (99 : Int)) / (100 : Int))) ∧ (-9999604 : Int) ≤ (((y.toInt + (3 : Int)) / (4 : Int)) - ((y.toInt + (99 : Int)) / (100 : Int))) ∧ (((y.toInt + (3 : Int)) / (4 : Int)) - ((y.toInt + (99 : Int)) / (100 : Int))) ≤ (249999984 : Int) := own_lsub h9 h13 (by decide)
  have h15 : ((399 : Int64)).toInt = (399 : Int) ∧ (399 : Int) ≤ (399 : Int) ∧ (399 : Int) ≤ (399 : Int) := by decide
  have h16 : (((y.toInt64) + (399 : Int64))).toInt = (y.toInt + (399 : Int)) ∧ (1982 : Int) ≤ (y.toInt + (399 : Int)) ∧ (y.toInt + (399 : Int)) ≤ (1000000398 : Int) := own_ladd h3 h15 (by decide)
  have h17 : ((400 : Int64)).toInt = (400 : Int) ∧ (400 : Int) ≤ (400 : Int) ∧ (400 : Int) ≤ (400 : Int) := by decide
  have h18 : ((((y.toInt64) + (399 : Int64)) / (400 : Int64))).toInt = ((y.toInt + (399 : Int)) / (400 : Int)) ∧ (4 : Int) ≤ ((y.toInt + (399 : Int)) / (400 : Int)) ∧ ((y.toInt + (399 : Int)) / (400 : Int)) ≤ (2500000 : Int) := own_ldiv h16 h17.1 (by decide)
  have h19 : ((((((y.toInt64) + (3 : Int64)) / (4 : Int64)) - (((y.toInt64) + (99 : Int64)) / (100 : Int64))) + (((y.toInt64) + (399 : Int64)) / (400 : Int64)))).toInt = ((((y.toInt + (3 : Int)) / (4 : Int)) - ((y.toInt + (99 : Int)) / (100 : Int))) + ((y.toInt + (399 : Int)) / (400 : Int))) ∧ (-9999600 : Int) ≤ ((((y.toInt + (3 : Int)) / (4 : Int)) - ((y.toInt + (99 : Int)) / (100 : Int))) + ((y.toInt + (399 : Int)) / (400 : Int))) ∧ ((((y.toInt + (3 : Int)) / (4 : Int)) - ((y.toInt + (99 : Int)) / (100 : Int))) + ((y.toInt + (399 : Int)) / (400 : Int))) ≤ (252499984 : Int) := own_ladd h14 h18 (by decide)
  have h20 : ((((0 : Int64) + ((365 : Int64) * (y.toInt64))) + (((((y.toInt64) + (3 : Int64)) / (4 : Int64)) - (((y.toInt64) + (99 : Int64)) / (100 : Int64))) + (((y.toInt64) + (399 : Int64)) / (400 : Int64))))).toInt = (((0 : Int) + ((365 : Int) * y.toInt)) + ((((y.toInt + (3 : Int)) / (4 : Int)) - ((y.toInt + (99 : Int)) / (100 : Int))) + ((y.toInt + (399 : Int)) / (400 : Int)))) ∧ (-9421805 : Int) ≤ (((0 : Int) + ((365 : Int) * y.toInt)) + ((((y.toInt + (3 : Int)) / (4 : Int)) - ((y.toInt + (99 : Int)) / (100 : Int))) + ((y.toInt + (399 : Int)) / (400 : Int)))) ∧ (((0 : Int) + ((365 : Int) * y.toInt)) + ((((y.toInt + (3 : Int)) / (4 : Int)) - ((y.toInt + (99 : Int)) / (100 : Int))) + ((y.toInt + (399 : Int)) / (400 : Int)))) ≤ (365252499619 : Int) := own_ladd h5 h19 (by decide)
  have h21 : ((367 : Int64)).toInt = (367 : Int) ∧ (367 : Int) ≤ (367 : Int) ∧ (367 : Int) ≤ (367 : Int) := by decide
  have h22 : ((4 : Int32)).toInt = (4 : Int) ∧ (4 : Int) ≤ (4 : Int) ∧ (4 : Int) ≤ (4 : Int) := by decide
  have h23 : (((4 : Int32).toInt64)).toInt = (4 : Int) ∧ (4 : Int) ≤ (4 : Int) ∧ (4 : Int) ≤ (4 : Int) := own_i2l h22
  have h24 : (((367 : Int64) * ((4 : Int32).toInt64))).toInt = ((367 : Int) * (4 : Int)) ∧ (1468 : Int) ≤ ((367 : Int) * (4 : Int)) ∧ ((367 : Int) * (4 : Int)) ≤ (1468 : Int) := own_lmulL (A := 0) h21.1 h23 (by decide) (by decide)
  have h25 : ((362 : Int64)).toInt = (362 : Int) ∧ (362 : Int) ≤ (362 : Int) ∧ (362 : Int) ≤ (362 : Int) := by decide
  have h26 : ((((367 : Int64) * ((4 : Int32).toInt64)) - (362 : Int64))).toInt = (((367 : Int) * (4 : Int)) - (362 : Int)) ∧ (1106 : Int) ≤ (((367 : Int) * (4 : Int)) - (362 : Int)) ∧ (((367 : Int) * (4 : Int)) - (362 : Int)) ≤ (1106 : Int) := own_lsub h24 h25 (by decide)
  have h27 : ((12 : Int64)).toInt = (12 : Int) ∧ (12 : Int) ≤ (12 : Int) ∧ (12 : Int) ≤ (12 : Int) := by decide
  have h28 : (((((367 : Int64) * ((4 : Int32).toInt64)) - (362 : Int64)) / (12 : Int64))).toInt = ((((367 : Int) * (4 : Int)) - (362 : Int)) / (12 : Int)) ∧ (92 : Int) ≤ ((((367 : Int) * (4 : Int)) - (362 : Int)) / (12 : Int)) ∧ ((((367 : Int) * (4 : Int)) - (362 : Int)) / (12 : Int)) ≤ (92 : Int) := own_ldiv h26 h27.1 (by decide)
  have h29 : (((((0 : Int64) + ((365 : Int64) * (y.toInt64))) + (((((y.toInt64) + (3 : Int64)) / (4 : Int64)) - (((y.toInt64) + (99 : Int64)) / (100 : Int64))) + (((y.toInt64) + (399 : Int64)) / (400 : Int64)))) + ((((367 : Int64) * ((4 : Int32).toInt64)) - (362 : Int64)) / (12 : Int64)))).toInt = ((((0 : Int) + ((365 : Int) * y.toInt)) + ((((y.toInt + (3 : Int)) / (4 : Int)) - ((y.toInt + (99 : Int)) / (100 : Int))) + ((y.toInt + (399 : Int)) / (400 : Int)))) + ((((367 : Int) * (4 : Int)) - (362 : Int)) / (12 : Int))) ∧ (-9421713 : Int) ≤ ((((0 : Int) + ((365 : Int) * y.toInt)) + ((((y.toInt + (3 : Int)) / (4 : Int)) - ((y.toInt + (99 : Int)) / (100 : Int))) + ((y.toInt + (399 : Int)) / (400 : Int)))) + ((((367 : Int) * (4 : Int)) - (362 : Int)) / (12 : Int))) ∧ ((((0 : Int) + ((365 : Int) * y.toInt)) + ((((y.toInt + (3 : Int)) / (4 : Int)) - ((y.toInt + (99 : Int)) / (100 : Int))) + ((y.toInt + (399 : Int)) / (400 : Int)))) + ((((367 : Int) * (4 : Int)) - (362 : Int)) / (12 : Int))) ≤ (365252499711 : Int) := own_ladd h20 h28 (by decide)
  have h30 : (d).toInt = d.toInt ∧ (1 : Int) ≤ d.toInt ∧ d.toInt ≤ (2 : Int) := ⟨rfl, hd1, hd2⟩
  have h31 : ((1 : Int32)).toInt = (1 : Int) ∧ (1 : Int) ≤ (1 : Int) ∧ (1 : Int) ≤ (1 : Int) := by decide
  have h32 : ((d - (1 : Int32))).toInt = (d.toInt - (1 : Int)) ∧ (0 : Int) ≤ (d.toInt - (1 : Int)) ∧ (d.toInt - (1 : Int)) ≤ (1 : Int) := own_isub h30 h31 (by decide)
  have h33 : (((d - (1 : Int32)).toInt64)).toInt = (d.toInt - (1 : Int)) ∧ (0 : Int) ≤ (d.toInt - (1 : Int)) ∧ (d.toInt - (1 : Int)) ≤ (1 : Int) := own_i2l h32
  have h34 : ((((((0 : Int64) + ((365 : Int64) * (y.toInt64))) + (((((y.toInt64) + (3 : Int64)) / (4 : Int64)) - (((y.toInt64) + (99 : Int64)) / (100 : Int64))) + (((y.toInt64) + (399 : Int64)) / (400 : Int64)))) + ((((367 : Int64) * ((4 : Int32).toInt64)) - (362 : Int64)) / (12 : Int64))) + ((d - (1 : Int32)).toInt64))).toInt = (((((0 : Int) + ((365 : Int) * y.toInt)) + ((((y.toInt + (3 : Int)) / (4 : Int)) - ((y.toInt + (99 : Int)) / (100 : Int))) + ((y.toInt + (399 : Int)) / (400 : Int)))) + ((((367 : Int) * (4 : Int)) - (362 : Int)) / (12 : Int))) + (d.toInt - (1 : Int))) ∧ (-9421713 : Int) ≤ (((((0 : Int) + ((365 : Int) * y.toInt)) + ((((y.toInt + (3 : Int)) / (4 : Int)) - ((y.toInt + (99 : Int)) / (100 : Int))) + ((y.toInt + (399 : Int)) / (400 : Int)))) + ((((367 : Int) * (4 : Int)) - (362 : Int)) / (12 : Int))) + (d.toInt - (1 : Int))) ∧ (((((0 : Int) + ((365 : Int) * y.toInt)) + ((((y.toInt + (3 : Int)) / (4 : Int)) - ((y.toInt + (99 : Int)) / (100 : Int))) + ((y.toInt + (399 : Int)) / (400 : Int)))) + ((((367 : Int) * (4 : Int)) - (362 : Int)) / (12 : Int))) + (d.toInt - (1 : Int))) ≤ (365252499712 : Int) := own_ladd h29 h33 (by decide)
  have h35 : ((1 : Int64)).toInt = (1 : Int) ∧ (1 : Int) ≤ (1 : Int) ∧ (1 : Int) ≤ (1 : Int) := by decide
  have h36 : (((((((0 : Int64) + ((365 : Int64) * (y.toInt64))) + (((((y.toInt64) + (3 : Int64)) / (4 : Int64)) - (((y.toInt64) + (99 : Int64)) / (100 : Int64))) + (((y.toInt64) + (399 : Int64)) / (400 : Int64)))) + ((((367 : Int64) * ((4 : Int32).toInt64)) - (362 : Int64)) / (12 : Int64))) + ((d - (1 : Int32)).toInt64)) - (1 : Int64))).toInt = ((((((0 : Int) + ((365 : Int) * y.toInt)) + ((((y.toInt + (3 : Int)) / (4 : Int)) - ((y.toInt + (99 : Int)) / (100 : Int))) + ((y.toInt + (399 : Int)) / (400 : Int)))) + ((((367 : Int) * (4 : Int)) - (362 : Int)) / (12 : Int))) + (d.toInt - (1 : Int))) - (1 : Int)) ∧ (-9421714 : Int) ≤ ((((((0 : Int) + ((365 : Int) * y.toInt)) + ((((y.toInt + (3 : Int)) / (4 : Int)) - ((y.toInt + (99 : Int)) / (100 : Int))) + ((y.toInt + (399 : Int)) / (400 : Int)))) + ((((367 : Int) * (4 : Int)) - (362 : Int)) / (12 : Int))) + (d.toInt - (1 : Int))) - (1 : Int)) ∧ ((((((0 : Int) + ((365 : Int) * y.toInt)) + ((((y.toInt + (3 : Int)) / (4 : Int)) - ((y.toInt + (99 : Int)) / (100 : Int))) + ((y.toInt + (399 : Int)) / (400 : Int)))) + ((((367 : Int) * (4 : Int)) - (362 : Int)) / (12 : Int))) + (d.toInt - (1 : Int))) - (1 : Int)) ≤ (365252499711 : Int) := own_lsub h34 h35 (by decide)
  have h37 : ((719528 : Int64)).toInt = (719528 : Int) ∧ (719528 : Int) ≤ (719528 : Int) ∧ (719528 : Int) ≤ (719528 : Int) := by decide
  have h38 : ((((((((0 : Int64) + ((365 : Int64) * (y.toInt64))) + (((((y.toInt64) + (3 : Int64)) / (4 : Int64)) - (((y.toInt64) + (99 : Int64)) / (100 : Int64))) + (((y.toInt64) + (399 : Int64)) / (400 : Int64)))) + ((((367 : Int64) * ((4 : Int32).toInt64)) - (362 : Int64)) / (12 : Int64))) + ((d - (1 : Int32)).toInt64)) - (1 : Int64)) - (719528 : Int64))).toInt = (((((((0 : Int) + ((365 : Int) * y.toInt)) + ((((y.toInt + (3 : Int)) / (4 : Int)) - ((y.toInt + (99 : Int)) / (100 : Int))) + ((y.toInt + (399 : Int)) / (400 : Int)))) + ((((367 : Int) * (4 : Int)) - (362 : Int)) / (12 : Int))) + (d.toInt - (1 : Int))) - (1 : Int)) - (719528 : Int)) ∧ (-10141242 : Int) ≤ (((((((0 : Int) + ((365 : Int) * y.toInt)) + ((((y.toInt + (3 : Int)) / (4 : Int)) - ((y.toInt + (99 : Int)) / (100 : Int))) + ((y.toInt + (399 : Int)) / (400 : Int)))) + ((((367 : Int) * (4 : Int)) - (362 : Int)) / (12 : Int))) + (d.toInt - (1 : Int))) - (1 : Int)) - (719528 : Int)) ∧ (((((((0 : Int) + ((365 : Int) * y.toInt)) + ((((y.toInt + (3 : Int)) / (4 : Int)) - ((y.toInt + (99 : Int)) / (100 : Int))) + ((y.toInt + (399 : Int)) / (400 : Int)))) + ((((367 : Int) * (4 : Int)) - (362 : Int)) / (12 : Int))) + (d.toInt - (1 : Int))) - (1 : Int)) - (719528 : Int)) ≤ (365251780183 : Int) := own_lsub h36 h37 (by decide)
  exact own_tq1 h38.1 ((own_tl y.toInt (by omega)).1 hl)
def Q_own_te1 (Z : State) (o1 : Addr) (y d : Int32) (cy ry cd rd ce re mm iso : Addr) (h0 : Heap) (n0 : Nat) (v : Option Value) (h : Heap) (L : List Loc) : Prop := ∃ r : Int64, v = some (.long r) ∧ Fr n0 L ∧ h = h0 ∧ r.toInt = 365 * y.toInt + y.toInt / 4 - y.toInt / 100 + y.toInt / 400 + 90 + d.toInt - 719528
theorem own_d21_0 : decode jdk_2323_method_67_code 0 = .ok (.aload_n 0, 1) := by decide +kernel
theorem own_d21_1 : decode jdk_2323_method_67_code 1 = .ok (.getfield 246, 3) := by decide +kernel
theorem own_d21_4 : decode jdk_2323_method_67_code 4 = .ok (.i2l, 1) := by decide +kernel
theorem own_d21_5 : decode jdk_2323_method_67_code 5 = .ok (.lstore_n 1, 1) := by decide +kernel
theorem own_d21_6 : decode jdk_2323_method_67_code 6 = .ok (.aload_n 0, 1) := by decide +kernel
theorem own_d21_7 : decode jdk_2323_method_67_code 7 = .ok (.getfield 250, 3) := by decide +kernel
theorem own_d21_10 : decode jdk_2323_method_67_code 10 = .ok (.i2l, 1) := by decide +kernel
theorem own_d21_11 : decode jdk_2323_method_67_code 11 = .ok (.lstore_n 3, 1) := by decide +kernel
theorem own_d21_12 : decode jdk_2323_method_67_code 12 = .ok (.lconst 0, 1) := by decide +kernel
theorem own_d21_13 : decode jdk_2323_method_67_code 13 = .ok (.lstore 5, 2) := by decide +kernel
theorem own_d21_15 : decode jdk_2323_method_67_code 15 = .ok (.lload 5, 2) := by decide +kernel
theorem own_d21_17 : decode jdk_2323_method_67_code 17 = .ok (.ldc2_w 174, 3) := by decide +kernel
theorem own_d21_20 : decode jdk_2323_method_67_code 20 = .ok (.lload_n 1, 1) := by decide +kernel
theorem own_d21_21 : decode jdk_2323_method_67_code 21 = .ok (.lmul, 1) := by decide +kernel
theorem own_d21_22 : decode jdk_2323_method_67_code 22 = .ok (.ladd, 1) := by decide +kernel
theorem own_d21_23 : decode jdk_2323_method_67_code 23 = .ok (.lstore 5, 2) := by decide +kernel
theorem own_d21_25 : decode jdk_2323_method_67_code 25 = .ok (.lload_n 1, 1) := by decide +kernel
theorem own_d21_26 : decode jdk_2323_method_67_code 26 = .ok (.lconst 0, 1) := by decide +kernel
theorem own_d21_27 : decode jdk_2323_method_67_code 27 = .ok (.lcmp, 1) := by decide +kernel
theorem own_d21_28 : decode jdk_2323_method_67_code 28 = .ok (.ifCond .lt 40, 3) := by decide +kernel
theorem own_d21_31 : decode jdk_2323_method_67_code 31 = .ok (.lload 5, 2) := by decide +kernel
theorem own_d21_33 : decode jdk_2323_method_67_code 33 = .ok (.lload_n 1, 1) := by decide +kernel
theorem own_d21_34 : decode jdk_2323_method_67_code 34 = .ok (.ldc2_w 370, 3) := by decide +kernel
theorem own_d21_37 : decode jdk_2323_method_67_code 37 = .ok (.ladd, 1) := by decide +kernel
theorem own_d21_38 : decode jdk_2323_method_67_code 38 = .ok (.ldc2_w 176, 3) := by decide +kernel
theorem own_d21_41 : decode jdk_2323_method_67_code 41 = .ok (.ldiv, 1) := by decide +kernel
theorem own_d21_42 : decode jdk_2323_method_67_code 42 = .ok (.lload_n 1, 1) := by decide +kernel
theorem own_d21_43 : decode jdk_2323_method_67_code 43 = .ok (.ldc2_w 654, 3) := by decide +kernel
theorem own_d21_46 : decode jdk_2323_method_67_code 46 = .ok (.ladd, 1) := by decide +kernel
theorem own_d21_47 : decode jdk_2323_method_67_code 47 = .ok (.ldc2_w 178, 3) := by decide +kernel
theorem own_d21_50 : decode jdk_2323_method_67_code 50 = .ok (.ldiv, 1) := by decide +kernel
theorem own_d21_51 : decode jdk_2323_method_67_code 51 = .ok (.lsub, 1) := by decide +kernel
theorem own_d21_52 : decode jdk_2323_method_67_code 52 = .ok (.lload_n 1, 1) := by decide +kernel
theorem own_d21_53 : decode jdk_2323_method_67_code 53 = .ok (.ldc2_w 656, 3) := by decide +kernel
theorem own_d21_56 : decode jdk_2323_method_67_code 56 = .ok (.ladd, 1) := by decide +kernel
theorem own_d21_57 : decode jdk_2323_method_67_code 57 = .ok (.ldc2_w 170, 3) := by decide +kernel
theorem own_d21_60 : decode jdk_2323_method_67_code 60 = .ok (.ldiv, 1) := by decide +kernel
theorem own_d21_61 : decode jdk_2323_method_67_code 61 = .ok (.ladd, 1) := by decide +kernel
theorem own_d21_62 : decode jdk_2323_method_67_code 62 = .ok (.ladd, 1) := by decide +kernel
theorem own_d21_63 : decode jdk_2323_method_67_code 63 = .ok (.lstore 5, 2) := by decide +kernel
theorem own_d21_65 : decode jdk_2323_method_67_code 65 = .ok (.goto 25, 3) := by decide +kernel
theorem own_d21_90 : decode jdk_2323_method_67_code 90 = .ok (.lload 5, 2) := by decide +kernel
theorem own_d21_92 : decode jdk_2323_method_67_code 92 = .ok (.ldc2_w 664, 3) := by decide +kernel
theorem own_d21_95 : decode jdk_2323_method_67_code 95 = .ok (.lload_n 3, 1) := by decide +kernel
theorem own_d21_96 : decode jdk_2323_method_67_code 96 = .ok (.lmul, 1) := by decide +kernel
theorem own_d21_97 : decode jdk_2323_method_67_code 97 = .ok (.ldc2_w 666, 3) := by decide +kernel
theorem own_d21_100 : decode jdk_2323_method_67_code 100 = .ok (.lsub, 1) := by decide +kernel
theorem own_d21_101 : decode jdk_2323_method_67_code 101 = .ok (.ldc2_w 359, 3) := by decide +kernel
theorem own_d21_104 : decode jdk_2323_method_67_code 104 = .ok (.ldiv, 1) := by decide +kernel
theorem own_d21_105 : decode jdk_2323_method_67_code 105 = .ok (.ladd, 1) := by decide +kernel
theorem own_d21_106 : decode jdk_2323_method_67_code 106 = .ok (.lstore 5, 2) := by decide +kernel
theorem own_d21_108 : decode jdk_2323_method_67_code 108 = .ok (.lload 5, 2) := by decide +kernel
theorem own_d21_110 : decode jdk_2323_method_67_code 110 = .ok (.aload_n 0, 1) := by decide +kernel
theorem own_d21_111 : decode jdk_2323_method_67_code 111 = .ok (.getfield 253, 3) := by decide +kernel
theorem own_d21_114 : decode jdk_2323_method_67_code 114 = .ok (.iconst 1, 1) := by decide +kernel
theorem own_d21_115 : decode jdk_2323_method_67_code 115 = .ok (.isub, 1) := by decide +kernel
theorem own_d21_116 : decode jdk_2323_method_67_code 116 = .ok (.i2l, 1) := by decide +kernel
theorem own_d21_117 : decode jdk_2323_method_67_code 117 = .ok (.ladd, 1) := by decide +kernel
theorem own_d21_118 : decode jdk_2323_method_67_code 118 = .ok (.lstore 5, 2) := by decide +kernel
theorem own_d21_120 : decode jdk_2323_method_67_code 120 = .ok (.lload_n 3, 1) := by decide +kernel
theorem own_d21_121 : decode jdk_2323_method_67_code 121 = .ok (.ldc2_w 668, 3) := by decide +kernel
theorem own_d21_124 : decode jdk_2323_method_67_code 124 = .ok (.lcmp, 1) := by decide +kernel
theorem own_d21_125 : decode jdk_2323_method_67_code 125 = .ok (.ifCond .le 22, 3) := by decide +kernel
theorem own_d21_128 : decode jdk_2323_method_67_code 128 = .ok (.lload 5, 2) := by decide +kernel
theorem own_d21_130 : decode jdk_2323_method_67_code 130 = .ok (.lconst 1, 1) := by decide +kernel
theorem own_d21_131 : decode jdk_2323_method_67_code 131 = .ok (.lsub, 1) := by decide +kernel
theorem own_d21_132 : decode jdk_2323_method_67_code 132 = .ok (.lstore 5, 2) := by decide +kernel
theorem own_d21_134 : decode jdk_2323_method_67_code 134 = .ok (.aload_n 0, 1) := by decide +kernel
theorem own_d21_135 : decode jdk_2323_method_67_code 135 = .ok (.invokevirtual 297, 3) := by decide +kernel
theorem own_pd10 : parseMethodDescriptor "()Z" = some ⟨[], some .boolean⟩ := by decide +kernel
theorem own_d21_138 : decode jdk_2323_method_67_code 138 = .ok (.ifCond .ne 9, 3) := by decide +kernel
theorem own_d21_147 : decode jdk_2323_method_67_code 147 = .ok (.lload 5, 2) := by decide +kernel
theorem own_d21_149 : decode jdk_2323_method_67_code 149 = .ok (.ldc2_w 164, 3) := by decide +kernel
theorem own_d21_152 : decode jdk_2323_method_67_code 152 = .ok (.lsub, 1) := by decide +kernel
theorem own_d21_153 : decode jdk_2323_method_67_code 153 = .ok (.lreturn, 1) := by decide +kernel
set_option maxRecDepth 65536 in
set_option maxHeartbeats 40000000 in
theorem own_te1 (l : Launch) (Z : State) (a0 : Array Value) (hw : ∀ d ∈ tables_1, d.before a0 Z = true) (ws : List Jvm.Cond) (o1 : Addr) (y d : Int32) (cy ry cd rd ce re mm iso : Addr) (h0 : Heap) (n0 : Nat) (Z0 : n0 ≤ h0.size) (Od : Old Z n0 h0) (Wd : own_W Z cy ry cd rd ce re mm iso) (E1 : Exa Z h0 o1 "java/time/LocalDate") (FY : Fld Z h0 o1 "java/time/LocalDate" "year" "I" (.int y)) (FM : Fld Z h0 o1 "java/time/LocalDate" "month" "S" (.int (4 : Int32))) (FD : Fld Z h0 o1 "java/time/LocalDate" "day" "S" (.int d)) (hy0 : 1583 ≤ y.toInt) (hy1 : y.toInt ≤ 999999999) (hd1 : 1 ≤ d.toInt) (hd2 : d.toInt ≤ 2) (hl : (y.toInt % 4 = 0 ∧ (¬ (y.toInt % 100 = 0) ∨ y.toInt % 400 = 0))) :
    MetFree l (⟨"java/time/LocalDate", "toEpochDay", "()J"⟩ : MethodName) (head1 (Jvm.Cond.code (⟨"java/time/LocalDate", "toEpochDay", "()J"⟩ : MethodName) jdk_2323_method_67_code 7 (some .long) :: ws) ({ frames := 2, cells := 0, slots := 0, locals := 26 } : Room)) (fun a U => a = #[(.ref o1)] ∧ Z.Warmed39 U.vm ∧ U.heap = h0) (fun _ _ _ _ _ => True) (fun _ U o U' => ∃ v L, o = .returned v ∧ Q_own_te1 Z o1 y d cy ry cd rd ce re mm iso h0 n0 v U'.heap L ∧ FrameEnd U o U' L ({ frames := 2, cells := 0, slots := 0, locals := 26 } : Room).cells ({ frames := 2, cells := 0, slots := 0, locals := 26 } : Room).slots) := by
  refine MetFree.of_bodySF (plainFor_of_name own_pn_java_time_LocalDate) hisR ?_
  intro p e s m args below meth c s₁ Bd hml0 hP hK
  obtain ⟨rfl, hZ, hh⟩ := hP
  have hx := Bd.exec
  have hby := Bd.bytes
  have hml : c.maxLocals = 7 := hml0
  have hown : s.vm.findClass "java/time/LocalDate" = some m.cls := findClass_of_methodNamed Bd.named
  have hnm := (name_of_methodNamed Bd.named Bd.method).1
  have hlk : meth.locks = false := BodyLoose.notSynchronized Bd
  have X0 : Stand p l e ({ frames := 2, cells := 0, slots := 0, locals := 26 } : Room) s m #[(.ref o1)] below meth c s₁ [] 0 0 := Stand.of_body Bd
  have e0 : s₁.heap = h0 := by rw [← hh, Bd.state]; rfl
  have N0 := Fr.nil n0
  show own_Go p e below #[(.ref o1)] s (fun _ U o U' => ∃ v L, o = .returned v ∧ Q_own_te1 Z o1 y d cy ry cd rd ce re mm iso h0 n0 v U'.heap L ∧ FrameEnd U o U' L ({ frames := 2, cells := 0, slots := 0, locals := 26 } : Room).cells ({ frames := 2, cells := 0, slots := 0, locals := 26 } : Room).slots) (s₁.setTop (entryFrame m #[(.ref o1)] 7))
  refine own_st (V := s₁.setTop (mkF m 0 #[.val (.ref o1), .unset, .unset, .unset, .unset, .unset, .unset] [])) (fun t k => castTop (by first | (simp [entryFrame, mkF, argsToLocals, Value.category]; done) | rfl) k) ?_
  refine own_st (V := s₁.setTop (mkF m 1 #[.val (.ref o1), .unset, .unset, .unset, .unset, .unset, .unset] [(.ref o1)])) (fun t k => XS.aloadN X0.here hx rfl (hb hby own_d21_0) rfl rfl k) ?_
  obtain ⟨T59, X59, e59, st59⟩ := getF X0 hx hZ hown (host := "") (Or.inl (hw _ (List.mem_of_getElem? (i := 90) rfl))) Via.refl e0 FY (g := (mkF m 1 #[.val (.ref o1), .unset, .unset, .unset, .unset, .unset, .unset] [(.ref o1)])) rfl rfl (hb hby own_d21_1)
  refine own_st (V := T59.setTop (mkF m 4 #[.val (.ref o1), .unset, .unset, .unset, .unset, .unset, .unset] [(.int y)])) (fun t k => st59 _ k) ?_
  refine own_st (V := T59.setTop (mkF m 5 #[.val (.ref o1), .unset, .unset, .unset, .unset, .unset, .unset] [(.long (y.toInt64))])) (fun t k => XS.i2l X59.here hx rfl (hb hby own_d21_4) rfl k) ?_
  refine own_st (V := T59.setTop (mkF m 6 #[.val (.ref o1), .val (.long (y.toInt64)), .second, .unset, .unset, .unset, .unset] [])) (fun t k => XS.lstoreN X59.here hx rfl (hb hby own_d21_5) rfl (l' := #[.val (.ref o1), .val (.long (y.toInt64)), .second, .unset, .unset, .unset, .unset]) rfl k) ?_
  refine own_st (V := T59.setTop (mkF m 7 #[.val (.ref o1), .val (.long (y.toInt64)), .second, .unset, .unset, .unset, .unset] [(.ref o1)])) (fun t k => XS.aloadN X59.here hx rfl (hb hby own_d21_6) rfl rfl k) ?_
  obtain ⟨T60, X60, e60, st60⟩ := getF X59 hx hZ hown (host := "") (Or.inl (hw _ (List.mem_of_getElem? (i := 92) rfl))) Via.refl e59 FM (g := (mkF m 7 #[.val (.ref o1), .val (.long (y.toInt64)), .second, .unset, .unset, .unset, .unset] [(.ref o1)])) rfl rfl (hb hby own_d21_7)
  refine own_st (V := T60.setTop (mkF m 10 #[.val (.ref o1), .val (.long (y.toInt64)), .second, .unset, .unset, .unset, .unset] [(.int (4 : Int32))])) (fun t k => st60 _ k) ?_
  refine own_st (V := T60.setTop (mkF m 11 #[.val (.ref o1), .val (.long (y.toInt64)), .second, .unset, .unset, .unset, .unset] [(.long ((4 : Int32).toInt64))])) (fun t k => XS.i2l X60.here hx rfl (hb hby own_d21_10) rfl k) ?_
  refine own_st (V := T60.setTop (mkF m 12 #[.val (.ref o1), .val (.long (y.toInt64)), .second, .val (.long ((4 : Int32).toInt64)), .second, .unset, .unset] [])) (fun t k => XS.lstoreN X60.here hx rfl (hb hby own_d21_11) rfl (l' := #[.val (.ref o1), .val (.long (y.toInt64)), .second, .val (.long ((4 : Int32).toInt64)), .second, .unset, .unset]) rfl k) ?_
  refine own_st (V := T60.setTop (mkF m 13 #[.val (.ref o1), .val (.long (y.toInt64)), .second, .val (.long ((4 : Int32).toInt64)), .second, .unset, .unset] [(.long (0 : Int64))])) (fun t k => XS.lconst X60.here hx rfl (hb hby own_d21_12) k) ?_
  refine own_st (V := T60.setTop (mkF m 15 #[.val (.ref o1), .val (.long (y.toInt64)), .second, .val (.long ((4 : Int32).toInt64)), .second, .val (.long (0 : Int64)), .second] [])) (fun t k => XS.lstore X60.here hx rfl (hb hby own_d21_13) rfl (l' := #[.val (.ref o1), .val (.long (y.toInt64)), .second, .val (.long ((4 : Int32).toInt64)), .second, .val (.long (0 : Int64)), .second]) rfl k) ?_
  refine own_st (V := T60.setTop (mkF m 17 #[.val (.ref o1), .val (.long (y.toInt64)), .second, .val (.long ((4 : Int32).toInt64)), .second, .val (.long (0 : Int64)), .second] [(.long (0 : Int64))])) (fun t k => XS.lload X60.here hx rfl (hb hby own_d21_15) rfl k) ?_
  refine own_st (V := T60.setTop (mkF m 20 #[.val (.ref o1), .val (.long (y.toInt64)), .second, .val (.long ((4 : Int32).toInt64)), .second, .val (.long (0 : Int64)), .second] [(.long (365 : Int64)), (.long (0 : Int64))])) (fun t k => X60.ldc2Long hx hown (mvT hZ (hw _ (List.mem_of_getElem? (i := 136) rfl))) (g := (mkF m 17 #[.val (.ref o1), .val (.long (y.toInt64)), .second, .val (.long ((4 : Int32).toInt64)), .second, .val (.long (0 : Int64)), .second] [(.long (0 : Int64))])) rfl (hb hby own_d21_17) t k) ?_
  refine own_st (V := T60.setTop (mkF m 21 #[.val (.ref o1), .val (.long (y.toInt64)), .second, .val (.long ((4 : Int32).toInt64)), .second, .val (.long (0 : Int64)), .second] [(.long (y.toInt64)), (.long (365 : Int64)), (.long (0 : Int64))])) (fun t k => XS.lloadN X60.here hx rfl (hb hby own_d21_20) rfl k) ?_
  refine own_st (V := T60.setTop (mkF m 22 #[.val (.ref o1), .val (.long (y.toInt64)), .second, .val (.long ((4 : Int32).toInt64)), .second, .val (.long (0 : Int64)), .second] [(.long ((365 : Int64) * (y.toInt64))), (.long (0 : Int64))])) (fun t k => XS.lmul X60.here hx rfl (hb hby own_d21_21) rfl k) ?_
  refine own_st (V := T60.setTop (mkF m 23 #[.val (.ref o1), .val (.long (y.toInt64)), .second, .val (.long ((4 : Int32).toInt64)), .second, .val (.long (0 : Int64)), .second] [(.long ((0 : Int64) + ((365 : Int64) * (y.toInt64))))])) (fun t k => XS.ladd X60.here hx rfl (hb hby own_d21_22) rfl k) ?_
  refine own_st (V := T60.setTop (mkF m 25 #[.val (.ref o1), .val (.long (y.toInt64)), .second, .val (.long ((4 : Int32).toInt64)), .second, .val (.long ((0 : Int64) + ((365 : Int64) * (y.toInt64)))), .second] [])) (fun t k => XS.lstore X60.here hx rfl (hb hby own_d21_23) rfl (l' := #[.val (.ref o1), .val (.long (y.toInt64)), .second, .val (.long ((4 : Int32).toInt64)), .second, .val (.long ((0 : Int64) + ((365 : Int64) * (y.toInt64)))), .second]) rfl k) ?_
  refine own_st (V := T60.setTop (mkF m 26 #[.val (.ref o1), .val (.long (y.toInt64)), .second, .val (.long ((4 : Int32).toInt64)), .second, .val (.long ((0 : Int64) + ((365 : Int64) * (y.toInt64)))), .second] [(.long (y.toInt64))])) (fun t k => XS.lloadN X60.here hx rfl (hb hby own_d21_25) rfl k) ?_
  refine own_st (V := T60.setTop (mkF m 27 #[.val (.ref o1), .val (.long (y.toInt64)), .second, .val (.long ((4 : Int32).toInt64)), .second, .val (.long ((0 : Int64) + ((365 : Int64) * (y.toInt64)))), .second] [(.long (0 : Int64)), (.long (y.toInt64))])) (fun t k => XS.lconst X60.here hx rfl (hb hby own_d21_26) k) ?_
  refine own_st (V := T60.setTop (mkF m 28 #[.val (.ref o1), .val (.long (y.toInt64)), .second, .val (.long ((4 : Int32).toInt64)), .second, .val (.long ((0 : Int64) + ((365 : Int64) * (y.toInt64)))), .second] [(.int (lcmpW (y.toInt64) (0 : Int64)))])) (fun t k => XS.lcmp X60.here hx rfl (hb hby own_d21_27) rfl k) ?_
  refine own_st (V := T60.setTop (mkF m 31 #[.val (.ref o1), .val (.long (y.toInt64)), .second, .val (.long ((4 : Int32).toInt64)), .second, .val (.long ((0 : Int64) + ((365 : Int64) * (y.toInt64)))), .second] [])) (fun t k => XS.ifNo X60.here hx rfl (hb hby own_d21_28) rfl ((if0 _ _).trans (flt (own_lt0 (by have z : (0 : Int64).toInt = 0 := (by decide); rw [c_i2l]; omega))).1) k) ?_
  refine own_st (V := T60.setTop (mkF m 33 #[.val (.ref o1), .val (.long (y.toInt64)), .second, .val (.long ((4 : Int32).toInt64)), .second, .val (.long ((0 : Int64) + ((365 : Int64) * (y.toInt64)))), .second] [(.long ((0 : Int64) + ((365 : Int64) * (y.toInt64))))])) (fun t k => XS.lload X60.here hx rfl (hb hby own_d21_31) rfl k) ?_
  refine own_st (V := T60.setTop (mkF m 34 #[.val (.ref o1), .val (.long (y.toInt64)), .second, .val (.long ((4 : Int32).toInt64)), .second, .val (.long ((0 : Int64) + ((365 : Int64) * (y.toInt64)))), .second] [(.long (y.toInt64)), (.long ((0 : Int64) + ((365 : Int64) * (y.toInt64))))])) (fun t k => XS.lloadN X60.here hx rfl (hb hby own_d21_33) rfl k) ?_
  refine own_st (V := T60.setTop (mkF m 37 #[.val (.ref o1), .val (.long (y.toInt64)), .second, .val (.long ((4 : Int32).toInt64)), .second, .val (.long ((0 : Int64) + ((365 : Int64) * (y.toInt64)))), .second] [(.long (3 : Int64)), (.long (y.toInt64)), (.long ((0 : Int64) + ((365 : Int64) * (y.toInt64))))])) (fun t k => X60.ldc2Long hx hown (mvT hZ (hw _ (List.mem_of_getElem? (i := 137) rfl))) (g := (mkF m 34 #[.val (.ref o1), .val (.long (y.toInt64)), .second, .val (.long ((4 : Int32).toInt64)), .second, .val (.long ((0 : Int64) + ((365 : Int64) * (y.toInt64)))), .second] [(.long (y.toInt64)), (.long ((0 : Int64) + ((365 : Int64) * (y.toInt64))))])) rfl (hb hby own_d21_34) t k) ?_
  refine own_st (V := T60.setTop (mkF m 38 #[.val (.ref o1), .val (.long (y.toInt64)), .second, .val (.long ((4 : Int32).toInt64)), .second, .val (.long ((0 : Int64) + ((365 : Int64) * (y.toInt64)))), .second] [(.long ((y.toInt64) + (3 : Int64))), (.long ((0 : Int64) + ((365 : Int64) * (y.toInt64))))])) (fun t k => XS.ladd X60.here hx rfl (hb hby own_d21_37) rfl k) ?_
  refine own_st (V := T60.setTop (mkF m 41 #[.val (.ref o1), .val (.long (y.toInt64)), .second, .val (.long ((4 : Int32).toInt64)), .second, .val (.long ((0 : Int64) + ((365 : Int64) * (y.toInt64)))), .second] [(.long (4 : Int64)), (.long ((y.toInt64) + (3 : Int64))), (.long ((0 : Int64) + ((365 : Int64) * (y.toInt64))))])) (fun t k => X60.ldc2Long hx hown (mvT hZ (hw _ (List.mem_of_getElem? (i := 138) rfl))) (g := (mkF m 38 #[.val (.ref o1), .val (.long (y.toInt64)), .second, .val (.long ((4 : Int32).toInt64)), .second, .val (.long ((0 : Int64) + ((365 : Int64) * (y.toInt64)))), .second] [(.long ((y.toInt64) + (3 : Int64))), (.long ((0 : Int64) + ((365 : Int64) * (y.toInt64))))])) rfl (hb hby own_d21_38) t k) ?_
  refine own_st (V := T60.setTop (mkF m 42 #[.val (.ref o1), .val (.long (y.toInt64)), .second, .val (.long ((4 : Int32).toInt64)), .second, .val (.long ((0 : Int64) + ((365 : Int64) * (y.toInt64)))), .second] [(.long (((y.toInt64) + (3 : Int64)) / (4 : Int64))), (.long ((0 : Int64) + ((365 : Int64) * (y.toInt64))))])) (fun t k => XS.ldiv X60.here hx rfl (hb hby own_d21_41) rfl (by decide) k) ?_
  refine own_st (V := T60.setTop (mkF m 43 #[.val (.ref o1), .val (.long (y.toInt64)), .second, .val (.long ((4 : Int32).toInt64)), .second, .val (.long ((0 : Int64) + ((365 : Int64) * (y.toInt64)))), .second] [(.long (y.toInt64)), (.long (((y.toInt64) + (3 : Int64)) / (4 : Int64))), (.long ((0 : Int64) + ((365 : Int64) * (y.toInt64))))])) (fun t k => XS.lloadN X60.here hx rfl (hb hby own_d21_42) rfl k) ?_
  refine own_st (V := T60.setTop (mkF m 46 #[.val (.ref o1), .val (.long (y.toInt64)), .second, .val (.long ((4 : Int32).toInt64)), .second, .val (.long ((0 : Int64) + ((365 : Int64) * (y.toInt64)))), .second] [(.long (99 : Int64)), (.long (y.toInt64)), (.long (((y.toInt64) + (3 : Int64)) / (4 : Int64))), (.long ((0 : Int64) + ((365 : Int64) * (y.toInt64))))])) (fun t k => X60.ldc2Long hx hown (mvT hZ (hw _ (List.mem_of_getElem? (i := 139) rfl))) (g := (mkF m 43 #[.val (.ref o1), .val (.long (y.toInt64)), .second, .val (.long ((4 : Int32).toInt64)), .second, .val (.long ((0 : Int64) + ((365 : Int64) * (y.toInt64)))), .second] [(.long (y.toInt64)), (.long (((y.toInt64) + (3 : Int64)) / (4 : Int64))), (.long ((0 : Int64) + ((365 : Int64) * (y.toInt64))))])) rfl (hb hby own_d21_43) t k) ?_
  refine own_st (V := T60.setTop (mkF m 47 #[.val (.ref o1), .val (.long (y.toInt64)), .second, .val (.long ((4 : Int32).toInt64)), .second, .val (.long ((0 : Int64) + ((365 : Int64) * (y.toInt64)))), .second] [(.long ((y.toInt64) + (99 : Int64))), (.long (((y.toInt64) + (3 : Int64)) / (4 : Int64))), (.long ((0 : Int64) + ((365 : Int64) * (y.toInt64))))])) (fun t k => XS.ladd X60.here hx rfl (hb hby own_d21_46) rfl k) ?_
  refine own_st (V := T60.setTop (mkF m 50 #[.val (.ref o1), .val (.long (y.toInt64)), .second, .val (.long ((4 : Int32).toInt64)), .second, .val (.long ((0 : Int64) + ((365 : Int64) * (y.toInt64)))), .second] [(.long (100 : Int64)), (.long ((y.toInt64) + (99 : Int64))), (.long (((y.toInt64) + (3 : Int64)) / (4 : Int64))), (.long ((0 : Int64) + ((365 : Int64) * (y.toInt64))))])) (fun t k => X60.ldc2Long hx hown (mvT hZ (hw _ (List.mem_of_getElem? (i := 140) rfl))) (g := (mkF m 47 #[.val (.ref o1), .val (.long (y.toInt64)), .second, .val (.long ((4 : Int32).toInt64)), .second, .val (.long ((0 : Int64) + ((365 : Int64) * (y.toInt64)))), .second] [(.long ((y.toInt64) + (99 : Int64))), (.long (((y.toInt64) + (3 : Int64)) / (4 : Int64))), (.long ((0 : Int64) + ((365 : Int64) * (y.toInt64))))])) rfl (hb hby own_d21_47) t k) ?_
  refine own_st (V := T60.setTop (mkF m 51 #[.val (.ref o1), .val (.long (y.toInt64)), .second, .val (.long ((4 : Int32).toInt64)), .second, .val (.long ((0 : Int64) + ((365 : Int64) * (y.toInt64)))), .second] [(.long (((y.toInt64) + (99 : Int64)) / (100 : Int64))), (.long (((y.toInt64) + (3 : Int64)) / (4 : Int64))), (.long ((0 : Int64) + ((365 : Int64) * (y.toInt64))))])) (fun t k => XS.ldiv X60.here hx rfl (hb hby own_d21_50) rfl (by decide) k) ?_
  refine own_st (V := T60.setTop (mkF m 52 #[.val (.ref o1), .val (.long (y.toInt64)), .second, .val (.long ((4 : Int32).toInt64)), .second, .val (.long ((0 : Int64) + ((365 : Int64) * (y.toInt64)))), .second] [(.long ((((y.toInt64) + (3 : Int64)) / (4 : Int64)) - (((y.toInt64) + (99 : Int64)) / (100 : Int64)))), (.long ((0 : Int64) + ((365 : Int64) * (y.toInt64))))])) (fun t k => XS.lsub X60.here hx rfl (hb hby own_d21_51) rfl k) ?_
  refine own_st (V := T60.setTop (mkF m 53 #[.val (.ref o1), .val (.long (y.toInt64)), .second, .val (.long ((4 : Int32).toInt64)), .second, .val (.long ((0 : Int64) + ((365 : Int64) * (y.toInt64)))), .second] [(.long (y.toInt64)), (.long ((((y.toInt64) + (3 : Int64)) / (4 : Int64)) - (((y.toInt64) + (99 : Int64)) / (100 : Int64)))), (.long ((0 : Int64) + ((365 : Int64) * (y.toInt64))))])) (fun t k => XS.lloadN X60.here hx rfl (hb hby own_d21_52) rfl k) ?_
  refine own_st (V := T60.setTop (mkF m 56 #[.val (.ref o1), .val (.long (y.toInt64)), .second, .val (.long ((4 : Int32).toInt64)), .second, .val (.long ((0 : Int64) + ((365 : Int64) * (y.toInt64)))), .second] [(.long (399 : Int64)), (.long (y.toInt64)), (.long ((((y.toInt64) + (3 : Int64)) / (4 : Int64)) - (((y.toInt64) + (99 : Int64)) / (100 : Int64)))), (.long ((0 : Int64) + ((365 : Int64) * (y.toInt64))))])) (fun t k => X60.ldc2Long hx hown (mvT hZ (hw _ (List.mem_of_getElem? (i := 141) rfl))) (g := (mkF m 53 #[.val (.ref o1), .val (.long (y.toInt64)), .second, .val (.long ((4 : Int32).toInt64)), .second, .val (.long ((0 : Int64) + ((365 : Int64) * (y.toInt64)))), .second] [(.long (y.toInt64)), (.long ((((y.toInt64) + (3 : Int64)) / (4 : Int64)) - (((y.toInt64) + (99 : Int64)) / (100 : Int64)))), (.long ((0 : Int64) + ((365 : Int64) * (y.toInt64))))])) rfl (hb hby own_d21_53) t k) ?_
  refine own_st (V := T60.setTop (mkF m 57 #[.val (.ref o1), .val (.long (y.toInt64)), .second, .val (.long ((4 : Int32).toInt64)), .second, .val (.long ((0 : Int64) + ((365 : Int64) * (y.toInt64)))), .second] [(.long ((y.toInt64) + (399 : Int64))), (.long ((((y.toInt64) + (3 : Int64)) / (4 : Int64)) - (((y.toInt64) + (99 : Int64)) / (100 : Int64)))), (.long ((0 : Int64) + ((365 : Int64) * (y.toInt64))))])) (fun t k => XS.ladd X60.here hx rfl (hb hby own_d21_56) rfl k) ?_
  refine own_st (V := T60.setTop (mkF m 60 #[.val (.ref o1), .val (.long (y.toInt64)), .second, .val (.long ((4 : Int32).toInt64)), .second, .val (.long ((0 : Int64) + ((365 : Int64) * (y.toInt64)))), .second] [(.long (400 : Int64)), (.long ((y.toInt64) + (399 : Int64))), (.long ((((y.toInt64) + (3 : Int64)) / (4 : Int64)) - (((y.toInt64) + (99 : Int64)) / (100 : Int64)))), (.long ((0 : Int64) + ((365 : Int64) * (y.toInt64))))])) (fun t k => X60.ldc2Long hx hown (mvT hZ (hw _ (List.mem_of_getElem? (i := 142) rfl))) (g := (mkF m 57 #[.val (.ref o1), .val (.long (y.toInt64)), .second, .val (.long ((4 : Int32).toInt64)), .second, .val (.long ((0 : Int64) + ((365 : Int64) * (y.toInt64)))), .second] [(.long ((y.toInt64) + (399 : Int64))), (.long ((((y.toInt64) + (3 : Int64)) / (4 : Int64)) - (((y.toInt64) + (99 : Int64)) / (100 : Int64)))), (.long ((0 : Int64) + ((365 : Int64) * (y.toInt64))))])) rfl (hb hby own_d21_57) t k) ?_
  refine own_st (V := T60.setTop (mkF m 61 #[.val (.ref o1), .val (.long (y.toInt64)), .second, .val (.long ((4 : Int32).toInt64)), .second, .val (.long ((0 : Int64) + ((365 : Int64) * (y.toInt64)))), .second] [(.long (((y.toInt64) + (399 : Int64)) / (400 : Int64))), (.long ((((y.toInt64) + (3 : Int64)) / (4 : Int64)) - (((y.toInt64) + (99 : Int64)) / (100 : Int64)))), (.long ((0 : Int64) + ((365 : Int64) * (y.toInt64))))])) (fun t k => XS.ldiv X60.here hx rfl (hb hby own_d21_60) rfl (by decide) k) ?_
  refine own_st (V := T60.setTop (mkF m 62 #[.val (.ref o1), .val (.long (y.toInt64)), .second, .val (.long ((4 : Int32).toInt64)), .second, .val (.long ((0 : Int64) + ((365 : Int64) * (y.toInt64)))), .second] [(.long (((((y.toInt64) + (3 : Int64)) / (4 : Int64)) - (((y.toInt64) + (99 : Int64)) / (100 : Int64))) + (((y.toInt64) + (399 : Int64)) / (400 : Int64)))), (.long ((0 : Int64) + ((365 : Int64) * (y.toInt64))))])) (fun t k => XS.ladd X60.here hx rfl (hb hby own_d21_61) rfl k) ?_
  refine own_st (V := T60.setTop (mkF m 63 #[.val (.ref o1), .val (.long (y.toInt64)), .second, .val (.long ((4 : Int32).toInt64)), .second, .val (.long ((0 : Int64) + ((365 : Int64) * (y.toInt64)))), .second] [(.long (((0 : Int64) + ((365 : Int64) * (y.toInt64))) + (((((y.toInt64) + (3 : Int64)) / (4 : Int64)) - (((y.toInt64) + (99 : Int64)) / (100 : Int64))) + (((y.toInt64) + (399 : Int64)) / (400 : Int64)))))])) (fun t k => XS.ladd X60.here hx rfl (hb hby own_d21_62) rfl k) ?_
  obtain ⟨t1, g_t1⟩ : ∃ z, z = (((0 : Int64) + ((365 : Int64) * (y.toInt64))) + (((((y.toInt64) + (3 : Int64)) / (4 : Int64)) - (((y.toInt64) + (99 : Int64)) / (100 : Int64))) + (((y.toInt64) + (399 : Int64)) / (400 : Int64)))) := ⟨_, rfl⟩
  rw [← g_t1]
  refine own_st (V := T60.setTop (mkF m 65 #[.val (.ref o1), .val (.long (y.toInt64)), .second, .val (.long ((4 : Int32).toInt64)), .second, .val (.long t1), .second] [])) (fun t k => XS.lstore X60.here hx rfl (hb hby own_d21_63) rfl (l' := #[.val (.ref o1), .val (.long (y.toInt64)), .second, .val (.long ((4 : Int32).toInt64)), .second, .val (.long t1), .second]) rfl k) ?_
  refine own_st (V := T60.setTop (mkF m 90 #[.val (.ref o1), .val (.long (y.toInt64)), .second, .val (.long ((4 : Int32).toInt64)), .second, .val (.long t1), .second] [])) (fun t k => XS.goto X60.here hx rfl (pc0 := 65) (pc' := 90) rfl (hb hby own_d21_65) (by decide) (by decide) k) ?_
  refine own_st (V := T60.setTop (mkF m 92 #[.val (.ref o1), .val (.long (y.toInt64)), .second, .val (.long ((4 : Int32).toInt64)), .second, .val (.long t1), .second] [(.long t1)])) (fun t k => XS.lload X60.here hx rfl (hb hby own_d21_90) rfl k) ?_
  refine own_st (V := T60.setTop (mkF m 95 #[.val (.ref o1), .val (.long (y.toInt64)), .second, .val (.long ((4 : Int32).toInt64)), .second, .val (.long t1), .second] [(.long (367 : Int64)), (.long t1)])) (fun t k => X60.ldc2Long hx hown (mvT hZ (hw _ (List.mem_of_getElem? (i := 143) rfl))) (g := (mkF m 92 #[.val (.ref o1), .val (.long (y.toInt64)), .second, .val (.long ((4 : Int32).toInt64)), .second, .val (.long t1), .second] [(.long t1)])) rfl (hb hby own_d21_92) t k) ?_
  refine own_st (V := T60.setTop (mkF m 96 #[.val (.ref o1), .val (.long (y.toInt64)), .second, .val (.long ((4 : Int32).toInt64)), .second, .val (.long t1), .second] [(.long ((4 : Int32).toInt64)), (.long (367 : Int64)), (.long t1)])) (fun t k => XS.lloadN X60.here hx rfl (hb hby own_d21_95) rfl k) ?_
  refine own_st (V := T60.setTop (mkF m 97 #[.val (.ref o1), .val (.long (y.toInt64)), .second, .val (.long ((4 : Int32).toInt64)), .second, .val (.long t1), .second] [(.long ((367 : Int64) * ((4 : Int32).toInt64))), (.long t1)])) (fun t k => XS.lmul X60.here hx rfl (hb hby own_d21_96) rfl k) ?_
  refine own_st (V := T60.setTop (mkF m 100 #[.val (.ref o1), .val (.long (y.toInt64)), .second, .val (.long ((4 : Int32).toInt64)), .second, .val (.long t1), .second] [(.long (362 : Int64)), (.long ((367 : Int64) * ((4 : Int32).toInt64))), (.long t1)])) (fun t k => X60.ldc2Long hx hown (mvT hZ (hw _ (List.mem_of_getElem? (i := 144) rfl))) (g := (mkF m 97 #[.val (.ref o1), .val (.long (y.toInt64)), .second, .val (.long ((4 : Int32).toInt64)), .second, .val (.long t1), .second] [(.long ((367 : Int64) * ((4 : Int32).toInt64))), (.long t1)])) rfl (hb hby own_d21_97) t k) ?_
  refine own_st (V := T60.setTop (mkF m 101 #[.val (.ref o1), .val (.long (y.toInt64)), .second, .val (.long ((4 : Int32).toInt64)), .second, .val (.long t1), .second] [(.long (((367 : Int64) * ((4 : Int32).toInt64)) - (362 : Int64))), (.long t1)])) (fun t k => XS.lsub X60.here hx rfl (hb hby own_d21_100) rfl k) ?_
  refine own_st (V := T60.setTop (mkF m 104 #[.val (.ref o1), .val (.long (y.toInt64)), .second, .val (.long ((4 : Int32).toInt64)), .second, .val (.long t1), .second] [(.long (12 : Int64)), (.long (((367 : Int64) * ((4 : Int32).toInt64)) - (362 : Int64))), (.long t1)])) (fun t k => X60.ldc2Long hx hown (mvT hZ (hw _ (List.mem_of_getElem? (i := 145) rfl))) (g := (mkF m 101 #[.val (.ref o1), .val (.long (y.toInt64)), .second, .val (.long ((4 : Int32).toInt64)), .second, .val (.long t1), .second] [(.long (((367 : Int64) * ((4 : Int32).toInt64)) - (362 : Int64))), (.long t1)])) rfl (hb hby own_d21_101) t k) ?_
  refine own_st (V := T60.setTop (mkF m 105 #[.val (.ref o1), .val (.long (y.toInt64)), .second, .val (.long ((4 : Int32).toInt64)), .second, .val (.long t1), .second] [(.long ((((367 : Int64) * ((4 : Int32).toInt64)) - (362 : Int64)) / (12 : Int64))), (.long t1)])) (fun t k => XS.ldiv X60.here hx rfl (hb hby own_d21_104) rfl (by decide) k) ?_
  refine own_st (V := T60.setTop (mkF m 106 #[.val (.ref o1), .val (.long (y.toInt64)), .second, .val (.long ((4 : Int32).toInt64)), .second, .val (.long t1), .second] [(.long (t1 + ((((367 : Int64) * ((4 : Int32).toInt64)) - (362 : Int64)) / (12 : Int64))))])) (fun t k => XS.ladd X60.here hx rfl (hb hby own_d21_105) rfl k) ?_
  refine own_st (V := T60.setTop (mkF m 108 #[.val (.ref o1), .val (.long (y.toInt64)), .second, .val (.long ((4 : Int32).toInt64)), .second, .val (.long (t1 + ((((367 : Int64) * ((4 : Int32).toInt64)) - (362 : Int64)) / (12 : Int64)))), .second] [])) (fun t k => XS.lstore X60.here hx rfl (hb hby own_d21_106) rfl (l' := #[.val (.ref o1), .val (.long (y.toInt64)), .second, .val (.long ((4 : Int32).toInt64)), .second, .val (.long (t1 + ((((367 : Int64) * ((4 : Int32).toInt64)) - (362 : Int64)) / (12 : Int64)))), .second]) rfl k) ?_
  refine own_st (V := T60.setTop (mkF m 110 #[.val (.ref o1), .val (.long (y.toInt64)), .second, .val (.long ((4 : Int32).toInt64)), .second, .val (.long (t1 + ((((367 : Int64) * ((4 : Int32).toInt64)) - (362 : Int64)) / (12 : Int64)))), .second] [(.long (t1 + ((((367 : Int64) * ((4 : Int32).toInt64)) - (362 : Int64)) / (12 : Int64))))])) (fun t k => XS.lload X60.here hx rfl (hb hby own_d21_108) rfl k) ?_
  refine own_st (V := T60.setTop (mkF m 111 #[.val (.ref o1), .val (.long (y.toInt64)), .second, .val (.long ((4 : Int32).toInt64)), .second, .val (.long (t1 + ((((367 : Int64) * ((4 : Int32).toInt64)) - (362 : Int64)) / (12 : Int64)))), .second] [(.ref o1), (.long (t1 + ((((367 : Int64) * ((4 : Int32).toInt64)) - (362 : Int64)) / (12 : Int64))))])) (fun t k => XS.aloadN X60.here hx rfl (hb hby own_d21_110) rfl rfl k) ?_
  obtain ⟨T61, X61, e61, st61⟩ := getF X60 hx hZ hown (host := "") (Or.inl (hw _ (List.mem_of_getElem? (i := 94) rfl))) Via.refl e60 FD (g := (mkF m 111 #[.val (.ref o1), .val (.long (y.toInt64)), .second, .val (.long ((4 : Int32).toInt64)), .second, .val (.long (t1 + ((((367 : Int64) * ((4 : Int32).toInt64)) - (362 : Int64)) / (12 : Int64)))), .second] [(.ref o1), (.long (t1 + ((((367 : Int64) * ((4 : Int32).toInt64)) - (362 : Int64)) / (12 : Int64))))])) rfl rfl (hb hby own_d21_111)
  refine own_st (V := T61.setTop (mkF m 114 #[.val (.ref o1), .val (.long (y.toInt64)), .second, .val (.long ((4 : Int32).toInt64)), .second, .val (.long (t1 + ((((367 : Int64) * ((4 : Int32).toInt64)) - (362 : Int64)) / (12 : Int64)))), .second] [(.int d), (.long (t1 + ((((367 : Int64) * ((4 : Int32).toInt64)) - (362 : Int64)) / (12 : Int64))))])) (fun t k => st61 _ k) ?_
  refine own_st (V := T61.setTop (mkF m 115 #[.val (.ref o1), .val (.long (y.toInt64)), .second, .val (.long ((4 : Int32).toInt64)), .second, .val (.long (t1 + ((((367 : Int64) * ((4 : Int32).toInt64)) - (362 : Int64)) / (12 : Int64)))), .second] [(.int (1 : Int32)), (.int d), (.long (t1 + ((((367 : Int64) * ((4 : Int32).toInt64)) - (362 : Int64)) / (12 : Int64))))])) (fun t k => XS.iconst X61.here hx rfl (hb hby own_d21_114) k) ?_
  refine own_st (V := T61.setTop (mkF m 116 #[.val (.ref o1), .val (.long (y.toInt64)), .second, .val (.long ((4 : Int32).toInt64)), .second, .val (.long (t1 + ((((367 : Int64) * ((4 : Int32).toInt64)) - (362 : Int64)) / (12 : Int64)))), .second] [(.int (d - (1 : Int32))), (.long (t1 + ((((367 : Int64) * ((4 : Int32).toInt64)) - (362 : Int64)) / (12 : Int64))))])) (fun t k => XS.isub X61.here hx rfl (hb hby own_d21_115) rfl k) ?_
  refine own_st (V := T61.setTop (mkF m 117 #[.val (.ref o1), .val (.long (y.toInt64)), .second, .val (.long ((4 : Int32).toInt64)), .second, .val (.long (t1 + ((((367 : Int64) * ((4 : Int32).toInt64)) - (362 : Int64)) / (12 : Int64)))), .second] [(.long ((d - (1 : Int32)).toInt64)), (.long (t1 + ((((367 : Int64) * ((4 : Int32).toInt64)) - (362 : Int64)) / (12 : Int64))))])) (fun t k => XS.i2l X61.here hx rfl (hb hby own_d21_116) rfl k) ?_
  refine own_st (V := T61.setTop (mkF m 118 #[.val (.ref o1), .val (.long (y.toInt64)), .second, .val (.long ((4 : Int32).toInt64)), .second, .val (.long (t1 + ((((367 : Int64) * ((4 : Int32).toInt64)) - (362 : Int64)) / (12 : Int64)))), .second] [(.long ((t1 + ((((367 : Int64) * ((4 : Int32).toInt64)) - (362 : Int64)) / (12 : Int64))) + ((d - (1 : Int32)).toInt64)))])) (fun t k => XS.ladd X61.here hx rfl (hb hby own_d21_117) rfl k) ?_
  refine own_st (V := T61.setTop (mkF m 120 #[.val (.ref o1), .val (.long (y.toInt64)), .second, .val (.long ((4 : Int32).toInt64)), .second, .val (.long ((t1 + ((((367 : Int64) * ((4 : Int32).toInt64)) - (362 : Int64)) / (12 : Int64))) + ((d - (1 : Int32)).toInt64))), .second] [])) (fun t k => XS.lstore X61.here hx rfl (hb hby own_d21_118) rfl (l' := #[.val (.ref o1), .val (.long (y.toInt64)), .second, .val (.long ((4 : Int32).toInt64)), .second, .val (.long ((t1 + ((((367 : Int64) * ((4 : Int32).toInt64)) - (362 : Int64)) / (12 : Int64))) + ((d - (1 : Int32)).toInt64))), .second]) rfl k) ?_
  refine own_st (V := T61.setTop (mkF m 121 #[.val (.ref o1), .val (.long (y.toInt64)), .second, .val (.long ((4 : Int32).toInt64)), .second, .val (.long ((t1 + ((((367 : Int64) * ((4 : Int32).toInt64)) - (362 : Int64)) / (12 : Int64))) + ((d - (1 : Int32)).toInt64))), .second] [(.long ((4 : Int32).toInt64))])) (fun t k => XS.lloadN X61.here hx rfl (hb hby own_d21_120) rfl k) ?_
  refine own_st (V := T61.setTop (mkF m 124 #[.val (.ref o1), .val (.long (y.toInt64)), .second, .val (.long ((4 : Int32).toInt64)), .second, .val (.long ((t1 + ((((367 : Int64) * ((4 : Int32).toInt64)) - (362 : Int64)) / (12 : Int64))) + ((d - (1 : Int32)).toInt64))), .second] [(.long (2 : Int64)), (.long ((4 : Int32).toInt64))])) (fun t k => X61.ldc2Long hx hown (mvT hZ (hw _ (List.mem_of_getElem? (i := 146) rfl))) (g := (mkF m 121 #[.val (.ref o1), .val (.long (y.toInt64)), .second, .val (.long ((4 : Int32).toInt64)), .second, .val (.long ((t1 + ((((367 : Int64) * ((4 : Int32).toInt64)) - (362 : Int64)) / (12 : Int64))) + ((d - (1 : Int32)).toInt64))), .second] [(.long ((4 : Int32).toInt64))])) rfl (hb hby own_d21_121) t k) ?_
  refine own_st (V := T61.setTop (mkF m 125 #[.val (.ref o1), .val (.long (y.toInt64)), .second, .val (.long ((4 : Int32).toInt64)), .second, .val (.long ((t1 + ((((367 : Int64) * ((4 : Int32).toInt64)) - (362 : Int64)) / (12 : Int64))) + ((d - (1 : Int32)).toInt64))), .second] [(.int (lcmpW ((4 : Int32).toInt64) (2 : Int64)))])) (fun t k => XS.lcmp X61.here hx rfl (hb hby own_d21_124) rfl k) ?_
  refine own_st (V := T61.setTop (mkF m 128 #[.val (.ref o1), .val (.long (y.toInt64)), .second, .val (.long ((4 : Int32).toInt64)), .second, .val (.long ((t1 + ((((367 : Int64) * ((4 : Int32).toInt64)) - (362 : Int64)) / (12 : Int64))) + ((d - (1 : Int32)).toInt64))), .second] [])) (fun t k => XS.ifNo X61.here hx rfl (hb hby own_d21_125) rfl ((if0 _ _).trans (tlt (own_gt1 (by decide))).2.2.2) k) ?_
  refine own_st (V := T61.setTop (mkF m 130 #[.val (.ref o1), .val (.long (y.toInt64)), .second, .val (.long ((4 : Int32).toInt64)), .second, .val (.long ((t1 + ((((367 : Int64) * ((4 : Int32).toInt64)) - (362 : Int64)) / (12 : Int64))) + ((d - (1 : Int32)).toInt64))), .second] [(.long ((t1 + ((((367 : Int64) * ((4 : Int32).toInt64)) - (362 : Int64)) / (12 : Int64))) + ((d - (1 : Int32)).toInt64)))])) (fun t k => XS.lload X61.here hx rfl (hb hby own_d21_128) rfl k) ?_
  refine own_st (V := T61.setTop (mkF m 131 #[.val (.ref o1), .val (.long (y.toInt64)), .second, .val (.long ((4 : Int32).toInt64)), .second, .val (.long ((t1 + ((((367 : Int64) * ((4 : Int32).toInt64)) - (362 : Int64)) / (12 : Int64))) + ((d - (1 : Int32)).toInt64))), .second] [(.long (1 : Int64)), (.long ((t1 + ((((367 : Int64) * ((4 : Int32).toInt64)) - (362 : Int64)) / (12 : Int64))) + ((d - (1 : Int32)).toInt64)))])) (fun t k => XS.lconst X61.here hx rfl (hb hby own_d21_130) k) ?_
  refine own_st (V := T61.setTop (mkF m 132 #[.val (.ref o1), .val (.long (y.toInt64)), .second, .val (.long ((4 : Int32).toInt64)), .second, .val (.long ((t1 + ((((367 : Int64) * ((4 : Int32).toInt64)) - (362 : Int64)) / (12 : Int64))) + ((d - (1 : Int32)).toInt64))), .second] [(.long (((t1 + ((((367 : Int64) * ((4 : Int32).toInt64)) - (362 : Int64)) / (12 : Int64))) + ((d - (1 : Int32)).toInt64)) - (1 : Int64)))])) (fun t k => XS.lsub X61.here hx rfl (hb hby own_d21_131) rfl k) ?_
  refine own_st (V := T61.setTop (mkF m 134 #[.val (.ref o1), .val (.long (y.toInt64)), .second, .val (.long ((4 : Int32).toInt64)), .second, .val (.long (((t1 + ((((367 : Int64) * ((4 : Int32).toInt64)) - (362 : Int64)) / (12 : Int64))) + ((d - (1 : Int32)).toInt64)) - (1 : Int64))), .second] [])) (fun t k => XS.lstore X61.here hx rfl (hb hby own_d21_132) rfl (l' := #[.val (.ref o1), .val (.long (y.toInt64)), .second, .val (.long ((4 : Int32).toInt64)), .second, .val (.long (((t1 + ((((367 : Int64) * ((4 : Int32).toInt64)) - (362 : Int64)) / (12 : Int64))) + ((d - (1 : Int32)).toInt64)) - (1 : Int64))), .second]) rfl k) ?_
  refine own_st (V := T61.setTop (mkF m 135 #[.val (.ref o1), .val (.long (y.toInt64)), .second, .val (.long ((4 : Int32).toInt64)), .second, .val (.long (((t1 + ((((367 : Int64) * ((4 : Int32).toInt64)) - (362 : Int64)) / (12 : Int64))) + ((d - (1 : Int32)).toInt64)) - (1 : Int64))), .second] [(.ref o1)])) (fun t k => XS.aloadN X61.here hx rfl (hb hby own_d21_134) rfl rfl k) ?_
  obtain ⟨cq62, kq62, q62a, q62b, q62c⟩ := isOf hZ e61 E1
  obtain ⟨_, _, ⟨T62, L62, k62, n62⟩, -, X62, ⟨Lc62, hQ62, l62, y62, z62⟩, st62⟩ := X61.virtualBack hx (y := (⟨"java/time/LocalDate", "isLeapYear", "()Z"⟩ : MethodName)) (z := (⟨"java/time/LocalDate", "isLeapYear", "()Z"⟩ : MethodName)) hown (mvT hZ (hw _ (List.mem_of_getElem? (i := 147) rfl))) (mvT hZ (hw _ (List.mem_of_getElem? (i := 148) rfl))) (notFace_of_selects (args := #[]) (mvT hZ (hw _ (List.mem_of_getElem? (i := 150) rfl)))) (mvT hZ (hw _ (List.mem_of_getElem? (i := 150) rfl))) (mvT hZ (hw _ (List.mem_of_getElem? (i := 149) rfl))) (by decide) (backOf (W := 0) (own_lly1 l Z a0 hw [] o1 y cy ry cd rd ce re mm iso h0 n0 Z0 Od Wd FY hy0 hy1 hl) hZ (hw _ (List.mem_of_getElem? (i := 151) rfl)) (hw _ (List.mem_of_getElem? (i := 10) rfl)) (by decide) (by decide)) q62a q62c (g := (mkF m 135 #[.val (.ref o1), .val (.long (y.toInt64)), .second, .val (.long ((4 : Int32).toInt64)), .second, .val (.long (((t1 + ((((367 : Int64) * ((4 : Int32).toInt64)) - (362 : Int64)) / (12 : Int64))) + ((d - (1 : Int32)).toInt64)) - (1 : Int64))), .second] [(.ref o1)])) rfl (by rw [hml]; rfl) (Steps.refl _) (argsL := []) (rest := []) (lenOf own_pd10 rfl) rfl (by show 2 * 0 + _ ≤ _; exact Nat.le_of_eq rfl) (hb hby own_d21_135) (fun _ _ => ⟨rfl, e61, (by decide : 0 + 0 ≤ _), (by decide : 0 + 0 ≤ _)⟩)
  dsimp only [Pt.U, Pt.locs, Pt.cells, Pt.slots] at X62 l62 y62 z62 st62 hQ62
  subst l62 y62 z62
  obtain ⟨rfl, N62q, e62⟩ := hQ62
  have N62 := Fr.app N0 N62q
  refine own_st (V := T62.setTop (mkF m 138 #[.val (.ref o1), .val (.long (y.toInt64)), .second, .val (.long ((4 : Int32).toInt64)), .second, .val (.long (((t1 + ((((367 : Int64) * ((4 : Int32).toInt64)) - (362 : Int64)) / (12 : Int64))) + ((d - (1 : Int32)).toInt64)) - (1 : Int64))), .second] [(.int (1 : Int32))])) (fun t k => st62.trans k) ?_
  refine own_st (V := T62.setTop (mkF m 147 #[.val (.ref o1), .val (.long (y.toInt64)), .second, .val (.long ((4 : Int32).toInt64)), .second, .val (.long (((t1 + ((((367 : Int64) * ((4 : Int32).toInt64)) - (362 : Int64)) / (12 : Int64))) + ((d - (1 : Int32)).toInt64)) - (1 : Int64))), .second] [])) (fun t k => XS.ifYes X62.here hx rfl (pc0 := 138) (pc' := 147) rfl (hb hby own_d21_138) rfl ((if0 _ _).trans (feq (by decide : ¬ ((1 : Int32) = (0 : Int32)))).2) (by decide) (by decide) k) ?_
  refine own_st (V := T62.setTop (mkF m 149 #[.val (.ref o1), .val (.long (y.toInt64)), .second, .val (.long ((4 : Int32).toInt64)), .second, .val (.long (((t1 + ((((367 : Int64) * ((4 : Int32).toInt64)) - (362 : Int64)) / (12 : Int64))) + ((d - (1 : Int32)).toInt64)) - (1 : Int64))), .second] [(.long (((t1 + ((((367 : Int64) * ((4 : Int32).toInt64)) - (362 : Int64)) / (12 : Int64))) + ((d - (1 : Int32)).toInt64)) - (1 : Int64)))])) (fun t k => XS.lload X62.here hx rfl (hb hby own_d21_147) rfl k) ?_
  refine own_st (V := T62.setTop (mkF m 152 #[.val (.ref o1), .val (.long (y.toInt64)), .second, .val (.long ((4 : Int32).toInt64)), .second, .val (.long (((t1 + ((((367 : Int64) * ((4 : Int32).toInt64)) - (362 : Int64)) / (12 : Int64))) + ((d - (1 : Int32)).toInt64)) - (1 : Int64))), .second] [(.long (719528 : Int64)), (.long (((t1 + ((((367 : Int64) * ((4 : Int32).toInt64)) - (362 : Int64)) / (12 : Int64))) + ((d - (1 : Int32)).toInt64)) - (1 : Int64)))])) (fun t k => X62.ldc2Long hx hown (mvT hZ (hw _ (List.mem_of_getElem? (i := 160) rfl))) (g := (mkF m 149 #[.val (.ref o1), .val (.long (y.toInt64)), .second, .val (.long ((4 : Int32).toInt64)), .second, .val (.long (((t1 + ((((367 : Int64) * ((4 : Int32).toInt64)) - (362 : Int64)) / (12 : Int64))) + ((d - (1 : Int32)).toInt64)) - (1 : Int64))), .second] [(.long (((t1 + ((((367 : Int64) * ((4 : Int32).toInt64)) - (362 : Int64)) / (12 : Int64))) + ((d - (1 : Int32)).toInt64)) - (1 : Int64)))])) rfl (hb hby own_d21_149) t k) ?_
  refine own_st (V := T62.setTop (mkF m 153 #[.val (.ref o1), .val (.long (y.toInt64)), .second, .val (.long ((4 : Int32).toInt64)), .second, .val (.long (((t1 + ((((367 : Int64) * ((4 : Int32).toInt64)) - (362 : Int64)) / (12 : Int64))) + ((d - (1 : Int32)).toInt64)) - (1 : Int64))), .second] [(.long ((((t1 + ((((367 : Int64) * ((4 : Int32).toInt64)) - (362 : Int64)) / (12 : Int64))) + ((d - (1 : Int32)).toInt64)) - (1 : Int64)) - (719528 : Int64)))])) (fun t k => XS.lsub X62.here hx rfl (hb hby own_d21_152) rfl k) ?_
  exact own_ret X62 hx hlk Bd.returns rfl (Or.inr (Or.inl ⟨rfl, rfl, _, rfl⟩)) (hb hby own_d21_153) (by decide) (by decide) (by show Q_own_te1 Z o1 y d cy ry cd rd ce re mm iso h0 n0 _ T62.heap _; rw [e62]; exact ⟨_, rfl, N62, rfl, (by rw [g_t1]; exact own_tev1 y d hy0 hy1 hd1 hd2 hl)⟩)
theorem own_tq0 {Y D A B C a b c T : Int} (z : T = ((((((((0 : Int) + ((365 : Int) * Y)) + ((A - B) + C)) + ((((367 : Int) * (4 : Int)) - (362 : Int)) / (12 : Int))) + (D - (1 : Int))) - (1 : Int)) - (1 : Int)) - (719528 : Int))) (q : A - B + C = a - b + c + 1) : T = 365 * Y + a - b + c + 90 + D - 719528 := by omega
set_option maxRecDepth 65536 in
set_option maxHeartbeats 40000000 in
theorem own_tev0 (y d : Int32) (hy0 : 1583 ≤ y.toInt) (hy1 : y.toInt ≤ 999999999) (hd1 : 1 ≤ d.toInt) (hd2 : d.toInt ≤ 2) (hl : ¬ (y.toInt % 4 = 0 ∧ (¬ (y.toInt % 100 = 0) ∨ y.toInt % 400 = 0))) : (((((((((0 : Int64) + ((365 : Int64) * (y.toInt64))) + (((((y.toInt64) + (3 : Int64)) / (4 : Int64)) - (((y.toInt64) + (99 : Int64)) / (100 : Int64))) + (((y.toInt64) + (399 : Int64)) / (400 : Int64)))) + ((((367 : Int64) * ((4 : Int32).toInt64)) - (362 : Int64)) / (12 : Int64))) + ((d - (1 : Int32)).toInt64)) - (1 : Int64)) - (1 : Int64)) - (719528 : Int64))).toInt = 365 * y.toInt + y.toInt / 4 - y.toInt / 100 + y.toInt / 400 + 90 + d.toInt - 719528 := by
  have h0 : ((0 : Int64)).toInt = (0 : Int) ∧ (0 : Int) ≤ (0 : Int) ∧ (0 : Int) ≤ (0 : Int) := by decide
  have h1 : ((365 : Int64)).toInt = (365 : Int) ∧ (365 : Int) ≤ (365 : Int) ∧ (365 : Int) ≤ (365 : Int) := by decide
  have h2 : (y).toInt = y.toInt ∧ (1583 : Int) ≤ y.toInt ∧ y.toInt ≤ (999999999 : Int) := ⟨rfl, hy0, hy1⟩
  have h3 : ((y.toInt64)).toInt = y.toInt ∧ (1583 : Int) ≤ y.toInt ∧ y.toInt ≤ (999999999 : Int) := own_i2l h2
  have h4 : (((365 : Int64) * (y.toInt64))).toInt = ((365 : Int) * y.toInt) ∧ (577795 : Int) ≤ ((365 : Int) * y.toInt) ∧ ((365 : Int) * y.toInt) ≤ (364999999635 : Int) := own_lmulL (A := 0) h1.1 h3 (by decide) (by decide)
  have h5 : (((0 : Int64) + ((365 : Int64) * (y.toInt64)))).toInt = ((0 : Int) + ((365 : Int) * y.toInt)) ∧ (577795 : Int) ≤ ((0 : Int) + ((365 : Int) * y.toInt)) ∧ ((0 : Int) + ((365 : Int) * y.toInt)) ≤ (364999999635 : Int) := own_ladd h0 h4 (by decide)
  have h6 : ((3 : Int64)).toInt = (3 : Int) ∧ (3 : Int) ≤ (3 : Int) ∧ (3 : Int) ≤ (3 : Int) := by decide
  have h7 : (((y.toInt64) + (3 : Int64))).toInt = (y.toInt + (3 : Int)) ∧ (1586 : Int) ≤ (y.toInt + (3 : Int)) ∧ (y.toInt + (3 : Int)) ≤ (1000000002 : Int) := own_ladd h3 h6 (by decide)
  have h8 : ((4 : Int64)).toInt = (4 : Int) ∧ (4 : Int) ≤ (4 : Int) ∧ (4 : Int) ≤ (4 : Int) := by decide
  have h9 : ((((y.toInt64) + (3 : Int64)) / (4 : Int64))).toInt = ((y.toInt + (3 : Int)) / (4 : Int)) ∧ (396 : Int) ≤ ((y.toInt + (3 : Int)) / (4 : Int)) ∧ ((y.toInt + (3 : Int)) / (4 : Int)) ≤ (250000000 : Int) := own_ldiv h7 h8.1 (by decide)
  have h10 : ((99 : Int64)).toInt = (99 : Int) ∧ (99 : Int) ≤ (99 : Int) ∧ (99 : Int) ≤ (99 : Int) := by decide
  have h11 : (((y.toInt64) + (99 : Int64))).toInt = (y.toInt + (99 : Int)) ∧ (1682 : Int) ≤ (y.toInt + (99 : Int)) ∧ (y.toInt + (99 : Int)) ≤ (1000000098 : Int) := own_ladd h3 h10 (by decide)
  have h12 : ((100 : Int64)).toInt = (100 : Int) ∧ (100 : Int) ≤ (100 : Int) ∧ (100 : Int) ≤ (100 : Int) := by decide
  have h13 : ((((y.toInt64) + (99 : Int64)) / (100 : Int64))).toInt = ((y.toInt + (99 : Int)) / (100 : Int)) ∧ (16 : Int) ≤ ((y.toInt + (99 : Int)) / (100 : Int)) ∧ ((y.toInt + (99 : Int)) / (100 : Int)) ≤ (10000000 : Int) := own_ldiv h11 h12.1 (by decide)
  have h14 : (((((y.toInt64) + (3 : Int64)) / (4 : Int64)) - (((y.toInt64) + (99 : Int64)) / (100 : Int64)))).toInt = (((y.toInt + (3 : Int)) / (4 : Int)) - ((y.toInt + (99 : Int)) / (100 : Int))) ∧ (-9999604 : Int) ≤ (((y.toInt + (3 : Int)) / (4 : Int)) - ((y.toInt + (99 : Int)) / (100 : Int))) ∧ (((y.toInt + (3 : Int)) / (4 : Int)) - ((y.toInt + (99 : Int)) / (100 : Int))) ≤ (249999984 : Int) := own_lsub h9 h13 (by decide)
  have h15 : ((399 : Int64)).toInt = (399 : Int) ∧ (399 : Int) ≤ (399 : Int) ∧ (399 : Int) ≤ (399 : Int) := by decide
  have h16 : (((y.toInt64) + (399 : Int64))).toInt = (y.toInt + (399 : Int)) ∧ (1982 : Int) ≤ (y.toInt + (399 : Int)) ∧ (y.toInt + (399 : Int)) ≤ (1000000398 : Int) := own_ladd h3 h15 (by decide)
  have h17 : ((400 : Int64)).toInt = (400 : Int) ∧ (400 : Int) ≤ (400 : Int) ∧ (400 : Int) ≤ (400 : Int) := by decide
  have h18 : ((((y.toInt64) + (399 : Int64)) / (400 : Int64))).toInt = ((y.toInt + (399 : Int)) / (400 : Int)) ∧ (4 : Int) ≤ ((y.toInt + (399 : Int)) / (400 : Int)) ∧ ((y.toInt + (399 : Int)) / (400 : Int)) ≤ (2500000 : Int) := own_ldiv h16 h17.1 (by decide)
  have h19 : ((((((y.toInt64) + (3 : Int64)) / (4 : Int64)) - (((y.toInt64) + (99 : Int64)) / (100 : Int64))) + (((y.toInt64) + (399 : Int64)) / (400 : Int64)))).toInt = ((((y.toInt + (3 : Int)) / (4 : Int)) - ((y.toInt + (99 : Int)) / (100 : Int))) + ((y.toInt + (399 : Int)) / (400 : Int))) ∧ (-9999600 : Int) ≤ ((((y.toInt + (3 : Int)) / (4 : Int)) - ((y.toInt + (99 : Int)) / (100 : Int))) + ((y.toInt + (399 : Int)) / (400 : Int))) ∧ ((((y.toInt + (3 : Int)) / (4 : Int)) - ((y.toInt + (99 : Int)) / (100 : Int))) + ((y.toInt + (399 : Int)) / (400 : Int))) ≤ (252499984 : Int) := own_ladd h14 h18 (by decide)
  have h20 : ((((0 : Int64) + ((365 : Int64) * (y.toInt64))) + (((((y.toInt64) + (3 : Int64)) / (4 : Int64)) - (((y.toInt64) + (99 : Int64)) / (100 : Int64))) + (((y.toInt64) + (399 : Int64)) / (400 : Int64))))).toInt = (((0 : Int) + ((365 : Int) * y.toInt)) + ((((y.toInt + (3 : Int)) / (4 : Int)) - ((y.toInt + (99 : Int)) / (100 : Int))) + ((y.toInt + (399 : Int)) / (400 : Int)))) ∧ (-9421805 : Int) ≤ (((0 : Int) + ((365 : Int) * y.toInt)) + ((((y.toInt + (3 : Int)) / (4 : Int)) - ((y.toInt + (99 : Int)) / (100 : Int))) + ((y.toInt + (399 : Int)) / (400 : Int)))) ∧ (((0 : Int) + ((365 : Int) * y.toInt)) + ((((y.toInt + (3 : Int)) / (4 : Int)) - ((y.toInt + (99 : Int)) / (100 : Int))) + ((y.toInt + (399 : Int)) / (400 : Int)))) ≤ (365252499619 : Int) := own_ladd h5 h19 (by decide)
  have h21 : ((367 : Int64)).toInt = (367 : Int) ∧ (367 : Int) ≤ (367 : Int) ∧ (367 : Int) ≤ (367 : Int) := by decide
  have h22 : ((4 : Int32)).toInt = (4 : Int) ∧ (4 : Int) ≤ (4 : Int) ∧ (4 : Int) ≤ (4 : Int) := by decide
  have h23 : (((4 : Int32).toInt64)).toInt = (4 : Int) ∧ (4 : Int) ≤ (4 : Int) ∧ (4 : Int) ≤ (4 : Int) := own_i2l h22
  have h24 : (((367 : Int64) * ((4 : Int32).toInt64))).toInt = ((367 : Int) * (4 : Int)) ∧ (1468 : Int) ≤ ((367 : Int) * (4 : Int)) ∧ ((367 : Int) * (4 : Int)) ≤ (1468 : Int) := own_lmulL (A := 0) h21.1 h23 (by decide) (by decide)
  have h25 : ((362 : Int64)).toInt = (362 : Int) ∧ (362 : Int) ≤ (362 : Int) ∧ (362 : Int) ≤ (362 : Int) := by decide
  have h26 : ((((367 : Int64) * ((4 : Int32).toInt64)) - (362 : Int64))).toInt = (((367 : Int) * (4 : Int)) - (362 : Int)) ∧ (1106 : Int) ≤ (((367 : Int) * (4 : Int)) - (362 : Int)) ∧ (((367 : Int) * (4 : Int)) - (362 : Int)) ≤ (1106 : Int) := own_lsub h24 h25 (by decide)
  have h27 : ((12 : Int64)).toInt = (12 : Int) ∧ (12 : Int) ≤ (12 : Int) ∧ (12 : Int) ≤ (12 : Int) := by decide
  have h28 : (((((367 : Int64) * ((4 : Int32).toInt64)) - (362 : Int64)) / (12 : Int64))).toInt = ((((367 : Int) * (4 : Int)) - (362 : Int)) / (12 : Int)) ∧ (92 : Int) ≤ ((((367 : Int) * (4 : Int)) - (362 : Int)) / (12 : Int)) ∧ ((((367 : Int) * (4 : Int)) - (362 : Int)) / (12 : Int)) ≤ (92 : Int) := own_ldiv h26 h27.1 (by decide)
  have h29 : (((((0 : Int64) + ((365 : Int64) * (y.toInt64))) + (((((y.toInt64) + (3 : Int64)) / (4 : Int64)) - (((y.toInt64) + (99 : Int64)) / (100 : Int64))) + (((y.toInt64) + (399 : Int64)) / (400 : Int64)))) + ((((367 : Int64) * ((4 : Int32).toInt64)) - (362 : Int64)) / (12 : Int64)))).toInt = ((((0 : Int) + ((365 : Int) * y.toInt)) + ((((y.toInt + (3 : Int)) / (4 : Int)) - ((y.toInt + (99 : Int)) / (100 : Int))) + ((y.toInt + (399 : Int)) / (400 : Int)))) + ((((367 : Int) * (4 : Int)) - (362 : Int)) / (12 : Int))) ∧ (-9421713 : Int) ≤ ((((0 : Int) + ((365 : Int) * y.toInt)) + ((((y.toInt + (3 : Int)) / (4 : Int)) - ((y.toInt + (99 : Int)) / (100 : Int))) + ((y.toInt + (399 : Int)) / (400 : Int)))) + ((((367 : Int) * (4 : Int)) - (362 : Int)) / (12 : Int))) ∧ ((((0 : Int) + ((365 : Int) * y.toInt)) + ((((y.toInt + (3 : Int)) / (4 : Int)) - ((y.toInt + (99 : Int)) / (100 : Int))) + ((y.toInt + (399 : Int)) / (400 : Int)))) + ((((367 : Int) * (4 : Int)) - (362 : Int)) / (12 : Int))) ≤ (365252499711 : Int) := own_ladd h20 h28 (by decide)
  have h30 : (d).toInt = d.toInt ∧ (1 : Int) ≤ d.toInt ∧ d.toInt ≤ (2 : Int) := ⟨rfl, hd1, hd2⟩
  have h31 : ((1 : Int32)).toInt = (1 : Int) ∧ (1 : Int) ≤ (1 : Int) ∧ (1 : Int) ≤ (1 : Int) := by decide
  have h32 : ((d - (1 : Int32))).toInt = (d.toInt - (1 : Int)) ∧ (0 : Int) ≤ (d.toInt - (1 : Int)) ∧ (d.toInt - (1 : Int)) ≤ (1 : Int) := own_isub h30 h31 (by decide)
  have h33 : (((d - (1 : Int32)).toInt64)).toInt = (d.toInt - (1 : Int)) ∧ (0 : Int) ≤ (d.toInt - (1 : Int)) ∧ (d.toInt - (1 : Int)) ≤ (1 : Int) := own_i2l h32
  have h34 : ((((((0 : Int64) + ((365 : Int64) * (y.toInt64))) + (((((y.toInt64) + (3 : Int64)) / (4 : Int64)) - (((y.toInt64) + (99 : Int64)) / (100 : Int64))) + (((y.toInt64) + (399 : Int64)) / (400 : Int64)))) + ((((367 : Int64) * ((4 : Int32).toInt64)) - (362 : Int64)) / (12 : Int64))) + ((d - (1 : Int32)).toInt64))).toInt = (((((0 : Int) + ((365 : Int) * y.toInt)) + ((((y.toInt + (3 : Int)) / (4 : Int)) - ((y.toInt + (99 : Int)) / (100 : Int))) + ((y.toInt + (399 : Int)) / (400 : Int)))) + ((((367 : Int) * (4 : Int)) - (362 : Int)) / (12 : Int))) + (d.toInt - (1 : Int))) ∧ (-9421713 : Int) ≤ (((((0 : Int) + ((365 : Int) * y.toInt)) + ((((y.toInt + (3 : Int)) / (4 : Int)) - ((y.toInt + (99 : Int)) / (100 : Int))) + ((y.toInt + (399 : Int)) / (400 : Int)))) + ((((367 : Int) * (4 : Int)) - (362 : Int)) / (12 : Int))) + (d.toInt - (1 : Int))) ∧ (((((0 : Int) + ((365 : Int) * y.toInt)) + ((((y.toInt + (3 : Int)) / (4 : Int)) - ((y.toInt + (99 : Int)) / (100 : Int))) + ((y.toInt + (399 : Int)) / (400 : Int)))) + ((((367 : Int) * (4 : Int)) - (362 : Int)) / (12 : Int))) + (d.toInt - (1 : Int))) ≤ (365252499712 : Int) := own_ladd h29 h33 (by decide)
  have h35 : ((1 : Int64)).toInt = (1 : Int) ∧ (1 : Int) ≤ (1 : Int) ∧ (1 : Int) ≤ (1 : Int) := by decide
  have h36 : (((((((0 : Int64) + ((365 : Int64) * (y.toInt64))) + (((((y.toInt64) + (3 : Int64)) / (4 : Int64)) - (((y.toInt64) + (99 : Int64)) / (100 : Int64))) + (((y.toInt64) + (399 : Int64)) / (400 : Int64)))) + ((((367 : Int64) * ((4 : Int32).toInt64)) - (362 : Int64)) / (12 : Int64))) + ((d - (1 : Int32)).toInt64)) - (1 : Int64))).toInt = ((((((0 : Int) + ((365 : Int) * y.toInt)) + ((((y.toInt + (3 : Int)) / (4 : Int)) - ((y.toInt + (99 : Int)) / (100 : Int))) + ((y.toInt + (399 : Int)) / (400 : Int)))) + ((((367 : Int) * (4 : Int)) - (362 : Int)) / (12 : Int))) + (d.toInt - (1 : Int))) - (1 : Int)) ∧ (-9421714 : Int) ≤ ((((((0 : Int) + ((365 : Int) * y.toInt)) + ((((y.toInt + (3 : Int)) / (4 : Int)) - ((y.toInt + (99 : Int)) / (100 : Int))) + ((y.toInt + (399 : Int)) / (400 : Int)))) + ((((367 : Int) * (4 : Int)) - (362 : Int)) / (12 : Int))) + (d.toInt - (1 : Int))) - (1 : Int)) ∧ ((((((0 : Int) + ((365 : Int) * y.toInt)) + ((((y.toInt + (3 : Int)) / (4 : Int)) - ((y.toInt + (99 : Int)) / (100 : Int))) + ((y.toInt + (399 : Int)) / (400 : Int)))) + ((((367 : Int) * (4 : Int)) - (362 : Int)) / (12 : Int))) + (d.toInt - (1 : Int))) - (1 : Int)) ≤ (365252499711 : Int) := own_lsub h34 h35 (by decide)
  have h37 : ((((((((0 : Int64) + ((365 : Int64) * (y.toInt64))) + (((((y.toInt64) + (3 : Int64)) / (4 : Int64)) - (((y.toInt64) + (99 : Int64)) / (100 : Int64))) + (((y.toInt64) + (399 : Int64)) / (400 : Int64)))) + ((((367 : Int64) * ((4 : Int32).toInt64)) - (362 : Int64)) / (12 : Int64))) + ((d - (1 : Int32)).toInt64)) - (1 : Int64)) - (1 : Int64))).toInt = (((((((0 : Int) + ((365 : Int) * y.toInt)) + ((((y.toInt + (3 : Int)) / (4 : Int)) - ((y.toInt + (99 : Int)) / (100 : Int))) + ((y.toInt + (399 : Int)) / (400 : Int)))) + ((((367 : Int) * (4 : Int)) - (362 : Int)) / (12 : Int))) + (d.toInt - (1 : Int))) - (1 : Int)) - (1 : Int)) ∧ (-9421715 : Int) ≤ (((((((0 : Int) + ((365 : Int) * y.toInt)) + ((((y.toInt + (3 : Int)) / (4 : Int)) - ((y.toInt + (99 : Int)) / (100 : Int))) + ((y.toInt + (399 : Int)) / (400 : Int)))) + ((((367 : Int) * (4 : Int)) - (362 : Int)) / (12 : Int))) + (d.toInt - (1 : Int))) - (1 : Int)) - (1 : Int)) ∧ (((((((0 : Int) + ((365 : Int) * y.toInt)) + ((((y.toInt + (3 : Int)) / (4 : Int)) - ((y.toInt + (99 : Int)) / (100 : Int))) + ((y.toInt + (399 : Int)) / (400 : Int)))) + ((((367 : Int) * (4 : Int)) - (362 : Int)) / (12 : Int))) + (d.toInt - (1 : Int))) - (1 : Int)) - (1 : Int)) ≤ (365252499710 : Int) := own_lsub h36 h35 (by decide)
  have h38 : ((719528 : Int64)).toInt = (719528 : Int) ∧ (719528 : Int) ≤ (719528 : Int) ∧ (719528 : Int) ≤ (719528 : Int) := by decide
  have h39 : (((((((((0 : Int64) + ((365 : Int64) * (y.toInt64))) + (((((y.toInt64) + (3 : Int64)) / (4 : Int64)) - (((y.toInt64) + (99 : Int64)) / (100 : Int64))) + (((y.toInt64) + (399 : Int64)) / (400 : Int64)))) + ((((367 : Int64) * ((4 : Int32).toInt64)) - (362 : Int64)) / (12 : Int64))) + ((d - (1 : Int32)).toInt64)) - (1 : Int64)) - (1 : Int64)) - (719528 : Int64))).toInt = ((((((((0 : Int) + ((365 : Int) * y.toInt)) + ((((y.toInt + (3 : Int)) / (4 : Int)) - ((y.toInt + (99 : Int)) / (100 : Int))) + ((y.toInt + (399 : Int)) / (400 : Int)))) + ((((367 : Int) * (4 : Int)) - (362 : Int)) / (12 : Int))) + (d.toInt - (1 : Int))) - (1 : Int)) - (1 : Int)) - (719528 : Int)) ∧ (-10141243 : Int) ≤ ((((((((0 : Int) + ((365 : Int) * y.toInt)) + ((((y.toInt + (3 : Int)) / (4 : Int)) - ((y.toInt + (99 : Int)) / (100 : Int))) + ((y.toInt + (399 : Int)) / (400 : Int)))) + ((((367 : Int) * (4 : Int)) - (362 : Int)) / (12 : Int))) + (d.toInt - (1 : Int))) - (1 : Int)) - (1 : Int)) - (719528 : Int)) ∧ ((((((((0 : Int) + ((365 : Int) * y.toInt)) + ((((y.toInt + (3 : Int)) / (4 : Int)) - ((y.toInt + (99 : Int)) / (100 : Int))) + ((y.toInt + (399 : Int)) / (400 : Int)))) + ((((367 : Int) * (4 : Int)) - (362 : Int)) / (12 : Int))) + (d.toInt - (1 : Int))) - (1 : Int)) - (1 : Int)) - (719528 : Int)) ≤ (365251780182 : Int) := own_lsub h37 h38 (by decide)
  exact own_tq0 h39.1 ((own_tl y.toInt (by omega)).2 hl)
def Q_own_te0 (Z : State) (o1 : Addr) (y d : Int32) (cy ry cd rd ce re mm iso : Addr) (h0 : Heap) (n0 : Nat) (v : Option Value) (h : Heap) (L : List Loc) : Prop := ∃ r : Int64, v = some (.long r) ∧ Fr n0 L ∧ h = h0 ∧ r.toInt = 365 * y.toInt + y.toInt / 4 - y.toInt / 100 + y.toInt / 400 + 90 + d.toInt - 719528
theorem own_d21_141 : decode jdk_2323_method_67_code 141 = .ok (.lload 5, 2) := by decide +kernel
theorem own_d21_143 : decode jdk_2323_method_67_code 143 = .ok (.lconst 1, 1) := by decide +kernel
theorem own_d21_144 : decode jdk_2323_method_67_code 144 = .ok (.lsub, 1) := by decide +kernel
theorem own_d21_145 : decode jdk_2323_method_67_code 145 = .ok (.lstore 5, 2) := by decide +kernel
set_option maxRecDepth 65536 in
set_option maxHeartbeats 40000000 in
theorem own_te0 (l : Launch) (Z : State) (a0 : Array Value) (hw : ∀ d ∈ tables_1, d.before a0 Z = true) (ws : List Jvm.Cond) (o1 : Addr) (y d : Int32) (cy ry cd rd ce re mm iso : Addr) (h0 : Heap) (n0 : Nat) (Z0 : n0 ≤ h0.size) (Od : Old Z n0 h0) (Wd : own_W Z cy ry cd rd ce re mm iso) (E1 : Exa Z h0 o1 "java/time/LocalDate") (FY : Fld Z h0 o1 "java/time/LocalDate" "year" "I" (.int y)) (FM : Fld Z h0 o1 "java/time/LocalDate" "month" "S" (.int (4 : Int32))) (FD : Fld Z h0 o1 "java/time/LocalDate" "day" "S" (.int d)) (hy0 : 1583 ≤ y.toInt) (hy1 : y.toInt ≤ 999999999) (hd1 : 1 ≤ d.toInt) (hd2 : d.toInt ≤ 2) (hl : ¬ (y.toInt % 4 = 0 ∧ (¬ (y.toInt % 100 = 0) ∨ y.toInt % 400 = 0))) :
    MetFree l (⟨"java/time/LocalDate", "toEpochDay", "()J"⟩ : MethodName) (head1 (Jvm.Cond.code (⟨"java/time/LocalDate", "toEpochDay", "()J"⟩ : MethodName) jdk_2323_method_67_code 7 (some .long) :: ws) ({ frames := 2, cells := 0, slots := 0, locals := 26 } : Room)) (fun a U => a = #[(.ref o1)] ∧ Z.Warmed39 U.vm ∧ U.heap = h0) (fun _ _ _ _ _ => True) (fun _ U o U' => ∃ v L, o = .returned v ∧ Q_own_te0 Z o1 y d cy ry cd rd ce re mm iso h0 n0 v U'.heap L ∧ FrameEnd U o U' L ({ frames := 2, cells := 0, slots := 0, locals := 26 } : Room).cells ({ frames := 2, cells := 0, slots := 0, locals := 26 } : Room).slots) := by
  refine MetFree.of_bodySF (plainFor_of_name own_pn_java_time_LocalDate) hisR ?_
  intro p e s m args below meth c s₁ Bd hml0 hP hK
  obtain ⟨rfl, hZ, hh⟩ := hP
  have hx := Bd.exec
  have hby := Bd.bytes
  have hml : c.maxLocals = 7 := hml0
  have hown : s.vm.findClass "java/time/LocalDate" = some m.cls := findClass_of_methodNamed Bd.named
  have hnm := (name_of_methodNamed Bd.named Bd.method).1
  have hlk : meth.locks = false := BodyLoose.notSynchronized Bd
  have X0 : Stand p l e ({ frames := 2, cells := 0, slots := 0, locals := 26 } : Room) s m #[(.ref o1)] below meth c s₁ [] 0 0 := Stand.of_body Bd
  have e0 : s₁.heap = h0 := by rw [← hh, Bd.state]; rfl
  have N0 := Fr.nil n0
  show own_Go p e below #[(.ref o1)] s (fun _ U o U' => ∃ v L, o = .returned v ∧ Q_own_te0 Z o1 y d cy ry cd rd ce re mm iso h0 n0 v U'.heap L ∧ FrameEnd U o U' L ({ frames := 2, cells := 0, slots := 0, locals := 26 } : Room).cells ({ frames := 2, cells := 0, slots := 0, locals := 26 } : Room).slots) (s₁.setTop (entryFrame m #[(.ref o1)] 7))
  refine own_st (V := s₁.setTop (mkF m 0 #[.val (.ref o1), .unset, .unset, .unset, .unset, .unset, .unset] [])) (fun t k => castTop (by first | (simp [entryFrame, mkF, argsToLocals, Value.category]; done) | rfl) k) ?_
  refine own_st (V := s₁.setTop (mkF m 1 #[.val (.ref o1), .unset, .unset, .unset, .unset, .unset, .unset] [(.ref o1)])) (fun t k => XS.aloadN X0.here hx rfl (hb hby own_d21_0) rfl rfl k) ?_
  obtain ⟨T63, X63, e63, st63⟩ := getF X0 hx hZ hown (host := "") (Or.inl (hw _ (List.mem_of_getElem? (i := 90) rfl))) Via.refl e0 FY (g := (mkF m 1 #[.val (.ref o1), .unset, .unset, .unset, .unset, .unset, .unset] [(.ref o1)])) rfl rfl (hb hby own_d21_1)
  refine own_st (V := T63.setTop (mkF m 4 #[.val (.ref o1), .unset, .unset, .unset, .unset, .unset, .unset] [(.int y)])) (fun t k => st63 _ k) ?_
  refine own_st (V := T63.setTop (mkF m 5 #[.val (.ref o1), .unset, .unset, .unset, .unset, .unset, .unset] [(.long (y.toInt64))])) (fun t k => XS.i2l X63.here hx rfl (hb hby own_d21_4) rfl k) ?_
  refine own_st (V := T63.setTop (mkF m 6 #[.val (.ref o1), .val (.long (y.toInt64)), .second, .unset, .unset, .unset, .unset] [])) (fun t k => XS.lstoreN X63.here hx rfl (hb hby own_d21_5) rfl (l' := #[.val (.ref o1), .val (.long (y.toInt64)), .second, .unset, .unset, .unset, .unset]) rfl k) ?_
  refine own_st (V := T63.setTop (mkF m 7 #[.val (.ref o1), .val (.long (y.toInt64)), .second, .unset, .unset, .unset, .unset] [(.ref o1)])) (fun t k => XS.aloadN X63.here hx rfl (hb hby own_d21_6) rfl rfl k) ?_
  obtain ⟨T64, X64, e64, st64⟩ := getF X63 hx hZ hown (host := "") (Or.inl (hw _ (List.mem_of_getElem? (i := 92) rfl))) Via.refl e63 FM (g := (mkF m 7 #[.val (.ref o1), .val (.long (y.toInt64)), .second, .unset, .unset, .unset, .unset] [(.ref o1)])) rfl rfl (hb hby own_d21_7)
  refine own_st (V := T64.setTop (mkF m 10 #[.val (.ref o1), .val (.long (y.toInt64)), .second, .unset, .unset, .unset, .unset] [(.int (4 : Int32))])) (fun t k => st64 _ k) ?_
  refine own_st (V := T64.setTop (mkF m 11 #[.val (.ref o1), .val (.long (y.toInt64)), .second, .unset, .unset, .unset, .unset] [(.long ((4 : Int32).toInt64))])) (fun t k => XS.i2l X64.here hx rfl (hb hby own_d21_10) rfl k) ?_
  refine own_st (V := T64.setTop (mkF m 12 #[.val (.ref o1), .val (.long (y.toInt64)), .second, .val (.long ((4 : Int32).toInt64)), .second, .unset, .unset] [])) (fun t k => XS.lstoreN X64.here hx rfl (hb hby own_d21_11) rfl (l' := #[.val (.ref o1), .val (.long (y.toInt64)), .second, .val (.long ((4 : Int32).toInt64)), .second, .unset, .unset]) rfl k) ?_
  refine own_st (V := T64.setTop (mkF m 13 #[.val (.ref o1), .val (.long (y.toInt64)), .second, .val (.long ((4 : Int32).toInt64)), .second, .unset, .unset] [(.long (0 : Int64))])) (fun t k => XS.lconst X64.here hx rfl (hb hby own_d21_12) k) ?_
  refine own_st (V := T64.setTop (mkF m 15 #[.val (.ref o1), .val (.long (y.toInt64)), .second, .val (.long ((4 : Int32).toInt64)), .second, .val (.long (0 : Int64)), .second] [])) (fun t k => XS.lstore X64.here hx rfl (hb hby own_d21_13) rfl (l' := #[.val (.ref o1), .val (.long (y.toInt64)), .second, .val (.long ((4 : Int32).toInt64)), .second, .val (.long (0 : Int64)), .second]) rfl k) ?_
  refine own_st (V := T64.setTop (mkF m 17 #[.val (.ref o1), .val (.long (y.toInt64)), .second, .val (.long ((4 : Int32).toInt64)), .second, .val (.long (0 : Int64)), .second] [(.long (0 : Int64))])) (fun t k => XS.lload X64.here hx rfl (hb hby own_d21_15) rfl k) ?_
  refine own_st (V := T64.setTop (mkF m 20 #[.val (.ref o1), .val (.long (y.toInt64)), .second, .val (.long ((4 : Int32).toInt64)), .second, .val (.long (0 : Int64)), .second] [(.long (365 : Int64)), (.long (0 : Int64))])) (fun t k => X64.ldc2Long hx hown (mvT hZ (hw _ (List.mem_of_getElem? (i := 136) rfl))) (g := (mkF m 17 #[.val (.ref o1), .val (.long (y.toInt64)), .second, .val (.long ((4 : Int32).toInt64)), .second, .val (.long (0 : Int64)), .second] [(.long (0 : Int64))])) rfl (hb hby own_d21_17) t k) ?_
  refine own_st (V := T64.setTop (mkF m 21 #[.val (.ref o1), .val (.long (y.toInt64)), .second, .val (.long ((4 : Int32).toInt64)), .second, .val (.long (0 : Int64)), .second] [(.long (y.toInt64)), (.long (365 : Int64)), (.long (0 : Int64))])) (fun t k => XS.lloadN X64.here hx rfl (hb hby own_d21_20) rfl k) ?_
  refine own_st (V := T64.setTop (mkF m 22 #[.val (.ref o1), .val (.long (y.toInt64)), .second, .val (.long ((4 : Int32).toInt64)), .second, .val (.long (0 : Int64)), .second] [(.long ((365 : Int64) * (y.toInt64))), (.long (0 : Int64))])) (fun t k => XS.lmul X64.here hx rfl (hb hby own_d21_21) rfl k) ?_
  refine own_st (V := T64.setTop (mkF m 23 #[.val (.ref o1), .val (.long (y.toInt64)), .second, .val (.long ((4 : Int32).toInt64)), .second, .val (.long (0 : Int64)), .second] [(.long ((0 : Int64) + ((365 : Int64) * (y.toInt64))))])) (fun t k => XS.ladd X64.here hx rfl (hb hby own_d21_22) rfl k) ?_
  refine own_st (V := T64.setTop (mkF m 25 #[.val (.ref o1), .val (.long (y.toInt64)), .second, .val (.long ((4 : Int32).toInt64)), .second, .val (.long ((0 : Int64) + ((365 : Int64) * (y.toInt64)))), .second] [])) (fun t k => XS.lstore X64.here hx rfl (hb hby own_d21_23) rfl (l' := #[.val (.ref o1), .val (.long (y.toInt64)), .second, .val (.long ((4 : Int32).toInt64)), .second, .val (.long ((0 : Int64) + ((365 : Int64) * (y.toInt64)))), .second]) rfl k) ?_
  refine own_st (V := T64.setTop (mkF m 26 #[.val (.ref o1), .val (.long (y.toInt64)), .second, .val (.long ((4 : Int32).toInt64)), .second, .val (.long ((0 : Int64) + ((365 : Int64) * (y.toInt64)))), .second] [(.long (y.toInt64))])) (fun t k => XS.lloadN X64.here hx rfl (hb hby own_d21_25) rfl k) ?_
  refine own_st (V := T64.setTop (mkF m 27 #[.val (.ref o1), .val (.long (y.toInt64)), .second, .val (.long ((4 : Int32).toInt64)), .second, .val (.long ((0 : Int64) + ((365 : Int64) * (y.toInt64)))), .second] [(.long (0 : Int64)), (.long (y.toInt64))])) (fun t k => XS.lconst X64.here hx rfl (hb hby own_d21_26) k) ?_
  refine own_st (V := T64.setTop (mkF m 28 #[.val (.ref o1), .val (.long (y.toInt64)), .second, .val (.long ((4 : Int32).toInt64)), .second, .val (.long ((0 : Int64) + ((365 : Int64) * (y.toInt64)))), .second] [(.int (lcmpW (y.toInt64) (0 : Int64)))])) (fun t k => XS.lcmp X64.here hx rfl (hb hby own_d21_27) rfl k) ?_
  refine own_st (V := T64.setTop (mkF m 31 #[.val (.ref o1), .val (.long (y.toInt64)), .second, .val (.long ((4 : Int32).toInt64)), .second, .val (.long ((0 : Int64) + ((365 : Int64) * (y.toInt64)))), .second] [])) (fun t k => XS.ifNo X64.here hx rfl (hb hby own_d21_28) rfl ((if0 _ _).trans (flt (own_lt0 (by have z : (0 : Int64).toInt = 0 := (by decide); rw [c_i2l]; omega))).1) k) ?_
  refine own_st (V := T64.setTop (mkF m 33 #[.val (.ref o1), .val (.long (y.toInt64)), .second, .val (.long ((4 : Int32).toInt64)), .second, .val (.long ((0 : Int64) + ((365 : Int64) * (y.toInt64)))), .second] [(.long ((0 : Int64) + ((365 : Int64) * (y.toInt64))))])) (fun t k => XS.lload X64.here hx rfl (hb hby own_d21_31) rfl k) ?_
  refine own_st (V := T64.setTop (mkF m 34 #[.val (.ref o1), .val (.long (y.toInt64)), .second, .val (.long ((4 : Int32).toInt64)), .second, .val (.long ((0 : Int64) + ((365 : Int64) * (y.toInt64)))), .second] [(.long (y.toInt64)), (.long ((0 : Int64) + ((365 : Int64) * (y.toInt64))))])) (fun t k => XS.lloadN X64.here hx rfl (hb hby own_d21_33) rfl k) ?_
  refine own_st (V := T64.setTop (mkF m 37 #[.val (.ref o1), .val (.long (y.toInt64)), .second, .val (.long ((4 : Int32).toInt64)), .second, .val (.long ((0 : Int64) + ((365 : Int64) * (y.toInt64)))), .second] [(.long (3 : Int64)), (.long (y.toInt64)), (.long ((0 : Int64) + ((365 : Int64) * (y.toInt64))))])) (fun t k => X64.ldc2Long hx hown (mvT hZ (hw _ (List.mem_of_getElem? (i := 137) rfl))) (g := (mkF m 34 #[.val (.ref o1), .val (.long (y.toInt64)), .second, .val (.long ((4 : Int32).toInt64)), .second, .val (.long ((0 : Int64) + ((365 : Int64) * (y.toInt64)))), .second] [(.long (y.toInt64)), (.long ((0 : Int64) + ((365 : Int64) * (y.toInt64))))])) rfl (hb hby own_d21_34) t k) ?_
  refine own_st (V := T64.setTop (mkF m 38 #[.val (.ref o1), .val (.long (y.toInt64)), .second, .val (.long ((4 : Int32).toInt64)), .second, .val (.long ((0 : Int64) + ((365 : Int64) * (y.toInt64)))), .second] [(.long ((y.toInt64) + (3 : Int64))), (.long ((0 : Int64) + ((365 : Int64) * (y.toInt64))))])) (fun t k => XS.ladd X64.here hx rfl (hb hby own_d21_37) rfl k) ?_
  refine own_st (V := T64.setTop (mkF m 41 #[.val (.ref o1), .val (.long (y.toInt64)), .second, .val (.long ((4 : Int32).toInt64)), .second, .val (.long ((0 : Int64) + ((365 : Int64) * (y.toInt64)))), .second] [(.long (4 : Int64)), (.long ((y.toInt64) + (3 : Int64))), (.long ((0 : Int64) + ((365 : Int64) * (y.toInt64))))])) (fun t k => X64.ldc2Long hx hown (mvT hZ (hw _ (List.mem_of_getElem? (i := 138) rfl))) (g := (mkF m 38 #[.val (.ref o1), .val (.long (y.toInt64)), .second, .val (.long ((4 : Int32).toInt64)), .second, .val (.long ((0 : Int64) + ((365 : Int64) * (y.toInt64)))), .second] [(.long ((y.toInt64) + (3 : Int64))), (.long ((0 : Int64) + ((365 : Int64) * (y.toInt64))))])) rfl (hb hby own_d21_38) t k) ?_
  refine own_st (V := T64.setTop (mkF m 42 #[.val (.ref o1), .val (.long (y.toInt64)), .second, .val (.long ((4 : Int32).toInt64)), .second, .val (.long ((0 : Int64) + ((365 : Int64) * (y.toInt64)))), .second] [(.long (((y.toInt64) + (3 : Int64)) / (4 : Int64))), (.long ((0 : Int64) + ((365 : Int64) * (y.toInt64))))])) (fun t k => XS.ldiv X64.here hx rfl (hb hby own_d21_41) rfl (by decide) k) ?_
  refine own_st (V := T64.setTop (mkF m 43 #[.val (.ref o1), .val (.long (y.toInt64)), .second, .val (.long ((4 : Int32).toInt64)), .second, .val (.long ((0 : Int64) + ((365 : Int64) * (y.toInt64)))), .second] [(.long (y.toInt64)), (.long (((y.toInt64) + (3 : Int64)) / (4 : Int64))), (.long ((0 : Int64) + ((365 : Int64) * (y.toInt64))))])) (fun t k => XS.lloadN X64.here hx rfl (hb hby own_d21_42) rfl k) ?_
  refine own_st (V := T64.setTop (mkF m 46 #[.val (.ref o1), .val (.long (y.toInt64)), .second, .val (.long ((4 : Int32).toInt64)), .second, .val (.long ((0 : Int64) + ((365 : Int64) * (y.toInt64)))), .second] [(.long (99 : Int64)), (.long (y.toInt64)), (.long (((y.toInt64) + (3 : Int64)) / (4 : Int64))), (.long ((0 : Int64) + ((365 : Int64) * (y.toInt64))))])) (fun t k => X64.ldc2Long hx hown (mvT hZ (hw _ (List.mem_of_getElem? (i := 139) rfl))) (g := (mkF m 43 #[.val (.ref o1), .val (.long (y.toInt64)), .second, .val (.long ((4 : Int32).toInt64)), .second, .val (.long ((0 : Int64) + ((365 : Int64) * (y.toInt64)))), .second] [(.long (y.toInt64)), (.long (((y.toInt64) + (3 : Int64)) / (4 : Int64))), (.long ((0 : Int64) + ((365 : Int64) * (y.toInt64))))])) rfl (hb hby own_d21_43) t k) ?_
  refine own_st (V := T64.setTop (mkF m 47 #[.val (.ref o1), .val (.long (y.toInt64)), .second, .val (.long ((4 : Int32).toInt64)), .second, .val (.long ((0 : Int64) + ((365 : Int64) * (y.toInt64)))), .second] [(.long ((y.toInt64) + (99 : Int64))), (.long (((y.toInt64) + (3 : Int64)) / (4 : Int64))), (.long ((0 : Int64) + ((365 : Int64) * (y.toInt64))))])) (fun t k => XS.ladd X64.here hx rfl (hb hby own_d21_46) rfl k) ?_
  refine own_st (V := T64.setTop (mkF m 50 #[.val (.ref o1), .val (.long (y.toInt64)), .second, .val (.long ((4 : Int32).toInt64)), .second, .val (.long ((0 : Int64) + ((365 : Int64) * (y.toInt64)))), .second] [(.long (100 : Int64)), (.long ((y.toInt64) + (99 : Int64))), (.long (((y.toInt64) + (3 : Int64)) / (4 : Int64))), (.long ((0 : Int64) + ((365 : Int64) * (y.toInt64))))])) (fun t k => X64.ldc2Long hx hown (mvT hZ (hw _ (List.mem_of_getElem? (i := 140) rfl))) (g := (mkF m 47 #[.val (.ref o1), .val (.long (y.toInt64)), .second, .val (.long ((4 : Int32).toInt64)), .second, .val (.long ((0 : Int64) + ((365 : Int64) * (y.toInt64)))), .second] [(.long ((y.toInt64) + (99 : Int64))), (.long (((y.toInt64) + (3 : Int64)) / (4 : Int64))), (.long ((0 : Int64) + ((365 : Int64) * (y.toInt64))))])) rfl (hb hby own_d21_47) t k) ?_
  refine own_st (V := T64.setTop (mkF m 51 #[.val (.ref o1), .val (.long (y.toInt64)), .second, .val (.long ((4 : Int32).toInt64)), .second, .val (.long ((0 : Int64) + ((365 : Int64) * (y.toInt64)))), .second] [(.long (((y.toInt64) + (99 : Int64)) / (100 : Int64))), (.long (((y.toInt64) + (3 : Int64)) / (4 : Int64))), (.long ((0 : Int64) + ((365 : Int64) * (y.toInt64))))])) (fun t k => XS.ldiv X64.here hx rfl (hb hby own_d21_50) rfl (by decide) k) ?_
  refine own_st (V := T64.setTop (mkF m 52 #[.val (.ref o1), .val (.long (y.toInt64)), .second, .val (.long ((4 : Int32).toInt64)), .second, .val (.long ((0 : Int64) + ((365 : Int64) * (y.toInt64)))), .second] [(.long ((((y.toInt64) + (3 : Int64)) / (4 : Int64)) - (((y.toInt64) + (99 : Int64)) / (100 : Int64)))), (.long ((0 : Int64) + ((365 : Int64) * (y.toInt64))))])) (fun t k => XS.lsub X64.here hx rfl (hb hby own_d21_51) rfl k) ?_
  refine own_st (V := T64.setTop (mkF m 53 #[.val (.ref o1), .val (.long (y.toInt64)), .second, .val (.long ((4 : Int32).toInt64)), .second, .val (.long ((0 : Int64) + ((365 : Int64) * (y.toInt64)))), .second] [(.long (y.toInt64)), (.long ((((y.toInt64) + (3 : Int64)) / (4 : Int64)) - (((y.toInt64) + (99 : Int64)) / (100 : Int64)))), (.long ((0 : Int64) + ((365 : Int64) * (y.toInt64))))])) (fun t k => XS.lloadN X64.here hx rfl (hb hby own_d21_52) rfl k) ?_
  refine own_st (V := T64.setTop (mkF m 56 #[.val (.ref o1), .val (.long (y.toInt64)), .second, .val (.long ((4 : Int32).toInt64)), .second, .val (.long ((0 : Int64) + ((365 : Int64) * (y.toInt64)))), .second] [(.long (399 : Int64)), (.long (y.toInt64)), (.long ((((y.toInt64) + (3 : Int64)) / (4 : Int64)) - (((y.toInt64) + (99 : Int64)) / (100 : Int64)))), (.long ((0 : Int64) + ((365 : Int64) * (y.toInt64))))])) (fun t k => X64.ldc2Long hx hown (mvT hZ (hw _ (List.mem_of_getElem? (i := 141) rfl))) (g := (mkF m 53 #[.val (.ref o1), .val (.long (y.toInt64)), .second, .val (.long ((4 : Int32).toInt64)), .second, .val (.long ((0 : Int64) + ((365 : Int64) * (y.toInt64)))), .second] [(.long (y.toInt64)), (.long ((((y.toInt64) + (3 : Int64)) / (4 : Int64)) - (((y.toInt64) + (99 : Int64)) / (100 : Int64)))), (.long ((0 : Int64) + ((365 : Int64) * (y.toInt64))))])) rfl (hb hby own_d21_53) t k) ?_
  refine own_st (V := T64.setTop (mkF m 57 #[.val (.ref o1), .val (.long (y.toInt64)), .second, .val (.long ((4 : Int32).toInt64)), .second, .val (.long ((0 : Int64) + ((365 : Int64) * (y.toInt64)))), .second] [(.long ((y.toInt64) + (399 : Int64))), (.long ((((y.toInt64) + (3 : Int64)) / (4 : Int64)) - (((y.toInt64) + (99 : Int64)) / (100 : Int64)))), (.long ((0 : Int64) + ((365 : Int64) * (y.toInt64))))])) (fun t k => XS.ladd X64.here hx rfl (hb hby own_d21_56) rfl k) ?_
  refine own_st (V := T64.setTop (mkF m 60 #[.val (.ref o1), .val (.long (y.toInt64)), .second, .val (.long ((4 : Int32).toInt64)), .second, .val (.long ((0 : Int64) + ((365 : Int64) * (y.toInt64)))), .second] [(.long (400 : Int64)), (.long ((y.toInt64) + (399 : Int64))), (.long ((((y.toInt64) + (3 : Int64)) / (4 : Int64)) - (((y.toInt64) + (99 : Int64)) / (100 : Int64)))), (.long ((0 : Int64) + ((365 : Int64) * (y.toInt64))))])) (fun t k => X64.ldc2Long hx hown (mvT hZ (hw _ (List.mem_of_getElem? (i := 142) rfl))) (g := (mkF m 57 #[.val (.ref o1), .val (.long (y.toInt64)), .second, .val (.long ((4 : Int32).toInt64)), .second, .val (.long ((0 : Int64) + ((365 : Int64) * (y.toInt64)))), .second] [(.long ((y.toInt64) + (399 : Int64))), (.long ((((y.toInt64) + (3 : Int64)) / (4 : Int64)) - (((y.toInt64) + (99 : Int64)) / (100 : Int64)))), (.long ((0 : Int64) + ((365 : Int64) * (y.toInt64))))])) rfl (hb hby own_d21_57) t k) ?_
  refine own_st (V := T64.setTop (mkF m 61 #[.val (.ref o1), .val (.long (y.toInt64)), .second, .val (.long ((4 : Int32).toInt64)), .second, .val (.long ((0 : Int64) + ((365 : Int64) * (y.toInt64)))), .second] [(.long (((y.toInt64) + (399 : Int64)) / (400 : Int64))), (.long ((((y.toInt64) + (3 : Int64)) / (4 : Int64)) - (((y.toInt64) + (99 : Int64)) / (100 : Int64)))), (.long ((0 : Int64) + ((365 : Int64) * (y.toInt64))))])) (fun t k => XS.ldiv X64.here hx rfl (hb hby own_d21_60) rfl (by decide) k) ?_
  refine own_st (V := T64.setTop (mkF m 62 #[.val (.ref o1), .val (.long (y.toInt64)), .second, .val (.long ((4 : Int32).toInt64)), .second, .val (.long ((0 : Int64) + ((365 : Int64) * (y.toInt64)))), .second] [(.long (((((y.toInt64) + (3 : Int64)) / (4 : Int64)) - (((y.toInt64) + (99 : Int64)) / (100 : Int64))) + (((y.toInt64) + (399 : Int64)) / (400 : Int64)))), (.long ((0 : Int64) + ((365 : Int64) * (y.toInt64))))])) (fun t k => XS.ladd X64.here hx rfl (hb hby own_d21_61) rfl k) ?_
  refine own_st (V := T64.setTop (mkF m 63 #[.val (.ref o1), .val (.long (y.toInt64)), .second, .val (.long ((4 : Int32).toInt64)), .second, .val (.long ((0 : Int64) + ((365 : Int64) * (y.toInt64)))), .second] [(.long (((0 : Int64) + ((365 : Int64) * (y.toInt64))) + (((((y.toInt64) + (3 : Int64)) / (4 : Int64)) - (((y.toInt64) + (99 : Int64)) / (100 : Int64))) + (((y.toInt64) + (399 : Int64)) / (400 : Int64)))))])) (fun t k => XS.ladd X64.here hx rfl (hb hby own_d21_62) rfl k) ?_
  obtain ⟨t1, g_t1⟩ : ∃ z, z = (((0 : Int64) + ((365 : Int64) * (y.toInt64))) + (((((y.toInt64) + (3 : Int64)) / (4 : Int64)) - (((y.toInt64) + (99 : Int64)) / (100 : Int64))) + (((y.toInt64) + (399 : Int64)) / (400 : Int64)))) := ⟨_, rfl⟩
  rw [← g_t1]
  refine own_st (V := T64.setTop (mkF m 65 #[.val (.ref o1), .val (.long (y.toInt64)), .second, .val (.long ((4 : Int32).toInt64)), .second, .val (.long t1), .second] [])) (fun t k => XS.lstore X64.here hx rfl (hb hby own_d21_63) rfl (l' := #[.val (.ref o1), .val (.long (y.toInt64)), .second, .val (.long ((4 : Int32).toInt64)), .second, .val (.long t1), .second]) rfl k) ?_
  refine own_st (V := T64.setTop (mkF m 90 #[.val (.ref o1), .val (.long (y.toInt64)), .second, .val (.long ((4 : Int32).toInt64)), .second, .val (.long t1), .second] [])) (fun t k => XS.goto X64.here hx rfl (pc0 := 65) (pc' := 90) rfl (hb hby own_d21_65) (by decide) (by decide) k) ?_
  refine own_st (V := T64.setTop (mkF m 92 #[.val (.ref o1), .val (.long (y.toInt64)), .second, .val (.long ((4 : Int32).toInt64)), .second, .val (.long t1), .second] [(.long t1)])) (fun t k => XS.lload X64.here hx rfl (hb hby own_d21_90) rfl k) ?_
  refine own_st (V := T64.setTop (mkF m 95 #[.val (.ref o1), .val (.long (y.toInt64)), .second, .val (.long ((4 : Int32).toInt64)), .second, .val (.long t1), .second] [(.long (367 : Int64)), (.long t1)])) (fun t k => X64.ldc2Long hx hown (mvT hZ (hw _ (List.mem_of_getElem? (i := 143) rfl))) (g := (mkF m 92 #[.val (.ref o1), .val (.long (y.toInt64)), .second, .val (.long ((4 : Int32).toInt64)), .second, .val (.long t1), .second] [(.long t1)])) rfl (hb hby own_d21_92) t k) ?_
  refine own_st (V := T64.setTop (mkF m 96 #[.val (.ref o1), .val (.long (y.toInt64)), .second, .val (.long ((4 : Int32).toInt64)), .second, .val (.long t1), .second] [(.long ((4 : Int32).toInt64)), (.long (367 : Int64)), (.long t1)])) (fun t k => XS.lloadN X64.here hx rfl (hb hby own_d21_95) rfl k) ?_
  refine own_st (V := T64.setTop (mkF m 97 #[.val (.ref o1), .val (.long (y.toInt64)), .second, .val (.long ((4 : Int32).toInt64)), .second, .val (.long t1), .second] [(.long ((367 : Int64) * ((4 : Int32).toInt64))), (.long t1)])) (fun t k => XS.lmul X64.here hx rfl (hb hby own_d21_96) rfl k) ?_
  refine own_st (V := T64.setTop (mkF m 100 #[.val (.ref o1), .val (.long (y.toInt64)), .second, .val (.long ((4 : Int32).toInt64)), .second, .val (.long t1), .second] [(.long (362 : Int64)), (.long ((367 : Int64) * ((4 : Int32).toInt64))), (.long t1)])) (fun t k => X64.ldc2Long hx hown (mvT hZ (hw _ (List.mem_of_getElem? (i := 144) rfl))) (g := (mkF m 97 #[.val (.ref o1), .val (.long (y.toInt64)), .second, .val (.long ((4 : Int32).toInt64)), .second, .val (.long t1), .second] [(.long ((367 : Int64) * ((4 : Int32).toInt64))), (.long t1)])) rfl (hb hby own_d21_97) t k) ?_
  refine own_st (V := T64.setTop (mkF m 101 #[.val (.ref o1), .val (.long (y.toInt64)), .second, .val (.long ((4 : Int32).toInt64)), .second, .val (.long t1), .second] [(.long (((367 : Int64) * ((4 : Int32).toInt64)) - (362 : Int64))), (.long t1)])) (fun t k => XS.lsub X64.here hx rfl (hb hby own_d21_100) rfl k) ?_
  refine own_st (V := T64.setTop (mkF m 104 #[.val (.ref o1), .val (.long (y.toInt64)), .second, .val (.long ((4 : Int32).toInt64)), .second, .val (.long t1), .second] [(.long (12 : Int64)), (.long (((367 : Int64) * ((4 : Int32).toInt64)) - (362 : Int64))), (.long t1)])) (fun t k => X64.ldc2Long hx hown (mvT hZ (hw _ (List.mem_of_getElem? (i := 145) rfl))) (g := (mkF m 101 #[.val (.ref o1), .val (.long (y.toInt64)), .second, .val (.long ((4 : Int32).toInt64)), .second, .val (.long t1), .second] [(.long (((367 : Int64) * ((4 : Int32).toInt64)) - (362 : Int64))), (.long t1)])) rfl (hb hby own_d21_101) t k) ?_
  refine own_st (V := T64.setTop (mkF m 105 #[.val (.ref o1), .val (.long (y.toInt64)), .second, .val (.long ((4 : Int32).toInt64)), .second, .val (.long t1), .second] [(.long ((((367 : Int64) * ((4 : Int32).toInt64)) - (362 : Int64)) / (12 : Int64))), (.long t1)])) (fun t k => XS.ldiv X64.here hx rfl (hb hby own_d21_104) rfl (by decide) k) ?_
  refine own_st (V := T64.setTop (mkF m 106 #[.val (.ref o1), .val (.long (y.toInt64)), .second, .val (.long ((4 : Int32).toInt64)), .second, .val (.long t1), .second] [(.long (t1 + ((((367 : Int64) * ((4 : Int32).toInt64)) - (362 : Int64)) / (12 : Int64))))])) (fun t k => XS.ladd X64.here hx rfl (hb hby own_d21_105) rfl k) ?_
  refine own_st (V := T64.setTop (mkF m 108 #[.val (.ref o1), .val (.long (y.toInt64)), .second, .val (.long ((4 : Int32).toInt64)), .second, .val (.long (t1 + ((((367 : Int64) * ((4 : Int32).toInt64)) - (362 : Int64)) / (12 : Int64)))), .second] [])) (fun t k => XS.lstore X64.here hx rfl (hb hby own_d21_106) rfl (l' := #[.val (.ref o1), .val (.long (y.toInt64)), .second, .val (.long ((4 : Int32).toInt64)), .second, .val (.long (t1 + ((((367 : Int64) * ((4 : Int32).toInt64)) - (362 : Int64)) / (12 : Int64)))), .second]) rfl k) ?_
  refine own_st (V := T64.setTop (mkF m 110 #[.val (.ref o1), .val (.long (y.toInt64)), .second, .val (.long ((4 : Int32).toInt64)), .second, .val (.long (t1 + ((((367 : Int64) * ((4 : Int32).toInt64)) - (362 : Int64)) / (12 : Int64)))), .second] [(.long (t1 + ((((367 : Int64) * ((4 : Int32).toInt64)) - (362 : Int64)) / (12 : Int64))))])) (fun t k => XS.lload X64.here hx rfl (hb hby own_d21_108) rfl k) ?_
  refine own_st (V := T64.setTop (mkF m 111 #[.val (.ref o1), .val (.long (y.toInt64)), .second, .val (.long ((4 : Int32).toInt64)), .second, .val (.long (t1 + ((((367 : Int64) * ((4 : Int32).toInt64)) - (362 : Int64)) / (12 : Int64)))), .second] [(.ref o1), (.long (t1 + ((((367 : Int64) * ((4 : Int32).toInt64)) - (362 : Int64)) / (12 : Int64))))])) (fun t k => XS.aloadN X64.here hx rfl (hb hby own_d21_110) rfl rfl k) ?_
  obtain ⟨T65, X65, e65, st65⟩ := getF X64 hx hZ hown (host := "") (Or.inl (hw _ (List.mem_of_getElem? (i := 94) rfl))) Via.refl e64 FD (g := (mkF m 111 #[.val (.ref o1), .val (.long (y.toInt64)), .second, .val (.long ((4 : Int32).toInt64)), .second, .val (.long (t1 + ((((367 : Int64) * ((4 : Int32).toInt64)) - (362 : Int64)) / (12 : Int64)))), .second] [(.ref o1), (.long (t1 + ((((367 : Int64) * ((4 : Int32).toInt64)) - (362 : Int64)) / (12 : Int64))))])) rfl rfl (hb hby own_d21_111)
  refine own_st (V := T65.setTop (mkF m 114 #[.val (.ref o1), .val (.long (y.toInt64)), .second, .val (.long ((4 : Int32).toInt64)), .second, .val (.long (t1 + ((((367 : Int64) * ((4 : Int32).toInt64)) - (362 : Int64)) / (12 : Int64)))), .second] [(.int d), (.long (t1 + ((((367 : Int64) * ((4 : Int32).toInt64)) - (362 : Int64)) / (12 : Int64))))])) (fun t k => st65 _ k) ?_
  refine own_st (V := T65.setTop (mkF m 115 #[.val (.ref o1), .val (.long (y.toInt64)), .second, .val (.long ((4 : Int32).toInt64)), .second, .val (.long (t1 + ((((367 : Int64) * ((4 : Int32).toInt64)) - (362 : Int64)) / (12 : Int64)))), .second] [(.int (1 : Int32)), (.int d), (.long (t1 + ((((367 : Int64) * ((4 : Int32).toInt64)) - (362 : Int64)) / (12 : Int64))))])) (fun t k => XS.iconst X65.here hx rfl (hb hby own_d21_114) k) ?_
  refine own_st (V := T65.setTop (mkF m 116 #[.val (.ref o1), .val (.long (y.toInt64)), .second, .val (.long ((4 : Int32).toInt64)), .second, .val (.long (t1 + ((((367 : Int64) * ((4 : Int32).toInt64)) - (362 : Int64)) / (12 : Int64)))), .second] [(.int (d - (1 : Int32))), (.long (t1 + ((((367 : Int64) * ((4 : Int32).toInt64)) - (362 : Int64)) / (12 : Int64))))])) (fun t k => XS.isub X65.here hx rfl (hb hby own_d21_115) rfl k) ?_
  refine own_st (V := T65.setTop (mkF m 117 #[.val (.ref o1), .val (.long (y.toInt64)), .second, .val (.long ((4 : Int32).toInt64)), .second, .val (.long (t1 + ((((367 : Int64) * ((4 : Int32).toInt64)) - (362 : Int64)) / (12 : Int64)))), .second] [(.long ((d - (1 : Int32)).toInt64)), (.long (t1 + ((((367 : Int64) * ((4 : Int32).toInt64)) - (362 : Int64)) / (12 : Int64))))])) (fun t k => XS.i2l X65.here hx rfl (hb hby own_d21_116) rfl k) ?_
  refine own_st (V := T65.setTop (mkF m 118 #[.val (.ref o1), .val (.long (y.toInt64)), .second, .val (.long ((4 : Int32).toInt64)), .second, .val (.long (t1 + ((((367 : Int64) * ((4 : Int32).toInt64)) - (362 : Int64)) / (12 : Int64)))), .second] [(.long ((t1 + ((((367 : Int64) * ((4 : Int32).toInt64)) - (362 : Int64)) / (12 : Int64))) + ((d - (1 : Int32)).toInt64)))])) (fun t k => XS.ladd X65.here hx rfl (hb hby own_d21_117) rfl k) ?_
  refine own_st (V := T65.setTop (mkF m 120 #[.val (.ref o1), .val (.long (y.toInt64)), .second, .val (.long ((4 : Int32).toInt64)), .second, .val (.long ((t1 + ((((367 : Int64) * ((4 : Int32).toInt64)) - (362 : Int64)) / (12 : Int64))) + ((d - (1 : Int32)).toInt64))), .second] [])) (fun t k => XS.lstore X65.here hx rfl (hb hby own_d21_118) rfl (l' := #[.val (.ref o1), .val (.long (y.toInt64)), .second, .val (.long ((4 : Int32).toInt64)), .second, .val (.long ((t1 + ((((367 : Int64) * ((4 : Int32).toInt64)) - (362 : Int64)) / (12 : Int64))) + ((d - (1 : Int32)).toInt64))), .second]) rfl k) ?_
  refine own_st (V := T65.setTop (mkF m 121 #[.val (.ref o1), .val (.long (y.toInt64)), .second, .val (.long ((4 : Int32).toInt64)), .second, .val (.long ((t1 + ((((367 : Int64) * ((4 : Int32).toInt64)) - (362 : Int64)) / (12 : Int64))) + ((d - (1 : Int32)).toInt64))), .second] [(.long ((4 : Int32).toInt64))])) (fun t k => XS.lloadN X65.here hx rfl (hb hby own_d21_120) rfl k) ?_
  refine own_st (V := T65.setTop (mkF m 124 #[.val (.ref o1), .val (.long (y.toInt64)), .second, .val (.long ((4 : Int32).toInt64)), .second, .val (.long ((t1 + ((((367 : Int64) * ((4 : Int32).toInt64)) - (362 : Int64)) / (12 : Int64))) + ((d - (1 : Int32)).toInt64))), .second] [(.long (2 : Int64)), (.long ((4 : Int32).toInt64))])) (fun t k => X65.ldc2Long hx hown (mvT hZ (hw _ (List.mem_of_getElem? (i := 146) rfl))) (g := (mkF m 121 #[.val (.ref o1), .val (.long (y.toInt64)), .second, .val (.long ((4 : Int32).toInt64)), .second, .val (.long ((t1 + ((((367 : Int64) * ((4 : Int32).toInt64)) - (362 : Int64)) / (12 : Int64))) + ((d - (1 : Int32)).toInt64))), .second] [(.long ((4 : Int32).toInt64))])) rfl (hb hby own_d21_121) t k) ?_
  refine own_st (V := T65.setTop (mkF m 125 #[.val (.ref o1), .val (.long (y.toInt64)), .second, .val (.long ((4 : Int32).toInt64)), .second, .val (.long ((t1 + ((((367 : Int64) * ((4 : Int32).toInt64)) - (362 : Int64)) / (12 : Int64))) + ((d - (1 : Int32)).toInt64))), .second] [(.int (lcmpW ((4 : Int32).toInt64) (2 : Int64)))])) (fun t k => XS.lcmp X65.here hx rfl (hb hby own_d21_124) rfl k) ?_
  refine own_st (V := T65.setTop (mkF m 128 #[.val (.ref o1), .val (.long (y.toInt64)), .second, .val (.long ((4 : Int32).toInt64)), .second, .val (.long ((t1 + ((((367 : Int64) * ((4 : Int32).toInt64)) - (362 : Int64)) / (12 : Int64))) + ((d - (1 : Int32)).toInt64))), .second] [])) (fun t k => XS.ifNo X65.here hx rfl (hb hby own_d21_125) rfl ((if0 _ _).trans (tlt (own_gt1 (by decide))).2.2.2) k) ?_
  refine own_st (V := T65.setTop (mkF m 130 #[.val (.ref o1), .val (.long (y.toInt64)), .second, .val (.long ((4 : Int32).toInt64)), .second, .val (.long ((t1 + ((((367 : Int64) * ((4 : Int32).toInt64)) - (362 : Int64)) / (12 : Int64))) + ((d - (1 : Int32)).toInt64))), .second] [(.long ((t1 + ((((367 : Int64) * ((4 : Int32).toInt64)) - (362 : Int64)) / (12 : Int64))) + ((d - (1 : Int32)).toInt64)))])) (fun t k => XS.lload X65.here hx rfl (hb hby own_d21_128) rfl k) ?_
  refine own_st (V := T65.setTop (mkF m 131 #[.val (.ref o1), .val (.long (y.toInt64)), .second, .val (.long ((4 : Int32).toInt64)), .second, .val (.long ((t1 + ((((367 : Int64) * ((4 : Int32).toInt64)) - (362 : Int64)) / (12 : Int64))) + ((d - (1 : Int32)).toInt64))), .second] [(.long (1 : Int64)), (.long ((t1 + ((((367 : Int64) * ((4 : Int32).toInt64)) - (362 : Int64)) / (12 : Int64))) + ((d - (1 : Int32)).toInt64)))])) (fun t k => XS.lconst X65.here hx rfl (hb hby own_d21_130) k) ?_
  refine own_st (V := T65.setTop (mkF m 132 #[.val (.ref o1), .val (.long (y.toInt64)), .second, .val (.long ((4 : Int32).toInt64)), .second, .val (.long ((t1 + ((((367 : Int64) * ((4 : Int32).toInt64)) - (362 : Int64)) / (12 : Int64))) + ((d - (1 : Int32)).toInt64))), .second] [(.long (((t1 + ((((367 : Int64) * ((4 : Int32).toInt64)) - (362 : Int64)) / (12 : Int64))) + ((d - (1 : Int32)).toInt64)) - (1 : Int64)))])) (fun t k => XS.lsub X65.here hx rfl (hb hby own_d21_131) rfl k) ?_
  refine own_st (V := T65.setTop (mkF m 134 #[.val (.ref o1), .val (.long (y.toInt64)), .second, .val (.long ((4 : Int32).toInt64)), .second, .val (.long (((t1 + ((((367 : Int64) * ((4 : Int32).toInt64)) - (362 : Int64)) / (12 : Int64))) + ((d - (1 : Int32)).toInt64)) - (1 : Int64))), .second] [])) (fun t k => XS.lstore X65.here hx rfl (hb hby own_d21_132) rfl (l' := #[.val (.ref o1), .val (.long (y.toInt64)), .second, .val (.long ((4 : Int32).toInt64)), .second, .val (.long (((t1 + ((((367 : Int64) * ((4 : Int32).toInt64)) - (362 : Int64)) / (12 : Int64))) + ((d - (1 : Int32)).toInt64)) - (1 : Int64))), .second]) rfl k) ?_
  refine own_st (V := T65.setTop (mkF m 135 #[.val (.ref o1), .val (.long (y.toInt64)), .second, .val (.long ((4 : Int32).toInt64)), .second, .val (.long (((t1 + ((((367 : Int64) * ((4 : Int32).toInt64)) - (362 : Int64)) / (12 : Int64))) + ((d - (1 : Int32)).toInt64)) - (1 : Int64))), .second] [(.ref o1)])) (fun t k => XS.aloadN X65.here hx rfl (hb hby own_d21_134) rfl rfl k) ?_
  obtain ⟨cq66, kq66, q66a, q66b, q66c⟩ := isOf hZ e65 E1
  obtain ⟨_, _, ⟨T66, L66, k66, n66⟩, -, X66, ⟨Lc66, hQ66, l66, y66, z66⟩, st66⟩ := X65.virtualBack hx (y := (⟨"java/time/LocalDate", "isLeapYear", "()Z"⟩ : MethodName)) (z := (⟨"java/time/LocalDate", "isLeapYear", "()Z"⟩ : MethodName)) hown (mvT hZ (hw _ (List.mem_of_getElem? (i := 147) rfl))) (mvT hZ (hw _ (List.mem_of_getElem? (i := 148) rfl))) (notFace_of_selects (args := #[]) (mvT hZ (hw _ (List.mem_of_getElem? (i := 150) rfl)))) (mvT hZ (hw _ (List.mem_of_getElem? (i := 150) rfl))) (mvT hZ (hw _ (List.mem_of_getElem? (i := 149) rfl))) (by decide) (backOf (W := 0) (own_lly0 l Z a0 hw [] o1 y cy ry cd rd ce re mm iso h0 n0 Z0 Od Wd FY hy0 hy1 hl) hZ (hw _ (List.mem_of_getElem? (i := 151) rfl)) (hw _ (List.mem_of_getElem? (i := 10) rfl)) (by decide) (by decide)) q66a q66c (g := (mkF m 135 #[.val (.ref o1), .val (.long (y.toInt64)), .second, .val (.long ((4 : Int32).toInt64)), .second, .val (.long (((t1 + ((((367 : Int64) * ((4 : Int32).toInt64)) - (362 : Int64)) / (12 : Int64))) + ((d - (1 : Int32)).toInt64)) - (1 : Int64))), .second] [(.ref o1)])) rfl (by rw [hml]; rfl) (Steps.refl _) (argsL := []) (rest := []) (lenOf own_pd10 rfl) rfl (by show 2 * 0 + _ ≤ _; exact Nat.le_of_eq rfl) (hb hby own_d21_135) (fun _ _ => ⟨rfl, e65, (by decide : 0 + 0 ≤ _), (by decide : 0 + 0 ≤ _)⟩)
  dsimp only [Pt.U, Pt.locs, Pt.cells, Pt.slots] at X66 l66 y66 z66 st66 hQ66
  subst l66 y66 z66
  obtain ⟨rfl, N66q, e66⟩ := hQ66
  have N66 := Fr.app N0 N66q
  refine own_st (V := T66.setTop (mkF m 138 #[.val (.ref o1), .val (.long (y.toInt64)), .second, .val (.long ((4 : Int32).toInt64)), .second, .val (.long (((t1 + ((((367 : Int64) * ((4 : Int32).toInt64)) - (362 : Int64)) / (12 : Int64))) + ((d - (1 : Int32)).toInt64)) - (1 : Int64))), .second] [(.int (0 : Int32))])) (fun t k => st66.trans k) ?_
  refine own_st (V := T66.setTop (mkF m 141 #[.val (.ref o1), .val (.long (y.toInt64)), .second, .val (.long ((4 : Int32).toInt64)), .second, .val (.long (((t1 + ((((367 : Int64) * ((4 : Int32).toInt64)) - (362 : Int64)) / (12 : Int64))) + ((d - (1 : Int32)).toInt64)) - (1 : Int64))), .second] [])) (fun t k => XS.ifNo X66.here hx rfl (hb hby own_d21_138) rfl ((if0 _ _).trans (teq (by decide : (0 : Int32) = (0 : Int32))).2) k) ?_
  refine own_st (V := T66.setTop (mkF m 143 #[.val (.ref o1), .val (.long (y.toInt64)), .second, .val (.long ((4 : Int32).toInt64)), .second, .val (.long (((t1 + ((((367 : Int64) * ((4 : Int32).toInt64)) - (362 : Int64)) / (12 : Int64))) + ((d - (1 : Int32)).toInt64)) - (1 : Int64))), .second] [(.long (((t1 + ((((367 : Int64) * ((4 : Int32).toInt64)) - (362 : Int64)) / (12 : Int64))) + ((d - (1 : Int32)).toInt64)) - (1 : Int64)))])) (fun t k => XS.lload X66.here hx rfl (hb hby own_d21_141) rfl k) ?_
  refine own_st (V := T66.setTop (mkF m 144 #[.val (.ref o1), .val (.long (y.toInt64)), .second, .val (.long ((4 : Int32).toInt64)), .second, .val (.long (((t1 + ((((367 : Int64) * ((4 : Int32).toInt64)) - (362 : Int64)) / (12 : Int64))) + ((d - (1 : Int32)).toInt64)) - (1 : Int64))), .second] [(.long (1 : Int64)), (.long (((t1 + ((((367 : Int64) * ((4 : Int32).toInt64)) - (362 : Int64)) / (12 : Int64))) + ((d - (1 : Int32)).toInt64)) - (1 : Int64)))])) (fun t k => XS.lconst X66.here hx rfl (hb hby own_d21_143) k) ?_
  refine own_st (V := T66.setTop (mkF m 145 #[.val (.ref o1), .val (.long (y.toInt64)), .second, .val (.long ((4 : Int32).toInt64)), .second, .val (.long (((t1 + ((((367 : Int64) * ((4 : Int32).toInt64)) - (362 : Int64)) / (12 : Int64))) + ((d - (1 : Int32)).toInt64)) - (1 : Int64))), .second] [(.long ((((t1 + ((((367 : Int64) * ((4 : Int32).toInt64)) - (362 : Int64)) / (12 : Int64))) + ((d - (1 : Int32)).toInt64)) - (1 : Int64)) - (1 : Int64)))])) (fun t k => XS.lsub X66.here hx rfl (hb hby own_d21_144) rfl k) ?_
  refine own_st (V := T66.setTop (mkF m 147 #[.val (.ref o1), .val (.long (y.toInt64)), .second, .val (.long ((4 : Int32).toInt64)), .second, .val (.long ((((t1 + ((((367 : Int64) * ((4 : Int32).toInt64)) - (362 : Int64)) / (12 : Int64))) + ((d - (1 : Int32)).toInt64)) - (1 : Int64)) - (1 : Int64))), .second] [])) (fun t k => XS.lstore X66.here hx rfl (hb hby own_d21_145) rfl (l' := #[.val (.ref o1), .val (.long (y.toInt64)), .second, .val (.long ((4 : Int32).toInt64)), .second, .val (.long ((((t1 + ((((367 : Int64) * ((4 : Int32).toInt64)) - (362 : Int64)) / (12 : Int64))) + ((d - (1 : Int32)).toInt64)) - (1 : Int64)) - (1 : Int64))), .second]) rfl k) ?_
  refine own_st (V := T66.setTop (mkF m 149 #[.val (.ref o1), .val (.long (y.toInt64)), .second, .val (.long ((4 : Int32).toInt64)), .second, .val (.long ((((t1 + ((((367 : Int64) * ((4 : Int32).toInt64)) - (362 : Int64)) / (12 : Int64))) + ((d - (1 : Int32)).toInt64)) - (1 : Int64)) - (1 : Int64))), .second] [(.long ((((t1 + ((((367 : Int64) * ((4 : Int32).toInt64)) - (362 : Int64)) / (12 : Int64))) + ((d - (1 : Int32)).toInt64)) - (1 : Int64)) - (1 : Int64)))])) (fun t k => XS.lload X66.here hx rfl (hb hby own_d21_147) rfl k) ?_
  refine own_st (V := T66.setTop (mkF m 152 #[.val (.ref o1), .val (.long (y.toInt64)), .second, .val (.long ((4 : Int32).toInt64)), .second, .val (.long ((((t1 + ((((367 : Int64) * ((4 : Int32).toInt64)) - (362 : Int64)) / (12 : Int64))) + ((d - (1 : Int32)).toInt64)) - (1 : Int64)) - (1 : Int64))), .second] [(.long (719528 : Int64)), (.long ((((t1 + ((((367 : Int64) * ((4 : Int32).toInt64)) - (362 : Int64)) / (12 : Int64))) + ((d - (1 : Int32)).toInt64)) - (1 : Int64)) - (1 : Int64)))])) (fun t k => X66.ldc2Long hx hown (mvT hZ (hw _ (List.mem_of_getElem? (i := 160) rfl))) (g := (mkF m 149 #[.val (.ref o1), .val (.long (y.toInt64)), .second, .val (.long ((4 : Int32).toInt64)), .second, .val (.long ((((t1 + ((((367 : Int64) * ((4 : Int32).toInt64)) - (362 : Int64)) / (12 : Int64))) + ((d - (1 : Int32)).toInt64)) - (1 : Int64)) - (1 : Int64))), .second] [(.long ((((t1 + ((((367 : Int64) * ((4 : Int32).toInt64)) - (362 : Int64)) / (12 : Int64))) + ((d - (1 : Int32)).toInt64)) - (1 : Int64)) - (1 : Int64)))])) rfl (hb hby own_d21_149) t k) ?_
  refine own_st (V := T66.setTop (mkF m 153 #[.val (.ref o1), .val (.long (y.toInt64)), .second, .val (.long ((4 : Int32).toInt64)), .second, .val (.long ((((t1 + ((((367 : Int64) * ((4 : Int32).toInt64)) - (362 : Int64)) / (12 : Int64))) + ((d - (1 : Int32)).toInt64)) - (1 : Int64)) - (1 : Int64))), .second] [(.long (((((t1 + ((((367 : Int64) * ((4 : Int32).toInt64)) - (362 : Int64)) / (12 : Int64))) + ((d - (1 : Int32)).toInt64)) - (1 : Int64)) - (1 : Int64)) - (719528 : Int64)))])) (fun t k => XS.lsub X66.here hx rfl (hb hby own_d21_152) rfl k) ?_
  exact own_ret X66 hx hlk Bd.returns rfl (Or.inr (Or.inl ⟨rfl, rfl, _, rfl⟩)) (hb hby own_d21_153) (by decide) (by decide) (by show Q_own_te0 Z o1 y d cy ry cd rd ce re mm iso h0 n0 _ T66.heap _; rw [e66]; exact ⟨_, rfl, N66, rfl, (by rw [g_t1]; exact own_tev0 y d hy0 hy1 hd1 hd2 hl)⟩)
def Q_own_te (Z : State) (o1 : Addr) (y d : Int32) (cy ry cd rd ce re mm iso : Addr) (h0 : Heap) (n0 : Nat) (v : Option Value) (h : Heap) (L : List Loc) : Prop := ∃ r : Int64, v = some (.long r) ∧ Fr n0 L ∧ h = h0 ∧ r.toInt = 365 * y.toInt + y.toInt / 4 - y.toInt / 100 + y.toInt / 400 + 90 + d.toInt - 719528
theorem own_te (l : Launch) (Z : State) (a0 : Array Value) (hw : ∀ d ∈ tables_1, d.before a0 Z = true) (ws : List Jvm.Cond) (o1 : Addr) (y d : Int32) (cy ry cd rd ce re mm iso : Addr) (h0 : Heap) (n0 : Nat) (Z0 : n0 ≤ h0.size) (Od : Old Z n0 h0) (Wd : own_W Z cy ry cd rd ce re mm iso) (E1 : Exa Z h0 o1 "java/time/LocalDate") (FY : Fld Z h0 o1 "java/time/LocalDate" "year" "I" (.int y)) (FM : Fld Z h0 o1 "java/time/LocalDate" "month" "S" (.int (4 : Int32))) (FD : Fld Z h0 o1 "java/time/LocalDate" "day" "S" (.int d)) (hy0 : 1583 ≤ y.toInt) (hy1 : y.toInt ≤ 999999999) (hd1 : 1 ≤ d.toInt) (hd2 : d.toInt ≤ 2) :
    MetFree l (⟨"java/time/LocalDate", "toEpochDay", "()J"⟩ : MethodName) (head1 (Jvm.Cond.code (⟨"java/time/LocalDate", "toEpochDay", "()J"⟩ : MethodName) jdk_2323_method_67_code 7 (some .long) :: ws) ({ frames := 2, cells := 0, slots := 0, locals := 26 } : Room)) (fun a U => a = #[(.ref o1)] ∧ Z.Warmed39 U.vm ∧ U.heap = h0) (fun _ _ _ _ _ => True) (fun _ U o U' => ∃ v L, o = .returned v ∧ Q_own_te Z o1 y d cy ry cd rd ce re mm iso h0 n0 v U'.heap L ∧ FrameEnd U o U' L ({ frames := 2, cells := 0, slots := 0, locals := 26 } : Room).cells ({ frames := 2, cells := 0, slots := 0, locals := 26 } : Room).slots) := by
  by_cases hl : (y.toInt % 4 = 0 ∧ (¬ (y.toInt % 100 = 0) ∨ y.toInt % 400 = 0))
  · exact own_te1 l Z a0 hw ws o1 y d cy ry cd rd ce re mm iso h0 n0 Z0 Od Wd E1 FY FM FD hy0 hy1 hd1 hd2 hl
  · exact own_te0 l Z a0 hw ws o1 y d cy ry cd rd ce re mm iso h0 n0 Z0 Od Wd E1 FY FM FD hy0 hy1 hd1 hd2 hl
theorem own_ov {q n : Int64} (h0 : -1000000 ≤ q.toInt) (h1 : q.toInt ≤ 400000000000) (hn : n.toInt = -2) : ¬ (((q ^^^ (q + n)) &&& (n ^^^ (q + n))).toInt < (0 : Int64).toInt) := by
  have z : (0 : Int64).toInt = 0 := by decide
  have a := c_ladd q n
  have b := rng64 (q + n)
  have r : (q + n).toInt = q.toInt - 2 := by omega
  have A := c_andSL (q ^^^ (q + n)) (n ^^^ (q + n))
  have X := c_xorSL q (q + n)
  have Y := c_xorSL n (q + n)
  rw [z]
  by_cases s : (q + n).toInt < 0
  · have u := A.2.2 (Y.1 (by omega) s)
    omega
  · have u := A.2.1 (X.2.2.2 (by omega) (by omega))
    omega
def Q_own_ae (Z : State) (q1 n : Int64) (h0 : Heap) (n0 : Nat) (v : Option Value) (h : Heap) (L : List Loc) : Prop := v = some (.long (q1 + n)) ∧ Fr n0 L ∧ h = h0
theorem own_d24_0 : decode jdk_29_method_25_code 0 = .ok (.lload_n 0, 1) := by decide +kernel
theorem own_d24_1 : decode jdk_29_method_25_code 1 = .ok (.lload_n 2, 1) := by decide +kernel
theorem own_d24_2 : decode jdk_29_method_25_code 2 = .ok (.ladd, 1) := by decide +kernel
theorem own_d24_3 : decode jdk_29_method_25_code 3 = .ok (.lstore 4, 2) := by decide +kernel
theorem own_d24_5 : decode jdk_29_method_25_code 5 = .ok (.lload_n 0, 1) := by decide +kernel
theorem own_d24_6 : decode jdk_29_method_25_code 6 = .ok (.lload 4, 2) := by decide +kernel
theorem own_d24_8 : decode jdk_29_method_25_code 8 = .ok (.lxor, 1) := by decide +kernel
theorem own_d24_9 : decode jdk_29_method_25_code 9 = .ok (.lload_n 2, 1) := by decide +kernel
theorem own_d24_10 : decode jdk_29_method_25_code 10 = .ok (.lload 4, 2) := by decide +kernel
theorem own_d24_12 : decode jdk_29_method_25_code 12 = .ok (.lxor, 1) := by decide +kernel
theorem own_d24_13 : decode jdk_29_method_25_code 13 = .ok (.land, 1) := by decide +kernel
theorem own_d24_14 : decode jdk_29_method_25_code 14 = .ok (.lconst 0, 1) := by decide +kernel
theorem own_d24_15 : decode jdk_29_method_25_code 15 = .ok (.lcmp, 1) := by decide +kernel
theorem own_d24_16 : decode jdk_29_method_25_code 16 = .ok (.ifCond .ge 13, 3) := by decide +kernel
theorem own_d24_29 : decode jdk_29_method_25_code 29 = .ok (.lload 4, 2) := by decide +kernel
theorem own_d24_31 : decode jdk_29_method_25_code 31 = .ok (.lreturn, 1) := by decide +kernel
set_option maxRecDepth 65536 in
set_option maxHeartbeats 40000000 in
theorem own_ae (l : Launch) (Z : State) (a0 : Array Value) (hw : ∀ d ∈ tables_1, d.before a0 Z = true) (ws : List Jvm.Cond) (q1 n : Int64) (h0 : Heap) (n0 : Nat) (Z0 : n0 ≤ h0.size) (hx0 : -1000000 ≤ q1.toInt) (hx1 : q1.toInt ≤ 400000000000) (hn : n.toInt = -2) :
    MetFree l (⟨"java/lang/Math", "addExact", "(JJ)J"⟩ : MethodName) (head1 (Jvm.Cond.code (⟨"java/lang/Math", "addExact", "(JJ)J"⟩ : MethodName) jdk_29_method_25_code 6 (some .long) :: ws) ({ frames := 0, cells := 0, slots := 0, locals := 0 } : Room)) (fun a U => a = #[(.long q1), (.long n)] ∧ Z.Warmed39 U.vm ∧ U.heap = h0) (fun _ _ _ _ _ => True) (fun _ U o U' => ∃ v L, o = .returned v ∧ Q_own_ae Z q1 n h0 n0 v U'.heap L ∧ FrameEnd U o U' L ({ frames := 0, cells := 0, slots := 0, locals := 0 } : Room).cells ({ frames := 0, cells := 0, slots := 0, locals := 0 } : Room).slots) := by
  refine MetFree.of_bodySF (Jvm.Free.JP.mathPlain rfl (by decide +kernel)) hisR ?_
  intro p e s m args below meth c s₁ Bd hml0 hP hK
  obtain ⟨rfl, hZ, hh⟩ := hP
  have hx := Bd.exec
  have hby := Bd.bytes
  have hml : c.maxLocals = 6 := hml0
  have hown : s.vm.findClass "java/lang/Math" = some m.cls := findClass_of_methodNamed Bd.named
  have hnm := (name_of_methodNamed Bd.named Bd.method).1
  have hlk : meth.locks = false := BodyLoose.notSynchronized Bd
  have X0 : Stand p l e ({ frames := 0, cells := 0, slots := 0, locals := 0 } : Room) s m #[(.long q1), (.long n)] below meth c s₁ [] 0 0 := Stand.of_body Bd
  have e0 : s₁.heap = h0 := by rw [← hh, Bd.state]; rfl
  have N0 := Fr.nil n0
  show own_Go p e below #[(.long q1), (.long n)] s (fun _ U o U' => ∃ v L, o = .returned v ∧ Q_own_ae Z q1 n h0 n0 v U'.heap L ∧ FrameEnd U o U' L ({ frames := 0, cells := 0, slots := 0, locals := 0 } : Room).cells ({ frames := 0, cells := 0, slots := 0, locals := 0 } : Room).slots) (s₁.setTop (entryFrame m #[(.long q1), (.long n)] 6))
  refine own_st (V := s₁.setTop (mkF m 0 #[.val (.long q1), .second, .val (.long n), .second, .unset, .unset] [])) (fun t k => castTop (by first | (simp [entryFrame, mkF, argsToLocals, Value.category]; done) | rfl) k) ?_
  refine own_st (V := s₁.setTop (mkF m 1 #[.val (.long q1), .second, .val (.long n), .second, .unset, .unset] [(.long q1)])) (fun t k => XS.lloadN X0.here hx rfl (hb hby own_d24_0) rfl k) ?_
  refine own_st (V := s₁.setTop (mkF m 2 #[.val (.long q1), .second, .val (.long n), .second, .unset, .unset] [(.long n), (.long q1)])) (fun t k => XS.lloadN X0.here hx rfl (hb hby own_d24_1) rfl k) ?_
  refine own_st (V := s₁.setTop (mkF m 3 #[.val (.long q1), .second, .val (.long n), .second, .unset, .unset] [(.long (q1 + n))])) (fun t k => XS.ladd X0.here hx rfl (hb hby own_d24_2) rfl k) ?_
  refine own_st (V := s₁.setTop (mkF m 5 #[.val (.long q1), .second, .val (.long n), .second, .val (.long (q1 + n)), .second] [])) (fun t k => XS.lstore X0.here hx rfl (hb hby own_d24_3) rfl (l' := #[.val (.long q1), .second, .val (.long n), .second, .val (.long (q1 + n)), .second]) rfl k) ?_
  refine own_st (V := s₁.setTop (mkF m 6 #[.val (.long q1), .second, .val (.long n), .second, .val (.long (q1 + n)), .second] [(.long q1)])) (fun t k => XS.lloadN X0.here hx rfl (hb hby own_d24_5) rfl k) ?_
  refine own_st (V := s₁.setTop (mkF m 8 #[.val (.long q1), .second, .val (.long n), .second, .val (.long (q1 + n)), .second] [(.long (q1 + n)), (.long q1)])) (fun t k => XS.lload X0.here hx rfl (hb hby own_d24_6) rfl k) ?_
  refine own_st (V := s₁.setTop (mkF m 9 #[.val (.long q1), .second, .val (.long n), .second, .val (.long (q1 + n)), .second] [(.long (q1 ^^^ (q1 + n)))])) (fun t k => XS.lxor X0.here hx rfl (hb hby own_d24_8) rfl k) ?_
  refine own_st (V := s₁.setTop (mkF m 10 #[.val (.long q1), .second, .val (.long n), .second, .val (.long (q1 + n)), .second] [(.long n), (.long (q1 ^^^ (q1 + n)))])) (fun t k => XS.lloadN X0.here hx rfl (hb hby own_d24_9) rfl k) ?_
  refine own_st (V := s₁.setTop (mkF m 12 #[.val (.long q1), .second, .val (.long n), .second, .val (.long (q1 + n)), .second] [(.long (q1 + n)), (.long n), (.long (q1 ^^^ (q1 + n)))])) (fun t k => XS.lload X0.here hx rfl (hb hby own_d24_10) rfl k) ?_
  refine own_st (V := s₁.setTop (mkF m 13 #[.val (.long q1), .second, .val (.long n), .second, .val (.long (q1 + n)), .second] [(.long (n ^^^ (q1 + n))), (.long (q1 ^^^ (q1 + n)))])) (fun t k => XS.lxor X0.here hx rfl (hb hby own_d24_12) rfl k) ?_
  refine own_st (V := s₁.setTop (mkF m 14 #[.val (.long q1), .second, .val (.long n), .second, .val (.long (q1 + n)), .second] [(.long ((q1 ^^^ (q1 + n)) &&& (n ^^^ (q1 + n))))])) (fun t k => XS.land X0.here hx rfl (hb hby own_d24_13) rfl k) ?_
  refine own_st (V := s₁.setTop (mkF m 15 #[.val (.long q1), .second, .val (.long n), .second, .val (.long (q1 + n)), .second] [(.long (0 : Int64)), (.long ((q1 ^^^ (q1 + n)) &&& (n ^^^ (q1 + n))))])) (fun t k => XS.lconst X0.here hx rfl (hb hby own_d24_14) k) ?_
  refine own_st (V := s₁.setTop (mkF m 16 #[.val (.long q1), .second, .val (.long n), .second, .val (.long (q1 + n)), .second] [(.int (lcmpW ((q1 ^^^ (q1 + n)) &&& (n ^^^ (q1 + n))) (0 : Int64)))])) (fun t k => XS.lcmp X0.here hx rfl (hb hby own_d24_15) rfl k) ?_
  refine own_st (V := s₁.setTop (mkF m 29 #[.val (.long q1), .second, .val (.long n), .second, .val (.long (q1 + n)), .second] [])) (fun t k => XS.ifYes X0.here hx rfl (pc0 := 16) (pc' := 29) rfl (hb hby own_d24_16) rfl ((if0 _ _).trans (flt (own_lt0 (own_ov hx0 hx1 hn))).2.1) (by decide) (by decide) k) ?_
  refine own_st (V := s₁.setTop (mkF m 31 #[.val (.long q1), .second, .val (.long n), .second, .val (.long (q1 + n)), .second] [(.long (q1 + n))])) (fun t k => XS.lload X0.here hx rfl (hb hby own_d24_29) rfl k) ?_
  exact own_ret X0 hx hlk Bd.returns rfl (Or.inr (Or.inl ⟨rfl, rfl, _, rfl⟩)) (hb hby own_d24_31) (by decide) (by decide) (by show Q_own_ae Z q1 n h0 n0 _ s₁.heap _; rw [e0]; exact ⟨rfl, N0, rfl⟩)
set_option maxRecDepth 65536 in
set_option maxHeartbeats 40000000 in
theorem own_oe1 (ep : Int64) (h_ep0 : (-1000000 : Int) ≤ ep.toInt) (h_ep1 : ep.toInt ≤ (400000000000 : Int)) : (((ep + (719528 : Int64)) - (60 : Int64))).toInt = ep.toInt + 719468 := by
  have h0 : (ep).toInt = ep.toInt ∧ (-1000000 : Int) ≤ ep.toInt ∧ ep.toInt ≤ (400000000000 : Int) := ⟨rfl, h_ep0, h_ep1⟩
  have h1 : ((719528 : Int64)).toInt = (719528 : Int) ∧ (719528 : Int) ≤ (719528 : Int) ∧ (719528 : Int) ≤ (719528 : Int) := by decide
  have h2 : ((ep + (719528 : Int64))).toInt = (ep.toInt + (719528 : Int)) ∧ (-280472 : Int) ≤ (ep.toInt + (719528 : Int)) ∧ (ep.toInt + (719528 : Int)) ≤ (400000719528 : Int) := own_ladd h0 h1 (by decide)
  have h3 : ((60 : Int64)).toInt = (60 : Int) ∧ (60 : Int) ≤ (60 : Int) ∧ (60 : Int) ≤ (60 : Int) := by decide
  have h4 : (((ep + (719528 : Int64)) - (60 : Int64))).toInt = ((ep.toInt + (719528 : Int)) - (60 : Int)) ∧ (-280532 : Int) ≤ ((ep.toInt + (719528 : Int)) - (60 : Int)) ∧ ((ep.toInt + (719528 : Int)) - (60 : Int)) ≤ (400000719468 : Int) := own_lsub h2 h3 (by decide)
  have z := h4.1
  clear h0 h1 h2 h3 h4
  omega
set_option maxRecDepth 65536 in
set_option maxHeartbeats 40000000 in
theorem own_oe2 (zd : Int64) (h_zd0 : (0 : Int) ≤ zd.toInt) (h_zd1 : zd.toInt ≤ (400000000000 : Int)) : (((((400 : Int64) * zd) + (591 : Int64)) / (146097 : Int64))).toInt = (400 * zd.toInt + 591) / 146097 := by
  have h0 : ((400 : Int64)).toInt = (400 : Int) ∧ (400 : Int) ≤ (400 : Int) ∧ (400 : Int) ≤ (400 : Int) := by decide
  have h1 : (zd).toInt = zd.toInt ∧ (0 : Int) ≤ zd.toInt ∧ zd.toInt ≤ (400000000000 : Int) := ⟨rfl, h_zd0, h_zd1⟩
  have h2 : (((400 : Int64) * zd)).toInt = ((400 : Int) * zd.toInt) ∧ (0 : Int) ≤ ((400 : Int) * zd.toInt) ∧ ((400 : Int) * zd.toInt) ≤ (160000000000000 : Int) := own_lmulL (A := 0) h0.1 h1 (by decide) (by decide)
  have h3 : ((591 : Int64)).toInt = (591 : Int) ∧ (591 : Int) ≤ (591 : Int) ∧ (591 : Int) ≤ (591 : Int) := by decide
  have h4 : ((((400 : Int64) * zd) + (591 : Int64))).toInt = (((400 : Int) * zd.toInt) + (591 : Int)) ∧ (591 : Int) ≤ (((400 : Int) * zd.toInt) + (591 : Int)) ∧ (((400 : Int) * zd.toInt) + (591 : Int)) ≤ (160000000000591 : Int) := own_ladd h2 h3 (by decide)
  have h5 : ((146097 : Int64)).toInt = (146097 : Int) ∧ (146097 : Int) ≤ (146097 : Int) ∧ (146097 : Int) ≤ (146097 : Int) := by decide
  have h6 : (((((400 : Int64) * zd) + (591 : Int64)) / (146097 : Int64))).toInt = ((((400 : Int) * zd.toInt) + (591 : Int)) / (146097 : Int)) ∧ (0 : Int) ≤ ((((400 : Int) * zd.toInt) + (591 : Int)) / (146097 : Int)) ∧ ((((400 : Int) * zd.toInt) + (591 : Int)) / (146097 : Int)) ≤ (1095162802 : Int) := own_ldiv h4 h5.1 (by decide)
  have z := h6.1
  clear h0 h1 h2 h3 h4 h5 h6
  omega
set_option maxRecDepth 65536 in
set_option maxHeartbeats 40000000 in
theorem own_oe3 (zd : Int64) (ye : Int64) (h_zd0 : (0 : Int) ≤ zd.toInt) (h_zd1 : zd.toInt ≤ (400000000000 : Int)) (h_ye0 : (1583 : Int) ≤ ye.toInt) (h_ye1 : ye.toInt ≤ (999999999 : Int)) : ((zd - (((((365 : Int64) * ye) + (ye / (4 : Int64))) - (ye / (100 : Int64))) + (ye / (400 : Int64))))).toInt = zd.toInt - (365 * ye.toInt + ye.toInt / 4 - ye.toInt / 100 + ye.toInt / 400) := by
  have h0 : (zd).toInt = zd.toInt ∧ (0 : Int) ≤ zd.toInt ∧ zd.toInt ≤ (400000000000 : Int) := ⟨rfl, h_zd0, h_zd1⟩
  have h1 : ((365 : Int64)).toInt = (365 : Int) ∧ (365 : Int) ≤ (365 : Int) ∧ (365 : Int) ≤ (365 : Int) := by decide
  have h2 : (ye).toInt = ye.toInt ∧ (1583 : Int) ≤ ye.toInt ∧ ye.toInt ≤ (999999999 : Int) := ⟨rfl, h_ye0, h_ye1⟩
  have h3 : (((365 : Int64) * ye)).toInt = ((365 : Int) * ye.toInt) ∧ (577795 : Int) ≤ ((365 : Int) * ye.toInt) ∧ ((365 : Int) * ye.toInt) ≤ (364999999635 : Int) := own_lmulL (A := 0) h1.1 h2 (by decide) (by decide)
  have h4 : ((4 : Int64)).toInt = (4 : Int) ∧ (4 : Int) ≤ (4 : Int) ∧ (4 : Int) ≤ (4 : Int) := by decide
  have h5 : ((ye / (4 : Int64))).toInt = (ye.toInt / (4 : Int)) ∧ (395 : Int) ≤ (ye.toInt / (4 : Int)) ∧ (ye.toInt / (4 : Int)) ≤ (249999999 : Int) := own_ldiv h2 h4.1 (by decide)
  have h6 : ((((365 : Int64) * ye) + (ye / (4 : Int64)))).toInt = (((365 : Int) * ye.toInt) + (ye.toInt / (4 : Int))) ∧ (578190 : Int) ≤ (((365 : Int) * ye.toInt) + (ye.toInt / (4 : Int))) ∧ (((365 : Int) * ye.toInt) + (ye.toInt / (4 : Int))) ≤ (365249999634 : Int) := own_ladd h3 h5 (by decide)
  have h7 : ((100 : Int64)).toInt = (100 : Int) ∧ (100 : Int) ≤ (100 : Int) ∧ (100 : Int) ≤ (100 : Int) := by decide
  have h8 : ((ye / (100 : Int64))).toInt = (ye.toInt / (100 : Int)) ∧ (15 : Int) ≤ (ye.toInt / (100 : Int)) ∧ (ye.toInt / (100 : Int)) ≤ (9999999 : Int) := own_ldiv h2 h7.1 (by decide)
  have h9 : (((((365 : Int64) * ye) + (ye / (4 : Int64))) - (ye / (100 : Int64)))).toInt = ((((365 : Int) * ye.toInt) + (ye.toInt / (4 : Int))) - (ye.toInt / (100 : Int))) ∧ (-9421809 : Int) ≤ ((((365 : Int) * ye.toInt) + (ye.toInt / (4 : Int))) - (ye.toInt / (100 : Int))) ∧ ((((365 : Int) * ye.toInt) + (ye.toInt / (4 : Int))) - (ye.toInt / (100 : Int))) ≤ (365249999619 : Int) := own_lsub h6 h8 (by decide)
  have h10 : ((400 : Int64)).toInt = (400 : Int) ∧ (400 : Int) ≤ (400 : Int) ∧ (400 : Int) ≤ (400 : Int) := by decide
  have h11 : ((ye / (400 : Int64))).toInt = (ye.toInt / (400 : Int)) ∧ (3 : Int) ≤ (ye.toInt / (400 : Int)) ∧ (ye.toInt / (400 : Int)) ≤ (2499999 : Int) := own_ldiv h2 h10.1 (by decide)
  have h12 : ((((((365 : Int64) * ye) + (ye / (4 : Int64))) - (ye / (100 : Int64))) + (ye / (400 : Int64)))).toInt = (((((365 : Int) * ye.toInt) + (ye.toInt / (4 : Int))) - (ye.toInt / (100 : Int))) + (ye.toInt / (400 : Int))) ∧ (-9421806 : Int) ≤ (((((365 : Int) * ye.toInt) + (ye.toInt / (4 : Int))) - (ye.toInt / (100 : Int))) + (ye.toInt / (400 : Int))) ∧ (((((365 : Int) * ye.toInt) + (ye.toInt / (4 : Int))) - (ye.toInt / (100 : Int))) + (ye.toInt / (400 : Int))) ≤ (365252499618 : Int) := own_ladd h9 h11 (by decide)
  have h13 : ((zd - (((((365 : Int64) * ye) + (ye / (4 : Int64))) - (ye / (100 : Int64))) + (ye / (400 : Int64))))).toInt = (zd.toInt - (((((365 : Int) * ye.toInt) + (ye.toInt / (4 : Int))) - (ye.toInt / (100 : Int))) + (ye.toInt / (400 : Int)))) ∧ (-365252499618 : Int) ≤ (zd.toInt - (((((365 : Int) * ye.toInt) + (ye.toInt / (4 : Int))) - (ye.toInt / (100 : Int))) + (ye.toInt / (400 : Int)))) ∧ (zd.toInt - (((((365 : Int) * ye.toInt) + (ye.toInt / (4 : Int))) - (ye.toInt / (100 : Int))) + (ye.toInt / (400 : Int)))) ≤ (400009421806 : Int) := own_lsub h0 h12 (by decide)
  have z := h13.1
  clear h0 h1 h2 h3 h4 h5 h6 h7 h8 h9 h10 h11 h12 h13
  omega
set_option maxRecDepth 65536 in
set_option maxHeartbeats 40000000 in
theorem own_oe4 (do_ : Int32) (h_do_0 : (29 : Int) ≤ do_.toInt) (h_do_1 : do_.toInt ≤ (30 : Int)) : ((((do_ * (5 : Int32)) + (2 : Int32)) / (153 : Int32))).toInt = (5 * do_.toInt + 2) / 153 := by
  have h0 : (do_).toInt = do_.toInt ∧ (29 : Int) ≤ do_.toInt ∧ do_.toInt ≤ (30 : Int) := ⟨rfl, h_do_0, h_do_1⟩
  have h1 : ((5 : Int32)).toInt = (5 : Int) ∧ (5 : Int) ≤ (5 : Int) ∧ (5 : Int) ≤ (5 : Int) := by decide
  have h2 : ((do_ * (5 : Int32))).toInt = (do_.toInt * (5 : Int)) ∧ (145 : Int) ≤ (do_.toInt * (5 : Int)) ∧ (do_.toInt * (5 : Int)) ≤ (150 : Int) := own_imulR h0 h1.1 (by decide) (by decide)
  have h3 : ((2 : Int32)).toInt = (2 : Int) ∧ (2 : Int) ≤ (2 : Int) ∧ (2 : Int) ≤ (2 : Int) := by decide
  have h4 : (((do_ * (5 : Int32)) + (2 : Int32))).toInt = ((do_.toInt * (5 : Int)) + (2 : Int)) ∧ (147 : Int) ≤ ((do_.toInt * (5 : Int)) + (2 : Int)) ∧ ((do_.toInt * (5 : Int)) + (2 : Int)) ≤ (152 : Int) := own_iadd h2 h3 (by decide)
  have h5 : ((153 : Int32)).toInt = (153 : Int) ∧ (153 : Int) ≤ (153 : Int) ∧ (153 : Int) ≤ (153 : Int) := by decide
  have h6 : ((((do_ * (5 : Int32)) + (2 : Int32)) / (153 : Int32))).toInt = (((do_.toInt * (5 : Int)) + (2 : Int)) / (153 : Int)) ∧ (0 : Int) ≤ (((do_.toInt * (5 : Int)) + (2 : Int)) / (153 : Int)) ∧ (((do_.toInt * (5 : Int)) + (2 : Int)) / (153 : Int)) ≤ (0 : Int) := own_idiv h4 h5.1 (by decide)
  have z := h6.1
  clear h0 h1 h2 h3 h4 h5 h6
  omega
set_option maxRecDepth 65536 in
set_option maxHeartbeats 40000000 in
theorem own_oe5 (do_ : Int32) (h_do_0 : (29 : Int) ≤ do_.toInt) (h_do_1 : do_.toInt ≤ (30 : Int)) : (((do_ - ((((0 : Int32) * (306 : Int32)) + (5 : Int32)) / (10 : Int32))) + (1 : Int32))).toInt = do_.toInt + 1 := by
  have h0 : (do_).toInt = do_.toInt ∧ (29 : Int) ≤ do_.toInt ∧ do_.toInt ≤ (30 : Int) := ⟨rfl, h_do_0, h_do_1⟩
  have h1 : ((0 : Int32)).toInt = (0 : Int) ∧ (0 : Int) ≤ (0 : Int) ∧ (0 : Int) ≤ (0 : Int) := by decide
  have h2 : ((306 : Int32)).toInt = (306 : Int) ∧ (306 : Int) ≤ (306 : Int) ∧ (306 : Int) ≤ (306 : Int) := by decide
  have h3 : (((0 : Int32) * (306 : Int32))).toInt = ((0 : Int) * (306 : Int)) ∧ (0 : Int) ≤ ((0 : Int) * (306 : Int)) ∧ ((0 : Int) * (306 : Int)) ≤ (0 : Int) := own_imulL (A := 0) h1.1 h2 (by decide) (by decide)
  have h4 : ((5 : Int32)).toInt = (5 : Int) ∧ (5 : Int) ≤ (5 : Int) ∧ (5 : Int) ≤ (5 : Int) := by decide
  have h5 : ((((0 : Int32) * (306 : Int32)) + (5 : Int32))).toInt = (((0 : Int) * (306 : Int)) + (5 : Int)) ∧ (5 : Int) ≤ (((0 : Int) * (306 : Int)) + (5 : Int)) ∧ (((0 : Int) * (306 : Int)) + (5 : Int)) ≤ (5 : Int) := own_iadd h3 h4 (by decide)
  have h6 : ((10 : Int32)).toInt = (10 : Int) ∧ (10 : Int) ≤ (10 : Int) ∧ (10 : Int) ≤ (10 : Int) := by decide
  have h7 : (((((0 : Int32) * (306 : Int32)) + (5 : Int32)) / (10 : Int32))).toInt = ((((0 : Int) * (306 : Int)) + (5 : Int)) / (10 : Int)) ∧ (0 : Int) ≤ ((((0 : Int) * (306 : Int)) + (5 : Int)) / (10 : Int)) ∧ ((((0 : Int) * (306 : Int)) + (5 : Int)) / (10 : Int)) ≤ (0 : Int) := own_idiv h5 h6.1 (by decide)
  have h8 : ((do_ - ((((0 : Int32) * (306 : Int32)) + (5 : Int32)) / (10 : Int32)))).toInt = (do_.toInt - ((((0 : Int) * (306 : Int)) + (5 : Int)) / (10 : Int))) ∧ (29 : Int) ≤ (do_.toInt - ((((0 : Int) * (306 : Int)) + (5 : Int)) / (10 : Int))) ∧ (do_.toInt - ((((0 : Int) * (306 : Int)) + (5 : Int)) / (10 : Int))) ≤ (30 : Int) := own_isub h0 h7 (by decide)
  have h9 : ((1 : Int32)).toInt = (1 : Int) ∧ (1 : Int) ≤ (1 : Int) ∧ (1 : Int) ≤ (1 : Int) := by decide
  have h10 : (((do_ - ((((0 : Int32) * (306 : Int32)) + (5 : Int32)) / (10 : Int32))) + (1 : Int32))).toInt = ((do_.toInt - ((((0 : Int) * (306 : Int)) + (5 : Int)) / (10 : Int))) + (1 : Int)) ∧ (30 : Int) ≤ ((do_.toInt - ((((0 : Int) * (306 : Int)) + (5 : Int)) / (10 : Int))) + (1 : Int)) ∧ ((do_.toInt - ((((0 : Int) * (306 : Int)) + (5 : Int)) / (10 : Int))) + (1 : Int)) ≤ (31 : Int) := own_iadd h8 h9 (by decide)
  have z := h10.1
  clear h0 h1 h2 h3 h4 h5 h6 h7 h8 h9 h10
  omega
set_option maxRecDepth 65536 in
set_option maxHeartbeats 40000000 in
theorem own_oe6 (ye : Int64) (h_ye0 : (1583 : Int) ≤ ye.toInt) (h_ye1 : ye.toInt ≤ (999999999 : Int)) : (((ye + (0 : Int64)).toInt32)).toInt = ye.toInt := by
  have h0 : (ye).toInt = ye.toInt ∧ (1583 : Int) ≤ ye.toInt ∧ ye.toInt ≤ (999999999 : Int) := ⟨rfl, h_ye0, h_ye1⟩
  have h1 : ((0 : Int64)).toInt = (0 : Int) ∧ (0 : Int) ≤ (0 : Int) ∧ (0 : Int) ≤ (0 : Int) := by decide
  have h2 : ((ye + (0 : Int64))).toInt = (ye.toInt + (0 : Int)) ∧ (1583 : Int) ≤ (ye.toInt + (0 : Int)) ∧ (ye.toInt + (0 : Int)) ≤ (999999999 : Int) := own_ladd h0 h1 (by decide)
  have h3 : (((ye + (0 : Int64)).toInt32)).toInt = (ye.toInt + (0 : Int)) ∧ (1583 : Int) ≤ (ye.toInt + (0 : Int)) ∧ (ye.toInt + (0 : Int)) ≤ (999999999 : Int) := own_l2i' h2 (by decide)
  have z := h3.1
  clear h0 h1 h2 h3
  omega
def Q_own_oe (Z : State) (ep : Int64) (y : Int32) (D : Int) (cy ry cd rd ce re mm iso : Addr) (h0 : Heap) (n0 : Nat) (v : Option Value) (h : Heap) (L : List Loc) : Prop := ∃ b r, v = some (.ref b) ∧ Fr n0 L ∧ Keep h0 h [] ∧ Exa Z h b "java/time/LocalDate" ∧ Fld Z h b "java/time/LocalDate" "year" "I" (.int y) ∧ Fld Z h b "java/time/LocalDate" "month" "S" (.int (3 : Int32)) ∧ Fld Z h b "java/time/LocalDate" "day" "S" (.int r) ∧ r.toInt = D
theorem own_d25_0 : decode jdk_2323_method_8_code 0 = .ok (.getstatic 161, 3) := by decide +kernel
theorem own_d25_3 : decode jdk_2323_method_8_code 3 = .ok (.lload_n 0, 1) := by decide +kernel
theorem own_d25_4 : decode jdk_2323_method_8_code 4 = .ok (.invokevirtual 45, 3) := by decide +kernel
theorem own_d25_7 : decode jdk_2323_method_8_code 7 = .ok (.pop2, 1) := by decide +kernel
theorem own_d25_8 : decode jdk_2323_method_8_code 8 = .ok (.lload_n 0, 1) := by decide +kernel
theorem own_d25_9 : decode jdk_2323_method_8_code 9 = .ok (.ldc2_w 164, 3) := by decide +kernel
theorem own_d25_12 : decode jdk_2323_method_8_code 12 = .ok (.ladd, 1) := by decide +kernel
theorem own_d25_13 : decode jdk_2323_method_8_code 13 = .ok (.lstore_n 2, 1) := by decide +kernel
theorem own_d25_14 : decode jdk_2323_method_8_code 14 = .ok (.lload_n 2, 1) := by decide +kernel
theorem own_d25_15 : decode jdk_2323_method_8_code 15 = .ok (.ldc2_w 166, 3) := by decide +kernel
theorem own_d25_18 : decode jdk_2323_method_8_code 18 = .ok (.lsub, 1) := by decide +kernel
theorem own_d25_19 : decode jdk_2323_method_8_code 19 = .ok (.lstore_n 2, 1) := by decide +kernel
theorem own_d25_20 : decode jdk_2323_method_8_code 20 = .ok (.lconst 0, 1) := by decide +kernel
theorem own_d25_21 : decode jdk_2323_method_8_code 21 = .ok (.lstore 4, 2) := by decide +kernel
theorem own_d25_23 : decode jdk_2323_method_8_code 23 = .ok (.lload_n 2, 1) := by decide +kernel
theorem own_d25_24 : decode jdk_2323_method_8_code 24 = .ok (.lconst 0, 1) := by decide +kernel
theorem own_d25_25 : decode jdk_2323_method_8_code 25 = .ok (.lcmp, 1) := by decide +kernel
theorem own_d25_26 : decode jdk_2323_method_8_code 26 = .ok (.ifCond .ge 32, 3) := by decide +kernel
theorem own_d25_58 : decode jdk_2323_method_8_code 58 = .ok (.ldc2_w 170, 3) := by decide +kernel
theorem own_d25_61 : decode jdk_2323_method_8_code 61 = .ok (.lload_n 2, 1) := by decide +kernel
theorem own_d25_62 : decode jdk_2323_method_8_code 62 = .ok (.lmul, 1) := by decide +kernel
theorem own_d25_63 : decode jdk_2323_method_8_code 63 = .ok (.ldc2_w 172, 3) := by decide +kernel
theorem own_d25_66 : decode jdk_2323_method_8_code 66 = .ok (.ladd, 1) := by decide +kernel
theorem own_d25_67 : decode jdk_2323_method_8_code 67 = .ok (.ldc2_w 168, 3) := by decide +kernel
theorem own_d25_70 : decode jdk_2323_method_8_code 70 = .ok (.ldiv, 1) := by decide +kernel
theorem own_d25_71 : decode jdk_2323_method_8_code 71 = .ok (.lstore 6, 2) := by decide +kernel
theorem own_d25_73 : decode jdk_2323_method_8_code 73 = .ok (.lload_n 2, 1) := by decide +kernel
theorem own_d25_74 : decode jdk_2323_method_8_code 74 = .ok (.ldc2_w 174, 3) := by decide +kernel
theorem own_d25_77 : decode jdk_2323_method_8_code 77 = .ok (.lload 6, 2) := by decide +kernel
theorem own_d25_79 : decode jdk_2323_method_8_code 79 = .ok (.lmul, 1) := by decide +kernel
theorem own_d25_80 : decode jdk_2323_method_8_code 80 = .ok (.lload 6, 2) := by decide +kernel
theorem own_d25_82 : decode jdk_2323_method_8_code 82 = .ok (.ldc2_w 176, 3) := by decide +kernel
theorem own_d25_85 : decode jdk_2323_method_8_code 85 = .ok (.ldiv, 1) := by decide +kernel
theorem own_d25_86 : decode jdk_2323_method_8_code 86 = .ok (.ladd, 1) := by decide +kernel
theorem own_d25_87 : decode jdk_2323_method_8_code 87 = .ok (.lload 6, 2) := by decide +kernel
theorem own_d25_89 : decode jdk_2323_method_8_code 89 = .ok (.ldc2_w 178, 3) := by decide +kernel
theorem own_d25_92 : decode jdk_2323_method_8_code 92 = .ok (.ldiv, 1) := by decide +kernel
theorem own_d25_93 : decode jdk_2323_method_8_code 93 = .ok (.lsub, 1) := by decide +kernel
theorem own_d25_94 : decode jdk_2323_method_8_code 94 = .ok (.lload 6, 2) := by decide +kernel
theorem own_d25_96 : decode jdk_2323_method_8_code 96 = .ok (.ldc2_w 170, 3) := by decide +kernel
theorem own_d25_99 : decode jdk_2323_method_8_code 99 = .ok (.ldiv, 1) := by decide +kernel
theorem own_d25_100 : decode jdk_2323_method_8_code 100 = .ok (.ladd, 1) := by decide +kernel
theorem own_d25_101 : decode jdk_2323_method_8_code 101 = .ok (.lsub, 1) := by decide +kernel
theorem own_d25_102 : decode jdk_2323_method_8_code 102 = .ok (.lstore 8, 2) := by decide +kernel
theorem own_d25_104 : decode jdk_2323_method_8_code 104 = .ok (.lload 8, 2) := by decide +kernel
theorem own_d25_106 : decode jdk_2323_method_8_code 106 = .ok (.lconst 0, 1) := by decide +kernel
theorem own_d25_107 : decode jdk_2323_method_8_code 107 = .ok (.lcmp, 1) := by decide +kernel
theorem own_d25_108 : decode jdk_2323_method_8_code 108 = .ok (.ifCond .ge 40, 3) := by decide +kernel
theorem own_d25_148 : decode jdk_2323_method_8_code 148 = .ok (.lload 6, 2) := by decide +kernel
theorem own_d25_150 : decode jdk_2323_method_8_code 150 = .ok (.lload 4, 2) := by decide +kernel
theorem own_d25_152 : decode jdk_2323_method_8_code 152 = .ok (.ladd, 1) := by decide +kernel
theorem own_d25_153 : decode jdk_2323_method_8_code 153 = .ok (.lstore 6, 2) := by decide +kernel
theorem own_d25_155 : decode jdk_2323_method_8_code 155 = .ok (.lload 8, 2) := by decide +kernel
theorem own_d25_157 : decode jdk_2323_method_8_code 157 = .ok (.l2i, 1) := by decide +kernel
theorem own_d25_158 : decode jdk_2323_method_8_code 158 = .ok (.istore 10, 2) := by decide +kernel
theorem own_d25_160 : decode jdk_2323_method_8_code 160 = .ok (.iload 10, 2) := by decide +kernel
theorem own_d25_162 : decode jdk_2323_method_8_code 162 = .ok (.iconst 5, 1) := by decide +kernel
theorem own_d25_163 : decode jdk_2323_method_8_code 163 = .ok (.imul, 1) := by decide +kernel
theorem own_d25_164 : decode jdk_2323_method_8_code 164 = .ok (.iconst 2, 1) := by decide +kernel
theorem own_d25_165 : decode jdk_2323_method_8_code 165 = .ok (.iadd, 1) := by decide +kernel
theorem own_d25_166 : decode jdk_2323_method_8_code 166 = .ok (.sipush 153, 3) := by decide +kernel
theorem own_d25_169 : decode jdk_2323_method_8_code 169 = .ok (.idiv, 1) := by decide +kernel
theorem own_d25_170 : decode jdk_2323_method_8_code 170 = .ok (.istore 11, 2) := by decide +kernel
theorem own_d25_172 : decode jdk_2323_method_8_code 172 = .ok (.iload 11, 2) := by decide +kernel
theorem own_d25_174 : decode jdk_2323_method_8_code 174 = .ok (.iconst 3, 1) := by decide +kernel
theorem own_d25_175 : decode jdk_2323_method_8_code 175 = .ok (.iadd, 1) := by decide +kernel
theorem own_d25_176 : decode jdk_2323_method_8_code 176 = .ok (.istore 12, 2) := by decide +kernel
theorem own_d25_178 : decode jdk_2323_method_8_code 178 = .ok (.iload 12, 2) := by decide +kernel
theorem own_d25_180 : decode jdk_2323_method_8_code 180 = .ok (.bipush 12, 2) := by decide +kernel
theorem own_d25_182 : decode jdk_2323_method_8_code 182 = .ok (.if_icmp .le 6, 3) := by decide +kernel
theorem own_d25_188 : decode jdk_2323_method_8_code 188 = .ok (.iload 10, 2) := by decide +kernel
theorem own_d25_190 : decode jdk_2323_method_8_code 190 = .ok (.iload 11, 2) := by decide +kernel
theorem own_d25_192 : decode jdk_2323_method_8_code 192 = .ok (.sipush 306, 3) := by decide +kernel
theorem own_d25_195 : decode jdk_2323_method_8_code 195 = .ok (.imul, 1) := by decide +kernel
theorem own_d25_196 : decode jdk_2323_method_8_code 196 = .ok (.iconst 5, 1) := by decide +kernel
theorem own_d25_197 : decode jdk_2323_method_8_code 197 = .ok (.iadd, 1) := by decide +kernel
theorem own_d25_198 : decode jdk_2323_method_8_code 198 = .ok (.bipush 10, 2) := by decide +kernel
theorem own_d25_200 : decode jdk_2323_method_8_code 200 = .ok (.idiv, 1) := by decide +kernel
theorem own_d25_201 : decode jdk_2323_method_8_code 201 = .ok (.isub, 1) := by decide +kernel
theorem own_d25_202 : decode jdk_2323_method_8_code 202 = .ok (.iconst 1, 1) := by decide +kernel
theorem own_d25_203 : decode jdk_2323_method_8_code 203 = .ok (.iadd, 1) := by decide +kernel
theorem own_d25_204 : decode jdk_2323_method_8_code 204 = .ok (.istore 13, 2) := by decide +kernel
theorem own_d25_206 : decode jdk_2323_method_8_code 206 = .ok (.iload 10, 2) := by decide +kernel
theorem own_d25_208 : decode jdk_2323_method_8_code 208 = .ok (.sipush 306, 3) := by decide +kernel
theorem own_d25_211 : decode jdk_2323_method_8_code 211 = .ok (.if_icmp .lt 9, 3) := by decide +kernel
theorem own_d25_220 : decode jdk_2323_method_8_code 220 = .ok (.new 1, 3) := by decide +kernel
theorem own_d25_223 : decode jdk_2323_method_8_code 223 = .ok (.dup, 1) := by decide +kernel
theorem own_d25_224 : decode jdk_2323_method_8_code 224 = .ok (.lload 6, 2) := by decide +kernel
theorem own_d25_226 : decode jdk_2323_method_8_code 226 = .ok (.l2i, 1) := by decide +kernel
theorem own_d25_227 : decode jdk_2323_method_8_code 227 = .ok (.iload 12, 2) := by decide +kernel
theorem own_d25_229 : decode jdk_2323_method_8_code 229 = .ok (.iload 13, 2) := by decide +kernel
theorem own_d25_231 : decode jdk_2323_method_8_code 231 = .ok (.invokespecial 121, 3) := by decide +kernel
theorem own_d25_234 : decode jdk_2323_method_8_code 234 = .ok (.areturn, 1) := by decide +kernel
set_option maxRecDepth 65536 in
set_option maxHeartbeats 40000000 in
theorem own_oe (l : Launch) (Z : State) (a0 : Array Value) (hw : ∀ d ∈ tables_1, d.before a0 Z = true) (ws : List Jvm.Cond) (ep : Int64) (y : Int32) (D : Int) (cy ry cd rd ce re mm iso : Addr) (h0 : Heap) (n0 : Nat) (Z0 : n0 ≤ h0.size) (Od : Old Z n0 h0) (Wd : own_W Z cy ry cd rd ce re mm iso) (hy0 : 1583 ≤ y.toInt) (hy1 : y.toInt ≤ 999999999) (he : ep.toInt = 365 * y.toInt + y.toInt / 4 - y.toInt / 100 + y.toInt / 400 + 59 + D - 719528) (hD1 : 30 ≤ D) (hD2 : D ≤ 31) :
    MetFree l (⟨"java/time/LocalDate", "ofEpochDay", "(J)Ljava/time/LocalDate;"⟩ : MethodName) (head1 (Jvm.Cond.code (⟨"java/time/LocalDate", "ofEpochDay", "(J)Ljava/time/LocalDate;"⟩ : MethodName) jdk_2323_method_8_code 14 (some (.object "java/time/LocalDate")) :: ws) ({ frames := 4, cells := 1, slots := 3, locals := 57 } : Room)) (fun a U => a = #[(.long ep)] ∧ Z.Warmed39 U.vm ∧ U.heap = h0) (fun _ _ _ _ _ => True) (fun _ U o U' => ∃ v L, o = .returned v ∧ Q_own_oe Z ep y D cy ry cd rd ce re mm iso h0 n0 v U'.heap L ∧ FrameEnd U o U' L ({ frames := 4, cells := 1, slots := 3, locals := 57 } : Room).cells ({ frames := 4, cells := 1, slots := 3, locals := 57 } : Room).slots) := by
  refine MetFree.of_bodySF (plainFor_of_name own_pn_java_time_LocalDate) hisR ?_
  intro p e s m args below meth c s₁ Bd hml0 hP hK
  obtain ⟨rfl, hZ, hh⟩ := hP
  have hx := Bd.exec
  have hby := Bd.bytes
  have hml : c.maxLocals = 14 := hml0
  have hown : s.vm.findClass "java/time/LocalDate" = some m.cls := findClass_of_methodNamed Bd.named
  have hnm := (name_of_methodNamed Bd.named Bd.method).1
  have hlk : meth.locks = false := BodyLoose.notSynchronized Bd
  have X0 : Stand p l e ({ frames := 4, cells := 1, slots := 3, locals := 57 } : Room) s m #[(.long ep)] below meth c s₁ [] 0 0 := Stand.of_body Bd
  have e0 : s₁.heap = h0 := by rw [← hh, Bd.state]; rfl
  have N0 := Fr.nil n0
  show own_Go p e below #[(.long ep)] s (fun _ U o U' => ∃ v L, o = .returned v ∧ Q_own_oe Z ep y D cy ry cd rd ce re mm iso h0 n0 v U'.heap L ∧ FrameEnd U o U' L ({ frames := 4, cells := 1, slots := 3, locals := 57 } : Room).cells ({ frames := 4, cells := 1, slots := 3, locals := 57 } : Room).slots) (s₁.setTop (entryFrame m #[(.long ep)] 14))
  refine own_st (V := s₁.setTop (mkF m 0 #[.val (.long ep), .second, .unset, .unset, .unset, .unset, .unset, .unset, .unset, .unset, .unset, .unset, .unset, .unset] [])) (fun t k => castTop (by first | (simp [entryFrame, mkF, argsToLocals, Value.category]; done) | rfl) k) ?_
  obtain ⟨T67, X67, e67, st67⟩ := getS2 X0 hx hZ hown (host := "") (Or.inl (hw _ (List.mem_of_getElem? (i := 168) rfl))) Via.refl e0 (own_so Od Wd.2.2.2.2.2.2.2.2.2.2.2.2.1) (g := (mkF m 0 #[.val (.long ep), .second, .unset, .unset, .unset, .unset, .unset, .unset, .unset, .unset, .unset, .unset, .unset, .unset] [])) rfl (hb hby own_d25_0)
  refine own_st (V := T67.setTop (mkF m 3 #[.val (.long ep), .second, .unset, .unset, .unset, .unset, .unset, .unset, .unset, .unset, .unset, .unset, .unset, .unset] [(.ref ce)])) (fun t k => st67 _ k) ?_
  refine own_st (V := T67.setTop (mkF m 4 #[.val (.long ep), .second, .unset, .unset, .unset, .unset, .unset, .unset, .unset, .unset, .unset, .unset, .unset, .unset] [(.long ep), (.ref ce)])) (fun t k => XS.lloadN X67.here hx rfl (hb hby own_d25_3) rfl k) ?_
  obtain ⟨cq68, kq68, q68a, q68b, q68c⟩ := isOf hZ e67 (own_eo Od Wd.2.2.2.2.2.2.2.2.2.2.2.2.2.1)
  obtain ⟨_, _, ⟨T68, L68, k68, n68⟩, -, X68, ⟨Lc68, hQ68, l68, y68, z68⟩, st68⟩ := X67.virtualBack hx (y := (⟨"java/time/temporal/ChronoField", "checkValidValue", "(J)J"⟩ : MethodName)) (z := (⟨"java/time/temporal/ChronoField", "checkValidValue", "(J)J"⟩ : MethodName)) hown (mvT hZ (hw _ (List.mem_of_getElem? (i := 14) rfl))) (mvT hZ (hw _ (List.mem_of_getElem? (i := 15) rfl))) (notFace_of_selects (args := #[]) (mvT hZ (hw _ (List.mem_of_getElem? (i := 17) rfl)))) (mvT hZ (hw _ (List.mem_of_getElem? (i := 17) rfl))) (mvT hZ (hw _ (List.mem_of_getElem? (i := 16) rfl))) (by decide) (backOf (W := 0) (own_ccv l Z a0 hw [] ce re ep (-365243219162 : Int64) (365241780471 : Int64) h0 n0 Z0 (own_eo Od Wd.2.2.2.2.2.2.2.2.2.2.2.2.2.1) (own_fo Od Wd.2.2.2.2.2.2.2.2.2.2.2.2.2.2.1) (own_eo Od Wd.2.2.2.2.2.2.2.2.2.2.2.2.2.2.2.1) (own_fo Od Wd.2.2.2.2.2.2.2.2.2.2.2.2.2.2.2.2.1) (own_fo Od Wd.2.2.2.2.2.2.2.2.2.2.2.2.2.2.2.2.2.1) (by have e : (-365243219162 : Int64).toInt = -365243219162 := (by decide); have q := he; omega) (by have e : (365241780471 : Int64).toInt = 365241780471 := (by decide); have q := he; omega)) hZ (hw _ (List.mem_of_getElem? (i := 18) rfl)) (hw _ (List.mem_of_getElem? (i := 13) rfl)) (by decide) (by decide)) q68a q68c (g := (mkF m 4 #[.val (.long ep), .second, .unset, .unset, .unset, .unset, .unset, .unset, .unset, .unset, .unset, .unset, .unset, .unset] [(.long ep), (.ref ce)])) rfl (by rw [hml]; rfl) (Steps.refl _) (argsL := [(.long ep)]) (rest := []) (lenOf own_pd6 rfl) rfl (by show 2 * 0 + _ ≤ _; exact Nat.le_of_eq rfl) (hb hby own_d25_4) (fun _ _ => ⟨rfl, e67, (by decide : 0 + 0 ≤ _), (by decide : 0 + 0 ≤ _)⟩)
  dsimp only [Pt.U, Pt.locs, Pt.cells, Pt.slots] at X68 l68 y68 z68 st68 hQ68
  subst l68 y68 z68
  obtain ⟨rfl, N68q, e68⟩ := hQ68
  have N68 := Fr.app N0 N68q
  refine own_st (V := T68.setTop (mkF m 7 #[.val (.long ep), .second, .unset, .unset, .unset, .unset, .unset, .unset, .unset, .unset, .unset, .unset, .unset, .unset] [(.long ep)])) (fun t k => st68.trans k) ?_
  refine own_st (V := T68.setTop (mkF m 8 #[.val (.long ep), .second, .unset, .unset, .unset, .unset, .unset, .unset, .unset, .unset, .unset, .unset, .unset, .unset] [])) (fun t k => (by jvm_step X68.here [X68.here.top, hx, (hb hby own_d25_7), Value.category]; exact k)) ?_
  refine own_st (V := T68.setTop (mkF m 9 #[.val (.long ep), .second, .unset, .unset, .unset, .unset, .unset, .unset, .unset, .unset, .unset, .unset, .unset, .unset] [(.long ep)])) (fun t k => XS.lloadN X68.here hx rfl (hb hby own_d25_8) rfl k) ?_
  refine own_st (V := T68.setTop (mkF m 12 #[.val (.long ep), .second, .unset, .unset, .unset, .unset, .unset, .unset, .unset, .unset, .unset, .unset, .unset, .unset] [(.long (719528 : Int64)), (.long ep)])) (fun t k => X68.ldc2Long hx hown (mvT hZ (hw _ (List.mem_of_getElem? (i := 160) rfl))) (g := (mkF m 9 #[.val (.long ep), .second, .unset, .unset, .unset, .unset, .unset, .unset, .unset, .unset, .unset, .unset, .unset, .unset] [(.long ep)])) rfl (hb hby own_d25_9) t k) ?_
  refine own_st (V := T68.setTop (mkF m 13 #[.val (.long ep), .second, .unset, .unset, .unset, .unset, .unset, .unset, .unset, .unset, .unset, .unset, .unset, .unset] [(.long (ep + (719528 : Int64)))])) (fun t k => XS.ladd X68.here hx rfl (hb hby own_d25_12) rfl k) ?_
  refine own_st (V := T68.setTop (mkF m 14 #[.val (.long ep), .second, .val (.long (ep + (719528 : Int64))), .second, .unset, .unset, .unset, .unset, .unset, .unset, .unset, .unset, .unset, .unset] [])) (fun t k => XS.lstoreN X68.here hx rfl (hb hby own_d25_13) rfl (l' := #[.val (.long ep), .second, .val (.long (ep + (719528 : Int64))), .second, .unset, .unset, .unset, .unset, .unset, .unset, .unset, .unset, .unset, .unset]) rfl k) ?_
  refine own_st (V := T68.setTop (mkF m 15 #[.val (.long ep), .second, .val (.long (ep + (719528 : Int64))), .second, .unset, .unset, .unset, .unset, .unset, .unset, .unset, .unset, .unset, .unset] [(.long (ep + (719528 : Int64)))])) (fun t k => XS.lloadN X68.here hx rfl (hb hby own_d25_14) rfl k) ?_
  refine own_st (V := T68.setTop (mkF m 18 #[.val (.long ep), .second, .val (.long (ep + (719528 : Int64))), .second, .unset, .unset, .unset, .unset, .unset, .unset, .unset, .unset, .unset, .unset] [(.long (60 : Int64)), (.long (ep + (719528 : Int64)))])) (fun t k => X68.ldc2Long hx hown (mvT hZ (hw _ (List.mem_of_getElem? (i := 169) rfl))) (g := (mkF m 15 #[.val (.long ep), .second, .val (.long (ep + (719528 : Int64))), .second, .unset, .unset, .unset, .unset, .unset, .unset, .unset, .unset, .unset, .unset] [(.long (ep + (719528 : Int64)))])) rfl (hb hby own_d25_15) t k) ?_
  refine own_st (V := T68.setTop (mkF m 19 #[.val (.long ep), .second, .val (.long (ep + (719528 : Int64))), .second, .unset, .unset, .unset, .unset, .unset, .unset, .unset, .unset, .unset, .unset] [(.long ((ep + (719528 : Int64)) - (60 : Int64)))])) (fun t k => XS.lsub X68.here hx rfl (hb hby own_d25_18) rfl k) ?_
  obtain ⟨zd, g_zd⟩ : ∃ z, z = ((ep + (719528 : Int64)) - (60 : Int64)) := ⟨_, rfl⟩
  rw [← g_zd]
  have hzd : zd.toInt = 365 * y.toInt + y.toInt / 4 - y.toInt / 100 + y.toInt / 400 + D - 1 := by rw [g_zd, own_oe1 ep (by omega) (by omega)]; omega
  refine own_st (V := T68.setTop (mkF m 20 #[.val (.long ep), .second, .val (.long zd), .second, .unset, .unset, .unset, .unset, .unset, .unset, .unset, .unset, .unset, .unset] [])) (fun t k => XS.lstoreN X68.here hx rfl (hb hby own_d25_19) rfl (l' := #[.val (.long ep), .second, .val (.long zd), .second, .unset, .unset, .unset, .unset, .unset, .unset, .unset, .unset, .unset, .unset]) rfl k) ?_
  refine own_st (V := T68.setTop (mkF m 21 #[.val (.long ep), .second, .val (.long zd), .second, .unset, .unset, .unset, .unset, .unset, .unset, .unset, .unset, .unset, .unset] [(.long (0 : Int64))])) (fun t k => XS.lconst X68.here hx rfl (hb hby own_d25_20) k) ?_
  refine own_st (V := T68.setTop (mkF m 23 #[.val (.long ep), .second, .val (.long zd), .second, .val (.long (0 : Int64)), .second, .unset, .unset, .unset, .unset, .unset, .unset, .unset, .unset] [])) (fun t k => XS.lstore X68.here hx rfl (hb hby own_d25_21) rfl (l' := #[.val (.long ep), .second, .val (.long zd), .second, .val (.long (0 : Int64)), .second, .unset, .unset, .unset, .unset, .unset, .unset, .unset, .unset]) rfl k) ?_
  refine own_st (V := T68.setTop (mkF m 24 #[.val (.long ep), .second, .val (.long zd), .second, .val (.long (0 : Int64)), .second, .unset, .unset, .unset, .unset, .unset, .unset, .unset, .unset] [(.long zd)])) (fun t k => XS.lloadN X68.here hx rfl (hb hby own_d25_23) rfl k) ?_
  refine own_st (V := T68.setTop (mkF m 25 #[.val (.long ep), .second, .val (.long zd), .second, .val (.long (0 : Int64)), .second, .unset, .unset, .unset, .unset, .unset, .unset, .unset, .unset] [(.long (0 : Int64)), (.long zd)])) (fun t k => XS.lconst X68.here hx rfl (hb hby own_d25_24) k) ?_
  refine own_st (V := T68.setTop (mkF m 26 #[.val (.long ep), .second, .val (.long zd), .second, .val (.long (0 : Int64)), .second, .unset, .unset, .unset, .unset, .unset, .unset, .unset, .unset] [(.int (lcmpW zd (0 : Int64)))])) (fun t k => XS.lcmp X68.here hx rfl (hb hby own_d25_25) rfl k) ?_
  refine own_st (V := T68.setTop (mkF m 58 #[.val (.long ep), .second, .val (.long zd), .second, .val (.long (0 : Int64)), .second, .unset, .unset, .unset, .unset, .unset, .unset, .unset, .unset] [])) (fun t k => XS.ifYes X68.here hx rfl (pc0 := 26) (pc' := 58) rfl (hb hby own_d25_26) rfl ((if0 _ _).trans (flt (own_lt0 (by have z0 : (0 : Int64).toInt = 0 := (by decide); omega))).2.1) (by decide) (by decide) k) ?_
  refine own_st (V := T68.setTop (mkF m 61 #[.val (.long ep), .second, .val (.long zd), .second, .val (.long (0 : Int64)), .second, .unset, .unset, .unset, .unset, .unset, .unset, .unset, .unset] [(.long (400 : Int64))])) (fun t k => X68.ldc2Long hx hown (mvT hZ (hw _ (List.mem_of_getElem? (i := 142) rfl))) (g := (mkF m 58 #[.val (.long ep), .second, .val (.long zd), .second, .val (.long (0 : Int64)), .second, .unset, .unset, .unset, .unset, .unset, .unset, .unset, .unset] [])) rfl (hb hby own_d25_58) t k) ?_
  refine own_st (V := T68.setTop (mkF m 62 #[.val (.long ep), .second, .val (.long zd), .second, .val (.long (0 : Int64)), .second, .unset, .unset, .unset, .unset, .unset, .unset, .unset, .unset] [(.long zd), (.long (400 : Int64))])) (fun t k => XS.lloadN X68.here hx rfl (hb hby own_d25_61) rfl k) ?_
  refine own_st (V := T68.setTop (mkF m 63 #[.val (.long ep), .second, .val (.long zd), .second, .val (.long (0 : Int64)), .second, .unset, .unset, .unset, .unset, .unset, .unset, .unset, .unset] [(.long ((400 : Int64) * zd))])) (fun t k => XS.lmul X68.here hx rfl (hb hby own_d25_62) rfl k) ?_
  refine own_st (V := T68.setTop (mkF m 66 #[.val (.long ep), .second, .val (.long zd), .second, .val (.long (0 : Int64)), .second, .unset, .unset, .unset, .unset, .unset, .unset, .unset, .unset] [(.long (591 : Int64)), (.long ((400 : Int64) * zd))])) (fun t k => X68.ldc2Long hx hown (mvT hZ (hw _ (List.mem_of_getElem? (i := 170) rfl))) (g := (mkF m 63 #[.val (.long ep), .second, .val (.long zd), .second, .val (.long (0 : Int64)), .second, .unset, .unset, .unset, .unset, .unset, .unset, .unset, .unset] [(.long ((400 : Int64) * zd))])) rfl (hb hby own_d25_63) t k) ?_
  refine own_st (V := T68.setTop (mkF m 67 #[.val (.long ep), .second, .val (.long zd), .second, .val (.long (0 : Int64)), .second, .unset, .unset, .unset, .unset, .unset, .unset, .unset, .unset] [(.long (((400 : Int64) * zd) + (591 : Int64)))])) (fun t k => XS.ladd X68.here hx rfl (hb hby own_d25_66) rfl k) ?_
  refine own_st (V := T68.setTop (mkF m 70 #[.val (.long ep), .second, .val (.long zd), .second, .val (.long (0 : Int64)), .second, .unset, .unset, .unset, .unset, .unset, .unset, .unset, .unset] [(.long (146097 : Int64)), (.long (((400 : Int64) * zd) + (591 : Int64)))])) (fun t k => X68.ldc2Long hx hown (mvT hZ (hw _ (List.mem_of_getElem? (i := 171) rfl))) (g := (mkF m 67 #[.val (.long ep), .second, .val (.long zd), .second, .val (.long (0 : Int64)), .second, .unset, .unset, .unset, .unset, .unset, .unset, .unset, .unset] [(.long (((400 : Int64) * zd) + (591 : Int64)))])) rfl (hb hby own_d25_67) t k) ?_
  refine own_st (V := T68.setTop (mkF m 71 #[.val (.long ep), .second, .val (.long zd), .second, .val (.long (0 : Int64)), .second, .unset, .unset, .unset, .unset, .unset, .unset, .unset, .unset] [(.long ((((400 : Int64) * zd) + (591 : Int64)) / (146097 : Int64)))])) (fun t k => XS.ldiv X68.here hx rfl (hb hby own_d25_70) rfl (by decide) k) ?_
  obtain ⟨ye, g_ye⟩ : ∃ z, z = ((((400 : Int64) * zd) + (591 : Int64)) / (146097 : Int64)) := ⟨_, rfl⟩
  rw [← g_ye]
  have hye : ye.toInt = y.toInt := by rw [g_ye, own_oe2 zd (by omega) (by omega), hzd]; exact own_ye y.toInt D (by omega) hD1 hD2
  refine own_st (V := T68.setTop (mkF m 73 #[.val (.long ep), .second, .val (.long zd), .second, .val (.long (0 : Int64)), .second, .val (.long ye), .second, .unset, .unset, .unset, .unset, .unset, .unset] [])) (fun t k => XS.lstore X68.here hx rfl (hb hby own_d25_71) rfl (l' := #[.val (.long ep), .second, .val (.long zd), .second, .val (.long (0 : Int64)), .second, .val (.long ye), .second, .unset, .unset, .unset, .unset, .unset, .unset]) rfl k) ?_
  refine own_st (V := T68.setTop (mkF m 74 #[.val (.long ep), .second, .val (.long zd), .second, .val (.long (0 : Int64)), .second, .val (.long ye), .second, .unset, .unset, .unset, .unset, .unset, .unset] [(.long zd)])) (fun t k => XS.lloadN X68.here hx rfl (hb hby own_d25_73) rfl k) ?_
  refine own_st (V := T68.setTop (mkF m 77 #[.val (.long ep), .second, .val (.long zd), .second, .val (.long (0 : Int64)), .second, .val (.long ye), .second, .unset, .unset, .unset, .unset, .unset, .unset] [(.long (365 : Int64)), (.long zd)])) (fun t k => X68.ldc2Long hx hown (mvT hZ (hw _ (List.mem_of_getElem? (i := 136) rfl))) (g := (mkF m 74 #[.val (.long ep), .second, .val (.long zd), .second, .val (.long (0 : Int64)), .second, .val (.long ye), .second, .unset, .unset, .unset, .unset, .unset, .unset] [(.long zd)])) rfl (hb hby own_d25_74) t k) ?_
  refine own_st (V := T68.setTop (mkF m 79 #[.val (.long ep), .second, .val (.long zd), .second, .val (.long (0 : Int64)), .second, .val (.long ye), .second, .unset, .unset, .unset, .unset, .unset, .unset] [(.long ye), (.long (365 : Int64)), (.long zd)])) (fun t k => XS.lload X68.here hx rfl (hb hby own_d25_77) rfl k) ?_
  refine own_st (V := T68.setTop (mkF m 80 #[.val (.long ep), .second, .val (.long zd), .second, .val (.long (0 : Int64)), .second, .val (.long ye), .second, .unset, .unset, .unset, .unset, .unset, .unset] [(.long ((365 : Int64) * ye)), (.long zd)])) (fun t k => XS.lmul X68.here hx rfl (hb hby own_d25_79) rfl k) ?_
  refine own_st (V := T68.setTop (mkF m 82 #[.val (.long ep), .second, .val (.long zd), .second, .val (.long (0 : Int64)), .second, .val (.long ye), .second, .unset, .unset, .unset, .unset, .unset, .unset] [(.long ye), (.long ((365 : Int64) * ye)), (.long zd)])) (fun t k => XS.lload X68.here hx rfl (hb hby own_d25_80) rfl k) ?_
  refine own_st (V := T68.setTop (mkF m 85 #[.val (.long ep), .second, .val (.long zd), .second, .val (.long (0 : Int64)), .second, .val (.long ye), .second, .unset, .unset, .unset, .unset, .unset, .unset] [(.long (4 : Int64)), (.long ye), (.long ((365 : Int64) * ye)), (.long zd)])) (fun t k => X68.ldc2Long hx hown (mvT hZ (hw _ (List.mem_of_getElem? (i := 138) rfl))) (g := (mkF m 82 #[.val (.long ep), .second, .val (.long zd), .second, .val (.long (0 : Int64)), .second, .val (.long ye), .second, .unset, .unset, .unset, .unset, .unset, .unset] [(.long ye), (.long ((365 : Int64) * ye)), (.long zd)])) rfl (hb hby own_d25_82) t k) ?_
  refine own_st (V := T68.setTop (mkF m 86 #[.val (.long ep), .second, .val (.long zd), .second, .val (.long (0 : Int64)), .second, .val (.long ye), .second, .unset, .unset, .unset, .unset, .unset, .unset] [(.long (ye / (4 : Int64))), (.long ((365 : Int64) * ye)), (.long zd)])) (fun t k => XS.ldiv X68.here hx rfl (hb hby own_d25_85) rfl (by decide) k) ?_
  refine own_st (V := T68.setTop (mkF m 87 #[.val (.long ep), .second, .val (.long zd), .second, .val (.long (0 : Int64)), .second, .val (.long ye), .second, .unset, .unset, .unset, .unset, .unset, .unset] [(.long (((365 : Int64) * ye) + (ye / (4 : Int64)))), (.long zd)])) (fun t k => XS.ladd X68.here hx rfl (hb hby own_d25_86) rfl k) ?_
  refine own_st (V := T68.setTop (mkF m 89 #[.val (.long ep), .second, .val (.long zd), .second, .val (.long (0 : Int64)), .second, .val (.long ye), .second, .unset, .unset, .unset, .unset, .unset, .unset] [(.long ye), (.long (((365 : Int64) * ye) + (ye / (4 : Int64)))), (.long zd)])) (fun t k => XS.lload X68.here hx rfl (hb hby own_d25_87) rfl k) ?_
  refine own_st (V := T68.setTop (mkF m 92 #[.val (.long ep), .second, .val (.long zd), .second, .val (.long (0 : Int64)), .second, .val (.long ye), .second, .unset, .unset, .unset, .unset, .unset, .unset] [(.long (100 : Int64)), (.long ye), (.long (((365 : Int64) * ye) + (ye / (4 : Int64)))), (.long zd)])) (fun t k => X68.ldc2Long hx hown (mvT hZ (hw _ (List.mem_of_getElem? (i := 140) rfl))) (g := (mkF m 89 #[.val (.long ep), .second, .val (.long zd), .second, .val (.long (0 : Int64)), .second, .val (.long ye), .second, .unset, .unset, .unset, .unset, .unset, .unset] [(.long ye), (.long (((365 : Int64) * ye) + (ye / (4 : Int64)))), (.long zd)])) rfl (hb hby own_d25_89) t k) ?_
  refine own_st (V := T68.setTop (mkF m 93 #[.val (.long ep), .second, .val (.long zd), .second, .val (.long (0 : Int64)), .second, .val (.long ye), .second, .unset, .unset, .unset, .unset, .unset, .unset] [(.long (ye / (100 : Int64))), (.long (((365 : Int64) * ye) + (ye / (4 : Int64)))), (.long zd)])) (fun t k => XS.ldiv X68.here hx rfl (hb hby own_d25_92) rfl (by decide) k) ?_
  refine own_st (V := T68.setTop (mkF m 94 #[.val (.long ep), .second, .val (.long zd), .second, .val (.long (0 : Int64)), .second, .val (.long ye), .second, .unset, .unset, .unset, .unset, .unset, .unset] [(.long ((((365 : Int64) * ye) + (ye / (4 : Int64))) - (ye / (100 : Int64)))), (.long zd)])) (fun t k => XS.lsub X68.here hx rfl (hb hby own_d25_93) rfl k) ?_
  refine own_st (V := T68.setTop (mkF m 96 #[.val (.long ep), .second, .val (.long zd), .second, .val (.long (0 : Int64)), .second, .val (.long ye), .second, .unset, .unset, .unset, .unset, .unset, .unset] [(.long ye), (.long ((((365 : Int64) * ye) + (ye / (4 : Int64))) - (ye / (100 : Int64)))), (.long zd)])) (fun t k => XS.lload X68.here hx rfl (hb hby own_d25_94) rfl k) ?_
  refine own_st (V := T68.setTop (mkF m 99 #[.val (.long ep), .second, .val (.long zd), .second, .val (.long (0 : Int64)), .second, .val (.long ye), .second, .unset, .unset, .unset, .unset, .unset, .unset] [(.long (400 : Int64)), (.long ye), (.long ((((365 : Int64) * ye) + (ye / (4 : Int64))) - (ye / (100 : Int64)))), (.long zd)])) (fun t k => X68.ldc2Long hx hown (mvT hZ (hw _ (List.mem_of_getElem? (i := 142) rfl))) (g := (mkF m 96 #[.val (.long ep), .second, .val (.long zd), .second, .val (.long (0 : Int64)), .second, .val (.long ye), .second, .unset, .unset, .unset, .unset, .unset, .unset] [(.long ye), (.long ((((365 : Int64) * ye) + (ye / (4 : Int64))) - (ye / (100 : Int64)))), (.long zd)])) rfl (hb hby own_d25_96) t k) ?_
  refine own_st (V := T68.setTop (mkF m 100 #[.val (.long ep), .second, .val (.long zd), .second, .val (.long (0 : Int64)), .second, .val (.long ye), .second, .unset, .unset, .unset, .unset, .unset, .unset] [(.long (ye / (400 : Int64))), (.long ((((365 : Int64) * ye) + (ye / (4 : Int64))) - (ye / (100 : Int64)))), (.long zd)])) (fun t k => XS.ldiv X68.here hx rfl (hb hby own_d25_99) rfl (by decide) k) ?_
  refine own_st (V := T68.setTop (mkF m 101 #[.val (.long ep), .second, .val (.long zd), .second, .val (.long (0 : Int64)), .second, .val (.long ye), .second, .unset, .unset, .unset, .unset, .unset, .unset] [(.long (((((365 : Int64) * ye) + (ye / (4 : Int64))) - (ye / (100 : Int64))) + (ye / (400 : Int64)))), (.long zd)])) (fun t k => XS.ladd X68.here hx rfl (hb hby own_d25_100) rfl k) ?_
  refine own_st (V := T68.setTop (mkF m 102 #[.val (.long ep), .second, .val (.long zd), .second, .val (.long (0 : Int64)), .second, .val (.long ye), .second, .unset, .unset, .unset, .unset, .unset, .unset] [(.long (zd - (((((365 : Int64) * ye) + (ye / (4 : Int64))) - (ye / (100 : Int64))) + (ye / (400 : Int64)))))])) (fun t k => XS.lsub X68.here hx rfl (hb hby own_d25_101) rfl k) ?_
  obtain ⟨de, g_de⟩ : ∃ z, z = (zd - (((((365 : Int64) * ye) + (ye / (4 : Int64))) - (ye / (100 : Int64))) + (ye / (400 : Int64)))) := ⟨_, rfl⟩
  rw [← g_de]
  have hde : de.toInt = D - 1 := by rw [g_de, own_oe3 zd ye (by omega) (by omega) (by omega) (by omega), hzd, hye]; omega
  refine own_st (V := T68.setTop (mkF m 104 #[.val (.long ep), .second, .val (.long zd), .second, .val (.long (0 : Int64)), .second, .val (.long ye), .second, .val (.long de), .second, .unset, .unset, .unset, .unset] [])) (fun t k => XS.lstore X68.here hx rfl (hb hby own_d25_102) rfl (l' := #[.val (.long ep), .second, .val (.long zd), .second, .val (.long (0 : Int64)), .second, .val (.long ye), .second, .val (.long de), .second, .unset, .unset, .unset, .unset]) rfl k) ?_
  refine own_st (V := T68.setTop (mkF m 106 #[.val (.long ep), .second, .val (.long zd), .second, .val (.long (0 : Int64)), .second, .val (.long ye), .second, .val (.long de), .second, .unset, .unset, .unset, .unset] [(.long de)])) (fun t k => XS.lload X68.here hx rfl (hb hby own_d25_104) rfl k) ?_
  refine own_st (V := T68.setTop (mkF m 107 #[.val (.long ep), .second, .val (.long zd), .second, .val (.long (0 : Int64)), .second, .val (.long ye), .second, .val (.long de), .second, .unset, .unset, .unset, .unset] [(.long (0 : Int64)), (.long de)])) (fun t k => XS.lconst X68.here hx rfl (hb hby own_d25_106) k) ?_
  refine own_st (V := T68.setTop (mkF m 108 #[.val (.long ep), .second, .val (.long zd), .second, .val (.long (0 : Int64)), .second, .val (.long ye), .second, .val (.long de), .second, .unset, .unset, .unset, .unset] [(.int (lcmpW de (0 : Int64)))])) (fun t k => XS.lcmp X68.here hx rfl (hb hby own_d25_107) rfl k) ?_
  refine own_st (V := T68.setTop (mkF m 148 #[.val (.long ep), .second, .val (.long zd), .second, .val (.long (0 : Int64)), .second, .val (.long ye), .second, .val (.long de), .second, .unset, .unset, .unset, .unset] [])) (fun t k => XS.ifYes X68.here hx rfl (pc0 := 108) (pc' := 148) rfl (hb hby own_d25_108) rfl ((if0 _ _).trans (flt (own_lt0 (by have z0 : (0 : Int64).toInt = 0 := (by decide); omega))).2.1) (by decide) (by decide) k) ?_
  refine own_st (V := T68.setTop (mkF m 150 #[.val (.long ep), .second, .val (.long zd), .second, .val (.long (0 : Int64)), .second, .val (.long ye), .second, .val (.long de), .second, .unset, .unset, .unset, .unset] [(.long ye)])) (fun t k => XS.lload X68.here hx rfl (hb hby own_d25_148) rfl k) ?_
  refine own_st (V := T68.setTop (mkF m 152 #[.val (.long ep), .second, .val (.long zd), .second, .val (.long (0 : Int64)), .second, .val (.long ye), .second, .val (.long de), .second, .unset, .unset, .unset, .unset] [(.long (0 : Int64)), (.long ye)])) (fun t k => XS.lload X68.here hx rfl (hb hby own_d25_150) rfl k) ?_
  refine own_st (V := T68.setTop (mkF m 153 #[.val (.long ep), .second, .val (.long zd), .second, .val (.long (0 : Int64)), .second, .val (.long ye), .second, .val (.long de), .second, .unset, .unset, .unset, .unset] [(.long (ye + (0 : Int64)))])) (fun t k => XS.ladd X68.here hx rfl (hb hby own_d25_152) rfl k) ?_
  refine own_st (V := T68.setTop (mkF m 155 #[.val (.long ep), .second, .val (.long zd), .second, .val (.long (0 : Int64)), .second, .val (.long (ye + (0 : Int64))), .second, .val (.long de), .second, .unset, .unset, .unset, .unset] [])) (fun t k => XS.lstore X68.here hx rfl (hb hby own_d25_153) rfl (l' := #[.val (.long ep), .second, .val (.long zd), .second, .val (.long (0 : Int64)), .second, .val (.long (ye + (0 : Int64))), .second, .val (.long de), .second, .unset, .unset, .unset, .unset]) rfl k) ?_
  refine own_st (V := T68.setTop (mkF m 157 #[.val (.long ep), .second, .val (.long zd), .second, .val (.long (0 : Int64)), .second, .val (.long (ye + (0 : Int64))), .second, .val (.long de), .second, .unset, .unset, .unset, .unset] [(.long de)])) (fun t k => XS.lload X68.here hx rfl (hb hby own_d25_155) rfl k) ?_
  refine own_st (V := T68.setTop (mkF m 158 #[.val (.long ep), .second, .val (.long zd), .second, .val (.long (0 : Int64)), .second, .val (.long (ye + (0 : Int64))), .second, .val (.long de), .second, .unset, .unset, .unset, .unset] [(.int (de.toInt32))])) (fun t k => XS.l2i X68.here hx rfl (hb hby own_d25_157) rfl k) ?_
  obtain ⟨do_, g_do_⟩ : ∃ z, z = (de.toInt32) := ⟨_, rfl⟩
  rw [← g_do_]
  have hdo : do_.toInt = D - 1 := by rw [g_do_]; exact own_l2i hde (by omega) (by omega)
  refine own_st (V := T68.setTop (mkF m 160 #[.val (.long ep), .second, .val (.long zd), .second, .val (.long (0 : Int64)), .second, .val (.long (ye + (0 : Int64))), .second, .val (.long de), .second, .val (.int do_), .unset, .unset, .unset] [])) (fun t k => XS.istore X68.here hx rfl (hb hby own_d25_158) rfl (l' := #[.val (.long ep), .second, .val (.long zd), .second, .val (.long (0 : Int64)), .second, .val (.long (ye + (0 : Int64))), .second, .val (.long de), .second, .val (.int do_), .unset, .unset, .unset]) rfl k) ?_
  refine own_st (V := T68.setTop (mkF m 162 #[.val (.long ep), .second, .val (.long zd), .second, .val (.long (0 : Int64)), .second, .val (.long (ye + (0 : Int64))), .second, .val (.long de), .second, .val (.int do_), .unset, .unset, .unset] [(.int do_)])) (fun t k => XS.iload X68.here hx rfl (hb hby own_d25_160) rfl k) ?_
  refine own_st (V := T68.setTop (mkF m 163 #[.val (.long ep), .second, .val (.long zd), .second, .val (.long (0 : Int64)), .second, .val (.long (ye + (0 : Int64))), .second, .val (.long de), .second, .val (.int do_), .unset, .unset, .unset] [(.int (5 : Int32)), (.int do_)])) (fun t k => XS.iconst X68.here hx rfl (hb hby own_d25_162) k) ?_
  refine own_st (V := T68.setTop (mkF m 164 #[.val (.long ep), .second, .val (.long zd), .second, .val (.long (0 : Int64)), .second, .val (.long (ye + (0 : Int64))), .second, .val (.long de), .second, .val (.int do_), .unset, .unset, .unset] [(.int (do_ * (5 : Int32)))])) (fun t k => XS.imul X68.here hx rfl (hb hby own_d25_163) rfl k) ?_
  refine own_st (V := T68.setTop (mkF m 165 #[.val (.long ep), .second, .val (.long zd), .second, .val (.long (0 : Int64)), .second, .val (.long (ye + (0 : Int64))), .second, .val (.long de), .second, .val (.int do_), .unset, .unset, .unset] [(.int (2 : Int32)), (.int (do_ * (5 : Int32)))])) (fun t k => XS.iconst X68.here hx rfl (hb hby own_d25_164) k) ?_
  refine own_st (V := T68.setTop (mkF m 166 #[.val (.long ep), .second, .val (.long zd), .second, .val (.long (0 : Int64)), .second, .val (.long (ye + (0 : Int64))), .second, .val (.long de), .second, .val (.int do_), .unset, .unset, .unset] [(.int ((do_ * (5 : Int32)) + (2 : Int32)))])) (fun t k => XS.iadd X68.here hx rfl (hb hby own_d25_165) rfl k) ?_
  refine own_st (V := T68.setTop (mkF m 169 #[.val (.long ep), .second, .val (.long zd), .second, .val (.long (0 : Int64)), .second, .val (.long (ye + (0 : Int64))), .second, .val (.long de), .second, .val (.int do_), .unset, .unset, .unset] [(.int (153 : Int32)), (.int ((do_ * (5 : Int32)) + (2 : Int32)))])) (fun t k => XS.sipush X68.here hx rfl (hb hby own_d25_166) k) ?_
  refine own_st (V := T68.setTop (mkF m 170 #[.val (.long ep), .second, .val (.long zd), .second, .val (.long (0 : Int64)), .second, .val (.long (ye + (0 : Int64))), .second, .val (.long de), .second, .val (.int do_), .unset, .unset, .unset] [(.int (((do_ * (5 : Int32)) + (2 : Int32)) / (153 : Int32)))])) (fun t k => XS.idiv X68.here hx rfl (hb hby own_d25_169) rfl (by decide) k) ?_
  rw [show (((do_ * (5 : Int32)) + (2 : Int32)) / (153 : Int32)) = (0 : Int32) from Int32.toInt_inj.mp (by rw [own_oe4 do_ (by omega) (by omega)]; show _ = (0 : Int); omega)]
  refine own_st (V := T68.setTop (mkF m 172 #[.val (.long ep), .second, .val (.long zd), .second, .val (.long (0 : Int64)), .second, .val (.long (ye + (0 : Int64))), .second, .val (.long de), .second, .val (.int do_), .val (.int (0 : Int32)), .unset, .unset] [])) (fun t k => XS.istore X68.here hx rfl (hb hby own_d25_170) rfl (l' := #[.val (.long ep), .second, .val (.long zd), .second, .val (.long (0 : Int64)), .second, .val (.long (ye + (0 : Int64))), .second, .val (.long de), .second, .val (.int do_), .val (.int (0 : Int32)), .unset, .unset]) rfl k) ?_
  refine own_st (V := T68.setTop (mkF m 174 #[.val (.long ep), .second, .val (.long zd), .second, .val (.long (0 : Int64)), .second, .val (.long (ye + (0 : Int64))), .second, .val (.long de), .second, .val (.int do_), .val (.int (0 : Int32)), .unset, .unset] [(.int (0 : Int32))])) (fun t k => XS.iload X68.here hx rfl (hb hby own_d25_172) rfl k) ?_
  refine own_st (V := T68.setTop (mkF m 175 #[.val (.long ep), .second, .val (.long zd), .second, .val (.long (0 : Int64)), .second, .val (.long (ye + (0 : Int64))), .second, .val (.long de), .second, .val (.int do_), .val (.int (0 : Int32)), .unset, .unset] [(.int (3 : Int32)), (.int (0 : Int32))])) (fun t k => XS.iconst X68.here hx rfl (hb hby own_d25_174) k) ?_
  refine own_st (V := T68.setTop (mkF m 176 #[.val (.long ep), .second, .val (.long zd), .second, .val (.long (0 : Int64)), .second, .val (.long (ye + (0 : Int64))), .second, .val (.long de), .second, .val (.int do_), .val (.int (0 : Int32)), .unset, .unset] [(.int ((0 : Int32) + (3 : Int32)))])) (fun t k => XS.iadd X68.here hx rfl (hb hby own_d25_175) rfl k) ?_
  rw [show ((0 : Int32) + (3 : Int32)) = (3 : Int32) from by decide +kernel]
  refine own_st (V := T68.setTop (mkF m 178 #[.val (.long ep), .second, .val (.long zd), .second, .val (.long (0 : Int64)), .second, .val (.long (ye + (0 : Int64))), .second, .val (.long de), .second, .val (.int do_), .val (.int (0 : Int32)), .val (.int (3 : Int32)), .unset] [])) (fun t k => XS.istore X68.here hx rfl (hb hby own_d25_176) rfl (l' := #[.val (.long ep), .second, .val (.long zd), .second, .val (.long (0 : Int64)), .second, .val (.long (ye + (0 : Int64))), .second, .val (.long de), .second, .val (.int do_), .val (.int (0 : Int32)), .val (.int (3 : Int32)), .unset]) rfl k) ?_
  refine own_st (V := T68.setTop (mkF m 180 #[.val (.long ep), .second, .val (.long zd), .second, .val (.long (0 : Int64)), .second, .val (.long (ye + (0 : Int64))), .second, .val (.long de), .second, .val (.int do_), .val (.int (0 : Int32)), .val (.int (3 : Int32)), .unset] [(.int (3 : Int32))])) (fun t k => XS.iload X68.here hx rfl (hb hby own_d25_178) rfl k) ?_
  refine own_st (V := T68.setTop (mkF m 182 #[.val (.long ep), .second, .val (.long zd), .second, .val (.long (0 : Int64)), .second, .val (.long (ye + (0 : Int64))), .second, .val (.long de), .second, .val (.int do_), .val (.int (0 : Int32)), .val (.int (3 : Int32)), .unset] [(.int (12 : Int32)), (.int (3 : Int32))])) (fun t k => XS.bipush X68.here hx rfl (hb hby own_d25_180) k) ?_
  refine own_st (V := T68.setTop (mkF m 188 #[.val (.long ep), .second, .val (.long zd), .second, .val (.long (0 : Int64)), .second, .val (.long (ye + (0 : Int64))), .second, .val (.long de), .second, .val (.int do_), .val (.int (0 : Int32)), .val (.int (3 : Int32)), .unset] [])) (fun t k => XS.icmpYes X68.here hx rfl (pc0 := 182) (pc' := 188) rfl (hb hby own_d25_182) rfl (flt (by decide : ¬ ((12 : Int32) < (3 : Int32)))).2.2.2 (by decide) (by decide) k) ?_
  refine own_st (V := T68.setTop (mkF m 190 #[.val (.long ep), .second, .val (.long zd), .second, .val (.long (0 : Int64)), .second, .val (.long (ye + (0 : Int64))), .second, .val (.long de), .second, .val (.int do_), .val (.int (0 : Int32)), .val (.int (3 : Int32)), .unset] [(.int do_)])) (fun t k => XS.iload X68.here hx rfl (hb hby own_d25_188) rfl k) ?_
  refine own_st (V := T68.setTop (mkF m 192 #[.val (.long ep), .second, .val (.long zd), .second, .val (.long (0 : Int64)), .second, .val (.long (ye + (0 : Int64))), .second, .val (.long de), .second, .val (.int do_), .val (.int (0 : Int32)), .val (.int (3 : Int32)), .unset] [(.int (0 : Int32)), (.int do_)])) (fun t k => XS.iload X68.here hx rfl (hb hby own_d25_190) rfl k) ?_
  refine own_st (V := T68.setTop (mkF m 195 #[.val (.long ep), .second, .val (.long zd), .second, .val (.long (0 : Int64)), .second, .val (.long (ye + (0 : Int64))), .second, .val (.long de), .second, .val (.int do_), .val (.int (0 : Int32)), .val (.int (3 : Int32)), .unset] [(.int (306 : Int32)), (.int (0 : Int32)), (.int do_)])) (fun t k => XS.sipush X68.here hx rfl (hb hby own_d25_192) k) ?_
  refine own_st (V := T68.setTop (mkF m 196 #[.val (.long ep), .second, .val (.long zd), .second, .val (.long (0 : Int64)), .second, .val (.long (ye + (0 : Int64))), .second, .val (.long de), .second, .val (.int do_), .val (.int (0 : Int32)), .val (.int (3 : Int32)), .unset] [(.int ((0 : Int32) * (306 : Int32))), (.int do_)])) (fun t k => XS.imul X68.here hx rfl (hb hby own_d25_195) rfl k) ?_
  refine own_st (V := T68.setTop (mkF m 197 #[.val (.long ep), .second, .val (.long zd), .second, .val (.long (0 : Int64)), .second, .val (.long (ye + (0 : Int64))), .second, .val (.long de), .second, .val (.int do_), .val (.int (0 : Int32)), .val (.int (3 : Int32)), .unset] [(.int (5 : Int32)), (.int ((0 : Int32) * (306 : Int32))), (.int do_)])) (fun t k => XS.iconst X68.here hx rfl (hb hby own_d25_196) k) ?_
  refine own_st (V := T68.setTop (mkF m 198 #[.val (.long ep), .second, .val (.long zd), .second, .val (.long (0 : Int64)), .second, .val (.long (ye + (0 : Int64))), .second, .val (.long de), .second, .val (.int do_), .val (.int (0 : Int32)), .val (.int (3 : Int32)), .unset] [(.int (((0 : Int32) * (306 : Int32)) + (5 : Int32))), (.int do_)])) (fun t k => XS.iadd X68.here hx rfl (hb hby own_d25_197) rfl k) ?_
  refine own_st (V := T68.setTop (mkF m 200 #[.val (.long ep), .second, .val (.long zd), .second, .val (.long (0 : Int64)), .second, .val (.long (ye + (0 : Int64))), .second, .val (.long de), .second, .val (.int do_), .val (.int (0 : Int32)), .val (.int (3 : Int32)), .unset] [(.int (10 : Int32)), (.int (((0 : Int32) * (306 : Int32)) + (5 : Int32))), (.int do_)])) (fun t k => XS.bipush X68.here hx rfl (hb hby own_d25_198) k) ?_
  refine own_st (V := T68.setTop (mkF m 201 #[.val (.long ep), .second, .val (.long zd), .second, .val (.long (0 : Int64)), .second, .val (.long (ye + (0 : Int64))), .second, .val (.long de), .second, .val (.int do_), .val (.int (0 : Int32)), .val (.int (3 : Int32)), .unset] [(.int ((((0 : Int32) * (306 : Int32)) + (5 : Int32)) / (10 : Int32))), (.int do_)])) (fun t k => XS.idiv X68.here hx rfl (hb hby own_d25_200) rfl (by decide) k) ?_
  refine own_st (V := T68.setTop (mkF m 202 #[.val (.long ep), .second, .val (.long zd), .second, .val (.long (0 : Int64)), .second, .val (.long (ye + (0 : Int64))), .second, .val (.long de), .second, .val (.int do_), .val (.int (0 : Int32)), .val (.int (3 : Int32)), .unset] [(.int (do_ - ((((0 : Int32) * (306 : Int32)) + (5 : Int32)) / (10 : Int32))))])) (fun t k => XS.isub X68.here hx rfl (hb hby own_d25_201) rfl k) ?_
  refine own_st (V := T68.setTop (mkF m 203 #[.val (.long ep), .second, .val (.long zd), .second, .val (.long (0 : Int64)), .second, .val (.long (ye + (0 : Int64))), .second, .val (.long de), .second, .val (.int do_), .val (.int (0 : Int32)), .val (.int (3 : Int32)), .unset] [(.int (1 : Int32)), (.int (do_ - ((((0 : Int32) * (306 : Int32)) + (5 : Int32)) / (10 : Int32))))])) (fun t k => XS.iconst X68.here hx rfl (hb hby own_d25_202) k) ?_
  refine own_st (V := T68.setTop (mkF m 204 #[.val (.long ep), .second, .val (.long zd), .second, .val (.long (0 : Int64)), .second, .val (.long (ye + (0 : Int64))), .second, .val (.long de), .second, .val (.int do_), .val (.int (0 : Int32)), .val (.int (3 : Int32)), .unset] [(.int ((do_ - ((((0 : Int32) * (306 : Int32)) + (5 : Int32)) / (10 : Int32))) + (1 : Int32)))])) (fun t k => XS.iadd X68.here hx rfl (hb hby own_d25_203) rfl k) ?_
  obtain ⟨dd, g_dd⟩ : ∃ z, z = ((do_ - ((((0 : Int32) * (306 : Int32)) + (5 : Int32)) / (10 : Int32))) + (1 : Int32)) := ⟨_, rfl⟩
  rw [← g_dd]
  have hdd : dd.toInt = D := by rw [g_dd, own_oe5 do_ (by omega) (by omega)]; omega
  refine own_st (V := T68.setTop (mkF m 206 #[.val (.long ep), .second, .val (.long zd), .second, .val (.long (0 : Int64)), .second, .val (.long (ye + (0 : Int64))), .second, .val (.long de), .second, .val (.int do_), .val (.int (0 : Int32)), .val (.int (3 : Int32)), .val (.int dd)] [])) (fun t k => XS.istore X68.here hx rfl (hb hby own_d25_204) rfl (l' := #[.val (.long ep), .second, .val (.long zd), .second, .val (.long (0 : Int64)), .second, .val (.long (ye + (0 : Int64))), .second, .val (.long de), .second, .val (.int do_), .val (.int (0 : Int32)), .val (.int (3 : Int32)), .val (.int dd)]) rfl k) ?_
  refine own_st (V := T68.setTop (mkF m 208 #[.val (.long ep), .second, .val (.long zd), .second, .val (.long (0 : Int64)), .second, .val (.long (ye + (0 : Int64))), .second, .val (.long de), .second, .val (.int do_), .val (.int (0 : Int32)), .val (.int (3 : Int32)), .val (.int dd)] [(.int do_)])) (fun t k => XS.iload X68.here hx rfl (hb hby own_d25_206) rfl k) ?_
  refine own_st (V := T68.setTop (mkF m 211 #[.val (.long ep), .second, .val (.long zd), .second, .val (.long (0 : Int64)), .second, .val (.long (ye + (0 : Int64))), .second, .val (.long de), .second, .val (.int do_), .val (.int (0 : Int32)), .val (.int (3 : Int32)), .val (.int dd)] [(.int (306 : Int32)), (.int do_)])) (fun t k => XS.sipush X68.here hx rfl (hb hby own_d25_208) k) ?_
  refine own_st (V := T68.setTop (mkF m 220 #[.val (.long ep), .second, .val (.long zd), .second, .val (.long (0 : Int64)), .second, .val (.long (ye + (0 : Int64))), .second, .val (.long de), .second, .val (.int do_), .val (.int (0 : Int32)), .val (.int (3 : Int32)), .val (.int dd)] [])) (fun t k => XS.icmpYes X68.here hx rfl (pc0 := 211) (pc' := 220) rfl (hb hby own_d25_211) rfl (tlt (Int32.lt_iff_toInt_lt.mpr (by have z3 : (306 : Int32).toInt = 306 := (by decide); omega))).1 (by decide) (by decide) k) ?_
  obtain ⟨T69, h69, X69, e69, E69, A69, D69, -, st69⟩ := newO X68 hx hZ hown (hw _ (List.mem_of_getElem? (i := 81) rfl)) (hw _ (List.mem_of_getElem? (i := 82) rfl)) (hw _ (List.mem_of_getElem? (i := 10) rfl)) e68 (g := (mkF m 220 #[.val (.long ep), .second, .val (.long zd), .second, .val (.long (0 : Int64)), .second, .val (.long (ye + (0 : Int64))), .second, .val (.long de), .second, .val (.int do_), .val (.int (0 : Int32)), .val (.int (3 : Int32)), .val (.int dd)] [])) rfl (hb hby own_d25_220) (by decide) (by decide)
  obtain ⟨b69, g69⟩ : ∃ z, z = h0.size := ⟨_, rfl⟩
  rw [← g69] at A69 D69 st69
  have gb_b69 : n0 ≤ b69 := Nat.le_trans Z0 (Nat.le_of_eq g69.symm)
  have Z0_69 : n0 ≤ h69.size := Nat.le_trans Z0 E69.1
  have sz_b69 : h0.size ≤ b69 := Nat.le_trans (Keep.refl h0 []).1 (Nat.le_of_eq g69.symm)
  have Kc69 := (Keep.refl h0 []).ext E69
  have Od69 := Od.ext E69
  have F69_b69_year : Fld Z h69 b69 "java/time/LocalDate" "year" "I" (.int (0 : Int32)) := D69 (Or.inr (hw _ (List.mem_of_getElem? (i := 91) rfl))) (ty := .int) (by decide)
  have F69_b69_month : Fld Z h69 b69 "java/time/LocalDate" "month" "S" (.int (0 : Int32)) := D69 (Or.inr (hw _ (List.mem_of_getElem? (i := 93) rfl))) (ty := .short) (by decide)
  have F69_b69_day : Fld Z h69 b69 "java/time/LocalDate" "day" "S" (.int (0 : Int32)) := D69 (Or.inr (hw _ (List.mem_of_getElem? (i := 95) rfl))) (ty := .short) (by decide)
  refine own_st (V := T69.setTop (mkF m 223 #[.val (.long ep), .second, .val (.long zd), .second, .val (.long (0 : Int64)), .second, .val (.long (ye + (0 : Int64))), .second, .val (.long de), .second, .val (.int do_), .val (.int (0 : Int32)), .val (.int (3 : Int32)), .val (.int dd)] [(.ref b69)])) (fun t k => st69 _ k) ?_
  refine own_st (V := T69.setTop (mkF m 224 #[.val (.long ep), .second, .val (.long zd), .second, .val (.long (0 : Int64)), .second, .val (.long (ye + (0 : Int64))), .second, .val (.long de), .second, .val (.int do_), .val (.int (0 : Int32)), .val (.int (3 : Int32)), .val (.int dd)] [(.ref b69), (.ref b69)])) (fun t k => XS.dup X69.here hx rfl (hb hby own_d25_223) rfl rfl k) ?_
  refine own_st (V := T69.setTop (mkF m 226 #[.val (.long ep), .second, .val (.long zd), .second, .val (.long (0 : Int64)), .second, .val (.long (ye + (0 : Int64))), .second, .val (.long de), .second, .val (.int do_), .val (.int (0 : Int32)), .val (.int (3 : Int32)), .val (.int dd)] [(.long (ye + (0 : Int64))), (.ref b69), (.ref b69)])) (fun t k => XS.lload X69.here hx rfl (hb hby own_d25_224) rfl k) ?_
  refine own_st (V := T69.setTop (mkF m 227 #[.val (.long ep), .second, .val (.long zd), .second, .val (.long (0 : Int64)), .second, .val (.long (ye + (0 : Int64))), .second, .val (.long de), .second, .val (.int do_), .val (.int (0 : Int32)), .val (.int (3 : Int32)), .val (.int dd)] [(.int ((ye + (0 : Int64)).toInt32)), (.ref b69), (.ref b69)])) (fun t k => XS.l2i X69.here hx rfl (hb hby own_d25_226) rfl k) ?_
  rw [show ((ye + (0 : Int64)).toInt32) = y from Int32.toInt_inj.mp (by rw [own_oe6 ye (by omega) (by omega)]; exact hye)]
  refine own_st (V := T69.setTop (mkF m 229 #[.val (.long ep), .second, .val (.long zd), .second, .val (.long (0 : Int64)), .second, .val (.long (ye + (0 : Int64))), .second, .val (.long de), .second, .val (.int do_), .val (.int (0 : Int32)), .val (.int (3 : Int32)), .val (.int dd)] [(.int (3 : Int32)), (.int y), (.ref b69), (.ref b69)])) (fun t k => XS.iload X69.here hx rfl (hb hby own_d25_227) rfl k) ?_
  refine own_st (V := T69.setTop (mkF m 231 #[.val (.long ep), .second, .val (.long zd), .second, .val (.long (0 : Int64)), .second, .val (.long (ye + (0 : Int64))), .second, .val (.long de), .second, .val (.int do_), .val (.int (0 : Int32)), .val (.int (3 : Int32)), .val (.int dd)] [(.int dd), (.int (3 : Int32)), (.int y), (.ref b69), (.ref b69)])) (fun t k => XS.iload X69.here hx rfl (hb hby own_d25_229) rfl k) ?_
  obtain ⟨_, _, ⟨T70, L70, k70, n70⟩, -, X70, ⟨Lc70, hQ70, l70, y70, z70⟩, st70⟩ := X69.specialBack hx (y := (⟨"java/time/LocalDate", "<init>", "(III)V"⟩ : MethodName)) rfl hown (mvT hZ (hw _ (List.mem_of_getElem? (i := 83) rfl))) (mvT hZ (hw _ (List.mem_of_getElem? (i := 84) rfl))) (mvT hZ (hw _ (List.mem_of_getElem? (i := 86) rfl))) (by decide) (backOf (W := 1) (own_di l Z a0 hw [] b69 y (3 : Int32) dd h69 n0 Z0_69 F69_b69_year F69_b69_month F69_b69_day A69 gb_b69 (by decide) (by decide) (by omega) (by omega)) hZ (hw _ (List.mem_of_getElem? (i := 86) rfl)) (hw _ (List.mem_of_getElem? (i := 10) rfl)) (by decide) (by decide)) (g := (mkF m 231 #[.val (.long ep), .second, .val (.long zd), .second, .val (.long (0 : Int64)), .second, .val (.long (ye + (0 : Int64))), .second, .val (.long de), .second, .val (.int do_), .val (.int (0 : Int32)), .val (.int (3 : Int32)), .val (.int dd)] [(.int dd), (.int (3 : Int32)), (.int y), (.ref b69), (.ref b69)])) rfl (by rw [hml]; rfl) (Steps.refl _) (a := b69) (argsL := [(.int y), (.int (3 : Int32)), (.int dd)]) (rest := [(.ref b69)]) (lenOf own_pd5 rfl) rfl (by show 2 * 0 + _ ≤ _; exact Nat.le_of_eq rfl) (hb hby own_d25_231) (fun _ _ => ⟨rfl, e69, (by decide : 1 + 0 ≤ _), (by decide : 3 + 0 ≤ _)⟩)
  dsimp only [Pt.U, Pt.locs, Pt.cells, Pt.slots] at X70 l70 y70 z70 st70 hQ70
  subst l70 y70 z70
  obtain ⟨rfl, N70q, K70, Ex70_q, Fq70_0, Fq70_1, Fq70_2⟩ := hQ70
  have N70 := Fr.app N68 N70q
  have Z0_70 : n0 ≤ T70.heap.size := Nat.le_trans Z0_69 K70.1
  have Kc70 := Kc69.trans K70 (fun x hx => Or.inr (by cases List.mem_singleton.mp hx; exact sz_b69))
  have Ex70_b69 := A69.keep K70
  have Od70 := Od69.keep K70 (allS gb_b69 all0)
  refine own_st (V := T70.setTop (mkF m 234 #[.val (.long ep), .second, .val (.long zd), .second, .val (.long (0 : Int64)), .second, .val (.long (ye + (0 : Int64))), .second, .val (.long de), .second, .val (.int do_), .val (.int (0 : Int32)), .val (.int (3 : Int32)), .val (.int dd)] [(.ref b69)])) (fun t k => st70.trans k) ?_
  exact own_ret X70 hx hlk Bd.returns rfl (Or.inr (Or.inr (Or.inr (Or.inr ⟨rfl, rfl, rfl⟩)))) (hb hby own_d25_234) (by decide) (by decide) (by show Q_own_oe Z ep y D cy ry cd rd ce re mm iso h0 n0 _ T70.heap _; exact ⟨_, _, rfl, N70, Kc70, Ex70_q, Fq70_0, Fq70_1, Fq70_2, hdd⟩)
def Q_own_pd4E (Z : State) (o1 : Addr) (y d : Int32) (n : Int64) (cy ry cd rd ce re mm iso : Addr) (h0 : Heap) (n0 : Nat) (v : Option Value) (h : Heap) (L : List Loc) : Prop := ∃ b r, v = some (.ref b) ∧ Fr n0 L ∧ Keep h0 h [] ∧ Exa Z h b "java/time/LocalDate" ∧ Fld Z h b "java/time/LocalDate" "year" "I" (.int y) ∧ Fld Z h b "java/time/LocalDate" "month" "S" (.int (3 : Int32)) ∧ Fld Z h b "java/time/LocalDate" "day" "S" (.int r) ∧ r.toInt = d.toInt + 29
theorem own_d15_154 : decode jdk_2323_method_44_code 154 = .ok (.aload_n 0, 1) := by decide +kernel
theorem own_d15_155 : decode jdk_2323_method_44_code 155 = .ok (.invokevirtual 332, 3) := by decide +kernel
theorem own_d15_158 : decode jdk_2323_method_44_code 158 = .ok (.lload_n 1, 1) := by decide +kernel
theorem own_d15_159 : decode jdk_2323_method_44_code 159 = .ok (.invokestatic 465, 3) := by decide +kernel
theorem own_pd11 : parseMethodDescriptor "(JJ)J" = some ⟨[.long, .long], some .long⟩ := by decide +kernel
theorem own_d15_162 : decode jdk_2323_method_44_code 162 = .ok (.lstore 5, 2) := by decide +kernel
theorem own_d15_164 : decode jdk_2323_method_44_code 164 = .ok (.lload 5, 2) := by decide +kernel
theorem own_d15_166 : decode jdk_2323_method_44_code 166 = .ok (.invokestatic 157, 3) := by decide +kernel
theorem own_d15_169 : decode jdk_2323_method_44_code 169 = .ok (.areturn, 1) := by decide +kernel
set_option maxRecDepth 65536 in
set_option maxHeartbeats 40000000 in
theorem own_pd4E (l : Launch) (Z : State) (a0 : Array Value) (hw : ∀ d ∈ tables_1, d.before a0 Z = true) (ws : List Jvm.Cond) (o1 : Addr) (y d : Int32) (n : Int64) (cy ry cd rd ce re mm iso : Addr) (h0 : Heap) (n0 : Nat) (Z0 : n0 ≤ h0.size) (Od : Old Z n0 h0) (Wd : own_W Z cy ry cd rd ce re mm iso) (E1 : Exa Z h0 o1 "java/time/LocalDate") (FY : Fld Z h0 o1 "java/time/LocalDate" "year" "I" (.int y)) (FM : Fld Z h0 o1 "java/time/LocalDate" "month" "S" (.int (4 : Int32))) (FD : Fld Z h0 o1 "java/time/LocalDate" "day" "S" (.int d)) (hy0 : 1583 ≤ y.toInt) (hy1 : y.toInt ≤ 999999999) (hd1 : 1 ≤ d.toInt) (hd2 : d.toInt ≤ 2) (hn : n.toInt = -2) (hD : (d.toInt64 + n).toInt ≤ 0) :
    MetFree l (⟨"java/time/LocalDate", "plusDays", "(J)Ljava/time/LocalDate;"⟩ : MethodName) (head1 (Jvm.Cond.code (⟨"java/time/LocalDate", "plusDays", "(J)Ljava/time/LocalDate;"⟩ : MethodName) jdk_2323_method_44_code 7 (some (.object "java/time/LocalDate")) :: ws) ({ frames := 5, cells := 1, slots := 3, locals := 82 } : Room)) (fun a U => a = #[(.ref o1), (.long n)] ∧ Z.Warmed39 U.vm ∧ U.heap = h0) (fun _ _ _ _ _ => True) (fun _ U o U' => ∃ v L, o = .returned v ∧ Q_own_pd4E Z o1 y d n cy ry cd rd ce re mm iso h0 n0 v U'.heap L ∧ FrameEnd U o U' L ({ frames := 5, cells := 1, slots := 3, locals := 82 } : Room).cells ({ frames := 5, cells := 1, slots := 3, locals := 82 } : Room).slots) := by
  refine MetFree.of_bodySF (plainFor_of_name own_pn_java_time_LocalDate) hisR ?_
  intro p e s m args below meth c s₁ Bd hml0 hP hK
  obtain ⟨rfl, hZ, hh⟩ := hP
  have hx := Bd.exec
  have hby := Bd.bytes
  have hml : c.maxLocals = 7 := hml0
  have hown : s.vm.findClass "java/time/LocalDate" = some m.cls := findClass_of_methodNamed Bd.named
  have hnm := (name_of_methodNamed Bd.named Bd.method).1
  have hlk : meth.locks = false := BodyLoose.notSynchronized Bd
  have X0 : Stand p l e ({ frames := 5, cells := 1, slots := 3, locals := 82 } : Room) s m #[(.ref o1), (.long n)] below meth c s₁ [] 0 0 := Stand.of_body Bd
  have e0 : s₁.heap = h0 := by rw [← hh, Bd.state]; rfl
  have N0 := Fr.nil n0
  show own_Go p e below #[(.ref o1), (.long n)] s (fun _ U o U' => ∃ v L, o = .returned v ∧ Q_own_pd4E Z o1 y d n cy ry cd rd ce re mm iso h0 n0 v U'.heap L ∧ FrameEnd U o U' L ({ frames := 5, cells := 1, slots := 3, locals := 82 } : Room).cells ({ frames := 5, cells := 1, slots := 3, locals := 82 } : Room).slots) (s₁.setTop (entryFrame m #[(.ref o1), (.long n)] 7))
  refine own_st (V := s₁.setTop (mkF m 0 #[.val (.ref o1), .val (.long n), .second, .unset, .unset, .unset, .unset] [])) (fun t k => castTop (by first | (simp [entryFrame, mkF, argsToLocals, Value.category]; done) | rfl) k) ?_
  refine own_st (V := s₁.setTop (mkF m 1 #[.val (.ref o1), .val (.long n), .second, .unset, .unset, .unset, .unset] [(.long n)])) (fun t k => XS.lloadN X0.here hx rfl (hb hby own_d15_0) rfl k) ?_
  refine own_st (V := s₁.setTop (mkF m 2 #[.val (.ref o1), .val (.long n), .second, .unset, .unset, .unset, .unset] [(.long (0 : Int64)), (.long n)])) (fun t k => XS.lconst X0.here hx rfl (hb hby own_d15_1) k) ?_
  refine own_st (V := s₁.setTop (mkF m 3 #[.val (.ref o1), .val (.long n), .second, .unset, .unset, .unset, .unset] [(.int (lcmpW n (0 : Int64)))])) (fun t k => XS.lcmp X0.here hx rfl (hb hby own_d15_2) rfl k) ?_
  refine own_st (V := s₁.setTop (mkF m 8 #[.val (.ref o1), .val (.long n), .second, .unset, .unset, .unset, .unset] [])) (fun t k => XS.ifYes X0.here hx rfl (pc0 := 3) (pc' := 8) rfl (hb hby own_d15_3) rfl ((if0 _ _).trans (feq (own_eq0 (by have e : (0 : Int64).toInt = 0 := (by decide); omega))).2) (by decide) (by decide) k) ?_
  refine own_st (V := s₁.setTop (mkF m 9 #[.val (.ref o1), .val (.long n), .second, .unset, .unset, .unset, .unset] [(.ref o1)])) (fun t k => XS.aloadN X0.here hx rfl (hb hby own_d15_8) rfl rfl k) ?_
  obtain ⟨T71, X71, e71, st71⟩ := getF X0 hx hZ hown (host := "") (Or.inl (hw _ (List.mem_of_getElem? (i := 94) rfl))) Via.refl e0 FD (g := (mkF m 9 #[.val (.ref o1), .val (.long n), .second, .unset, .unset, .unset, .unset] [(.ref o1)])) rfl rfl (hb hby own_d15_9)
  refine own_st (V := T71.setTop (mkF m 12 #[.val (.ref o1), .val (.long n), .second, .unset, .unset, .unset, .unset] [(.int d)])) (fun t k => st71 _ k) ?_
  refine own_st (V := T71.setTop (mkF m 13 #[.val (.ref o1), .val (.long n), .second, .unset, .unset, .unset, .unset] [(.long (d.toInt64))])) (fun t k => XS.i2l X71.here hx rfl (hb hby own_d15_12) rfl k) ?_
  refine own_st (V := T71.setTop (mkF m 14 #[.val (.ref o1), .val (.long n), .second, .unset, .unset, .unset, .unset] [(.long n), (.long (d.toInt64))])) (fun t k => XS.lloadN X71.here hx rfl (hb hby own_d15_13) rfl k) ?_
  refine own_st (V := T71.setTop (mkF m 15 #[.val (.ref o1), .val (.long n), .second, .unset, .unset, .unset, .unset] [(.long ((d.toInt64) + n))])) (fun t k => XS.ladd X71.here hx rfl (hb hby own_d15_14) rfl k) ?_
  refine own_st (V := T71.setTop (mkF m 16 #[.val (.ref o1), .val (.long n), .second, .val (.long ((d.toInt64) + n)), .second, .unset, .unset] [])) (fun t k => XS.lstoreN X71.here hx rfl (hb hby own_d15_15) rfl (l' := #[.val (.ref o1), .val (.long n), .second, .val (.long ((d.toInt64) + n)), .second, .unset, .unset]) rfl k) ?_
  refine own_st (V := T71.setTop (mkF m 17 #[.val (.ref o1), .val (.long n), .second, .val (.long ((d.toInt64) + n)), .second, .unset, .unset] [(.long ((d.toInt64) + n))])) (fun t k => XS.lloadN X71.here hx rfl (hb hby own_d15_16) rfl k) ?_
  refine own_st (V := T71.setTop (mkF m 18 #[.val (.ref o1), .val (.long n), .second, .val (.long ((d.toInt64) + n)), .second, .unset, .unset] [(.long (0 : Int64)), (.long ((d.toInt64) + n))])) (fun t k => XS.lconst X71.here hx rfl (hb hby own_d15_17) k) ?_
  refine own_st (V := T71.setTop (mkF m 19 #[.val (.ref o1), .val (.long n), .second, .val (.long ((d.toInt64) + n)), .second, .unset, .unset] [(.int (lcmpW ((d.toInt64) + n) (0 : Int64)))])) (fun t k => XS.lcmp X71.here hx rfl (hb hby own_d15_18) rfl k) ?_
  refine own_st (V := T71.setTop (mkF m 154 #[.val (.ref o1), .val (.long n), .second, .val (.long ((d.toInt64) + n)), .second, .unset, .unset] [])) (fun t k => XS.ifYes X71.here hx rfl (pc0 := 19) (pc' := 154) rfl (hb hby own_d15_19) rfl ((if0 _ _).trans (flt (own_gt0 (by have e : (0 : Int64).toInt = 0 := (by decide); omega))).2.2.2) (by decide) (by decide) k) ?_
  refine own_st (V := T71.setTop (mkF m 155 #[.val (.ref o1), .val (.long n), .second, .val (.long ((d.toInt64) + n)), .second, .unset, .unset] [(.ref o1)])) (fun t k => XS.aloadN X71.here hx rfl (hb hby own_d15_154) rfl rfl k) ?_
  obtain ⟨cq72, kq72, q72a, q72b, q72c⟩ := isOf hZ e71 E1
  obtain ⟨_, _, ⟨T72, L72, k72, n72⟩, -, X72, ⟨Lc72, hQ72, l72, y72, z72⟩, st72⟩ := X71.virtualBack hx (y := (⟨"java/time/LocalDate", "toEpochDay", "()J"⟩ : MethodName)) (z := (⟨"java/time/LocalDate", "toEpochDay", "()J"⟩ : MethodName)) hown (mvT hZ (hw _ (List.mem_of_getElem? (i := 131) rfl))) (mvT hZ (hw _ (List.mem_of_getElem? (i := 132) rfl))) (notFace_of_selects (args := #[]) (mvT hZ (hw _ (List.mem_of_getElem? (i := 134) rfl)))) (mvT hZ (hw _ (List.mem_of_getElem? (i := 134) rfl))) (mvT hZ (hw _ (List.mem_of_getElem? (i := 133) rfl))) (by decide) (backOf (W := 0) (own_te l Z a0 hw [] o1 y d cy ry cd rd ce re mm iso h0 n0 Z0 Od Wd E1 FY FM FD hy0 hy1 hd1 hd2) hZ (hw _ (List.mem_of_getElem? (i := 135) rfl)) (hw _ (List.mem_of_getElem? (i := 10) rfl)) (by decide) (by decide)) q72a q72c (g := (mkF m 155 #[.val (.ref o1), .val (.long n), .second, .val (.long ((d.toInt64) + n)), .second, .unset, .unset] [(.ref o1)])) rfl (by rw [hml]; rfl) (Steps.refl _) (argsL := []) (rest := []) (lenOf own_pd0 rfl) rfl (by show 2 * 0 + _ ≤ _; exact Nat.le_of_eq rfl) (hb hby own_d15_155) (fun _ _ => ⟨rfl, e71, (by decide : 0 + 0 ≤ _), (by decide : 0 + 0 ≤ _)⟩)
  dsimp only [Pt.U, Pt.locs, Pt.cells, Pt.slots] at X72 l72 y72 z72 st72 hQ72
  subst l72 y72 z72
  obtain ⟨r72, rfl, N72q, e72, hr72⟩ := hQ72
  have N72 := Fr.app N0 N72q
  have hte := hr72
  refine own_st (V := T72.setTop (mkF m 158 #[.val (.ref o1), .val (.long n), .second, .val (.long ((d.toInt64) + n)), .second, .unset, .unset] [(.long r72)])) (fun t k => st72.trans k) ?_
  refine own_st (V := T72.setTop (mkF m 159 #[.val (.ref o1), .val (.long n), .second, .val (.long ((d.toInt64) + n)), .second, .unset, .unset] [(.long n), (.long r72)])) (fun t k => XS.lloadN X72.here hx rfl (hb hby own_d15_158) rfl k) ?_
  obtain ⟨_, _, ⟨T73, L73, k73, n73⟩, -, X73, ⟨Lc73, hQ73, l73, y73, z73⟩, st73⟩ := Jvm.LawKit.callS X72 hx (y := (⟨"java/lang/Math", "addExact", "(JJ)J"⟩ : MethodName)) hown (mvT hZ (hw _ (List.mem_of_getElem? (i := 161) rfl))) (mvT hZ (hw _ (List.mem_of_getElem? (i := 162) rfl))) (mvT hZ (hw _ (List.mem_of_getElem? (i := 163) rfl))) (mvT hZ (hw _ (List.mem_of_getElem? (i := 164) rfl))) (by decide) (backOf (W := 0) (own_ae l Z a0 hw [] r72 n h0 n0 Z0 (by omega) (by omega) hn) hZ (hw _ (List.mem_of_getElem? (i := 164) rfl)) (hw _ (List.mem_of_getElem? (i := 163) rfl)) (by decide) (by decide)) (g := (mkF m 159 #[.val (.ref o1), .val (.long n), .second, .val (.long ((d.toInt64) + n)), .second, .unset, .unset] [(.long n), (.long r72)])) rfl (by rw [hml]; rfl) (argsL := [(.long r72), (.long n)]) (rest := []) (lenOf own_pd11 rfl) rfl (by show 2 * 0 + _ ≤ _; exact Nat.le_of_eq rfl) (hb hby own_d15_159) (fun _ _ => ⟨rfl, e72, (by decide : 0 + 0 ≤ _), (by decide : 0 + 0 ≤ _)⟩)
  dsimp only [Pt.U, Pt.locs, Pt.cells, Pt.slots] at X73 l73 y73 z73 st73 hQ73
  subst l73 y73 z73
  obtain ⟨rfl, N73q, e73⟩ := hQ73
  have N73 := Fr.app N72 N73q
  refine own_st (V := T73.setTop (mkF m 162 #[.val (.ref o1), .val (.long n), .second, .val (.long ((d.toInt64) + n)), .second, .unset, .unset] [(.long (r72 + n))])) (fun t k => st73 _ k) ?_
  refine own_st (V := T73.setTop (mkF m 164 #[.val (.ref o1), .val (.long n), .second, .val (.long ((d.toInt64) + n)), .second, .val (.long (r72 + n)), .second] [])) (fun t k => XS.lstore X73.here hx rfl (hb hby own_d15_162) rfl (l' := #[.val (.ref o1), .val (.long n), .second, .val (.long ((d.toInt64) + n)), .second, .val (.long (r72 + n)), .second]) rfl k) ?_
  refine own_st (V := T73.setTop (mkF m 166 #[.val (.ref o1), .val (.long n), .second, .val (.long ((d.toInt64) + n)), .second, .val (.long (r72 + n)), .second] [(.long (r72 + n))])) (fun t k => XS.lload X73.here hx rfl (hb hby own_d15_164) rfl k) ?_
  have hoe : ((r72 + n)).toInt = 365 * y.toInt + y.toInt / 4 - y.toInt / 100 + y.toInt / 400 + 59 + (d.toInt + 29) - 719528 := by have a := c_ladd r72 n; have b := rng64 (r72 + n); omega
  obtain ⟨_, _, ⟨T74, L74, k74, n74⟩, -, X74, ⟨Lc74, hQ74, l74, y74, z74⟩, st74⟩ := Jvm.LawKit.callS X73 hx (y := (⟨"java/time/LocalDate", "ofEpochDay", "(J)Ljava/time/LocalDate;"⟩ : MethodName)) hown (mvT hZ (hw _ (List.mem_of_getElem? (i := 165) rfl))) (mvT hZ (hw _ (List.mem_of_getElem? (i := 166) rfl))) (mvT hZ (hw _ (List.mem_of_getElem? (i := 10) rfl))) (mvT hZ (hw _ (List.mem_of_getElem? (i := 167) rfl))) (by decide) (backOf (W := 0) (own_oe l Z a0 hw [] (r72 + n) y (d.toInt + 29) cy ry cd rd ce re mm iso h0 n0 Z0 Od Wd hy0 hy1 hoe (by omega) (by omega)) hZ (hw _ (List.mem_of_getElem? (i := 167) rfl)) (hw _ (List.mem_of_getElem? (i := 10) rfl)) (by decide) (by decide)) (g := (mkF m 166 #[.val (.ref o1), .val (.long n), .second, .val (.long ((d.toInt64) + n)), .second, .val (.long (r72 + n)), .second] [(.long (r72 + n))])) rfl (by rw [hml]; rfl) (argsL := [(.long (r72 + n))]) (rest := []) (lenOf own_pd9 rfl) rfl (by show 2 * 0 + _ ≤ _; exact Nat.le_of_eq rfl) (hb hby own_d15_166) (fun _ _ => ⟨rfl, e73, (by decide : 0 + 1 ≤ _), (by decide : 0 + 3 ≤ _)⟩)
  dsimp only [Pt.U, Pt.locs, Pt.cells, Pt.slots] at X74 l74 y74 z74 st74 hQ74
  subst l74 y74 z74
  obtain ⟨d74, r74, rfl, N74q, K74, Ex74_q, Fq74_0, Fq74_1, Fq74_2, hr74⟩ := hQ74
  have N74 := Fr.app N73 N74q
  have Z0_74 : n0 ≤ T74.heap.size := Nat.le_trans Z0 K74.1
  have Kc74 := (Keep.refl h0 []).trans K74 all0
  have F74_o1_year := FY.keep K74 nin0
  have F74_o1_month := FM.keep K74 nin0
  have F74_o1_day := FD.keep K74 nin0
  have Ex74_o1 := E1.keep K74
  have Od74 := Od.keep K74 all0
  refine own_st (V := T74.setTop (mkF m 169 #[.val (.ref o1), .val (.long n), .second, .val (.long ((d.toInt64) + n)), .second, .val (.long (r72 + n)), .second] [(.ref d74)])) (fun t k => st74 _ k) ?_
  exact own_ret X74 hx hlk Bd.returns rfl (Or.inr (Or.inr (Or.inr (Or.inr ⟨rfl, rfl, rfl⟩)))) (hb hby own_d15_169) (by decide) (by decide) (by show Q_own_pd4E Z o1 y d n cy ry cd rd ce re mm iso h0 n0 _ T74.heap _; exact ⟨_, _, rfl, N74, Kc74, Ex74_q, Fq74_0, Fq74_1, Fq74_2, hr74⟩)
def Q_own_md4E (Z : State) (o1 : Addr) (y d : Int32) (cy ry cd rd ce re mm iso : Addr) (h0 : Heap) (n0 : Nat) (v : Option Value) (h : Heap) (L : List Loc) : Prop := ∃ b r, v = some (.ref b) ∧ Fr n0 L ∧ Keep h0 h [] ∧ Exa Z h b "java/time/LocalDate" ∧ Fld Z h b "java/time/LocalDate" "year" "I" (.int y) ∧ Fld Z h b "java/time/LocalDate" "month" "S" (.int (3 : Int32)) ∧ Fld Z h b "java/time/LocalDate" "day" "S" (.int r) ∧ r.toInt = d.toInt + 29
set_option maxRecDepth 65536 in
set_option maxHeartbeats 40000000 in
theorem own_md4E (l : Launch) (Z : State) (a0 : Array Value) (hw : ∀ d ∈ tables_1, d.before a0 Z = true) (ws : List Jvm.Cond) (o1 : Addr) (y d : Int32) (cy ry cd rd ce re mm iso : Addr) (h0 : Heap) (n0 : Nat) (Z0 : n0 ≤ h0.size) (Od : Old Z n0 h0) (Wd : own_W Z cy ry cd rd ce re mm iso) (E1 : Exa Z h0 o1 "java/time/LocalDate") (FY : Fld Z h0 o1 "java/time/LocalDate" "year" "I" (.int y)) (FM : Fld Z h0 o1 "java/time/LocalDate" "month" "S" (.int (4 : Int32))) (FD : Fld Z h0 o1 "java/time/LocalDate" "day" "S" (.int d)) (hy0 : 1583 ≤ y.toInt) (hy1 : y.toInt ≤ 999999999) (hd1 : 1 ≤ d.toInt) (hd2 : d.toInt ≤ 2) :
    MetFree l (⟨"java/time/LocalDate", "minusDays", "(J)Ljava/time/LocalDate;"⟩ : MethodName) (head1 (Jvm.Cond.code (⟨"java/time/LocalDate", "minusDays", "(J)Ljava/time/LocalDate;"⟩ : MethodName) jdk_2323_method_50_code 3 (some (.object "java/time/LocalDate")) :: ws) ({ frames := 6, cells := 1, slots := 3, locals := 100 } : Room)) (fun a U => a = #[(.ref o1), (.long (2 : Int64))] ∧ Z.Warmed39 U.vm ∧ U.heap = h0) (fun _ _ _ _ _ => True) (fun _ U o U' => ∃ v L, o = .returned v ∧ Q_own_md4E Z o1 y d cy ry cd rd ce re mm iso h0 n0 v U'.heap L ∧ FrameEnd U o U' L ({ frames := 6, cells := 1, slots := 3, locals := 100 } : Room).cells ({ frames := 6, cells := 1, slots := 3, locals := 100 } : Room).slots) := by
  refine MetFree.of_bodySF (plainFor_of_name own_pn_java_time_LocalDate) hisR ?_
  intro p e s m args below meth c s₁ Bd hml0 hP hK
  obtain ⟨rfl, hZ, hh⟩ := hP
  have hx := Bd.exec
  have hby := Bd.bytes
  have hml : c.maxLocals = 3 := hml0
  have hown : s.vm.findClass "java/time/LocalDate" = some m.cls := findClass_of_methodNamed Bd.named
  have hnm := (name_of_methodNamed Bd.named Bd.method).1
  have hlk : meth.locks = false := BodyLoose.notSynchronized Bd
  have X0 : Stand p l e ({ frames := 6, cells := 1, slots := 3, locals := 100 } : Room) s m #[(.ref o1), (.long (2 : Int64))] below meth c s₁ [] 0 0 := Stand.of_body Bd
  have e0 : s₁.heap = h0 := by rw [← hh, Bd.state]; rfl
  have N0 := Fr.nil n0
  show own_Go p e below #[(.ref o1), (.long (2 : Int64))] s (fun _ U o U' => ∃ v L, o = .returned v ∧ Q_own_md4E Z o1 y d cy ry cd rd ce re mm iso h0 n0 v U'.heap L ∧ FrameEnd U o U' L ({ frames := 6, cells := 1, slots := 3, locals := 100 } : Room).cells ({ frames := 6, cells := 1, slots := 3, locals := 100 } : Room).slots) (s₁.setTop (entryFrame m #[(.ref o1), (.long (2 : Int64))] 3))
  refine own_st (V := s₁.setTop (mkF m 0 #[.val (.ref o1), .val (.long (2 : Int64)), .second] [])) (fun t k => castTop (by first | (simp [entryFrame, mkF, argsToLocals, Value.category]; done) | rfl) k) ?_
  refine own_st (V := s₁.setTop (mkF m 1 #[.val (.ref o1), .val (.long (2 : Int64)), .second] [(.long (2 : Int64))])) (fun t k => XS.lloadN X0.here hx rfl (hb hby own_d17_0) rfl k) ?_
  refine own_st (V := s₁.setTop (mkF m 4 #[.val (.ref o1), .val (.long (2 : Int64)), .second] [(.long (-9223372036854775808 : Int64)), (.long (2 : Int64))])) (fun t k => X0.ldc2Long hx hown (mvT hZ (hw _ (List.mem_of_getElem? (i := 114) rfl))) (g := (mkF m 1 #[.val (.ref o1), .val (.long (2 : Int64)), .second] [(.long (2 : Int64))])) rfl (hb hby own_d17_1) t k) ?_
  refine own_st (V := s₁.setTop (mkF m 5 #[.val (.ref o1), .val (.long (2 : Int64)), .second] [(.int (lcmpW (2 : Int64) (-9223372036854775808 : Int64)))])) (fun t k => XS.lcmp X0.here hx rfl (hb hby own_d17_4) rfl k) ?_
  refine own_st (V := s₁.setTop (mkF m 22 #[.val (.ref o1), .val (.long (2 : Int64)), .second] [])) (fun t k => XS.ifYes X0.here hx rfl (pc0 := 5) (pc' := 22) rfl (hb hby own_d17_5) rfl ((if0 _ _).trans (feq (own_eq0 (by decide))).2) (by decide) (by decide) k) ?_
  refine own_st (V := s₁.setTop (mkF m 23 #[.val (.ref o1), .val (.long (2 : Int64)), .second] [(.ref o1)])) (fun t k => XS.aloadN X0.here hx rfl (hb hby own_d17_22) rfl rfl k) ?_
  refine own_st (V := s₁.setTop (mkF m 24 #[.val (.ref o1), .val (.long (2 : Int64)), .second] [(.long (2 : Int64)), (.ref o1)])) (fun t k => XS.lloadN X0.here hx rfl (hb hby own_d17_23) rfl k) ?_
  refine own_st (V := s₁.setTop (mkF m 25 #[.val (.ref o1), .val (.long (2 : Int64)), .second] [(.long (-(2 : Int64))), (.ref o1)])) (fun t k => XS.lneg X0.here hx rfl (hb hby own_d17_24) rfl k) ?_
  obtain ⟨cq75, kq75, q75a, q75b, q75c⟩ := isOf hZ e0 E1
  obtain ⟨_, _, ⟨T75, L75, k75, n75⟩, -, X75, ⟨Lc75, hQ75, l75, y75, z75⟩, st75⟩ := X0.virtualBack hx (y := (⟨"java/time/LocalDate", "plusDays", "(J)Ljava/time/LocalDate;"⟩ : MethodName)) (z := (⟨"java/time/LocalDate", "plusDays", "(J)Ljava/time/LocalDate;"⟩ : MethodName)) hown (mvT hZ (hw _ (List.mem_of_getElem? (i := 115) rfl))) (mvT hZ (hw _ (List.mem_of_getElem? (i := 97) rfl))) (notFace_of_selects (args := #[]) (mvT hZ (hw _ (List.mem_of_getElem? (i := 99) rfl)))) (mvT hZ (hw _ (List.mem_of_getElem? (i := 99) rfl))) (mvT hZ (hw _ (List.mem_of_getElem? (i := 98) rfl))) (by decide) (backOf (W := 0) (own_pd4E l Z a0 hw [] o1 y d (-(2 : Int64)) cy ry cd rd ce re mm iso h0 n0 Z0 Od Wd E1 FY FM FD hy0 hy1 hd1 hd2 (by decide) (by have a := c_ladd (d.toInt64) (-(2 : Int64)); have b := rng64 ((d.toInt64) + (-(2 : Int64))); have e2 : ((-(2 : Int64))).toInt = -2 := (by decide); have f := c_i2l d; omega)) hZ (hw _ (List.mem_of_getElem? (i := 100) rfl)) (hw _ (List.mem_of_getElem? (i := 10) rfl)) (by decide) (by decide)) q75a q75c (g := (mkF m 25 #[.val (.ref o1), .val (.long (2 : Int64)), .second] [(.long (-(2 : Int64))), (.ref o1)])) rfl (by rw [hml]; rfl) (Steps.refl _) (argsL := [(.long (-(2 : Int64)))]) (rest := []) (lenOf own_pd9 rfl) rfl (by show 2 * 0 + _ ≤ _; exact Nat.le_of_eq rfl) (hb hby own_d17_25) (fun _ _ => ⟨rfl, e0, (by decide : 0 + 1 ≤ _), (by decide : 0 + 3 ≤ _)⟩)
  dsimp only [Pt.U, Pt.locs, Pt.cells, Pt.slots] at X75 l75 y75 z75 st75 hQ75
  subst l75 y75 z75
  obtain ⟨d75, r75, rfl, N75q, K75, Ex75_q, Fq75_0, Fq75_1, Fq75_2, hr75⟩ := hQ75
  have N75 := Fr.app N0 N75q
  have Z0_75 : n0 ≤ T75.heap.size := Nat.le_trans Z0 K75.1
  have Kc75 := (Keep.refl h0 []).trans K75 all0
  have F75_o1_year := FY.keep K75 nin0
  have F75_o1_month := FM.keep K75 nin0
  have F75_o1_day := FD.keep K75 nin0
  have Ex75_o1 := E1.keep K75
  have Od75 := Od.keep K75 all0
  refine own_st (V := T75.setTop (mkF m 28 #[.val (.ref o1), .val (.long (2 : Int64)), .second] [(.ref d75)])) (fun t k => st75.trans k) ?_
  exact own_ret X75 hx hlk Bd.returns rfl (Or.inr (Or.inr (Or.inr (Or.inr ⟨rfl, rfl, rfl⟩)))) (hb hby own_d17_28) (by decide) (by decide) (by show Q_own_md4E Z o1 y d cy ry cd rd ce re mm iso h0 n0 _ T75.heap _; exact ⟨_, _, rfl, N75, Kc75, Ex75_q, Fq75_0, Fq75_1, Fq75_2, hr75⟩)
theorem own_sg (y : Int) : 0 ≤ own_ih y + own_il y - 7 * own_im y ∧ own_ih y + own_il y - 7 * own_im y ≤ 35 := by
  have h1 : 0 ≤ own_ih y ∧ own_ih y < 30 := by unfold own_ih; omega
  have h2 : 0 ≤ own_il y ∧ own_il y < 7 := by unfold own_il; omega
  have h3 : own_im y = (y % 19 + 11 * own_ih y + 22 * own_il y) / 451 := rfl
  rw [h3]
  generalize own_ih y = h at *
  generalize own_il y = l at *
  omega
theorem own_p22 (v : Int32) (h0 : 0 ≤ v.toInt) (h1 : v.toInt ≤ 35) : ((22 : Int32).toInt64 + v.toInt64).toInt = 22 + v.toInt := by
  have a := c_ladd (22 : Int32).toInt64 v.toInt64
  have b := rng64 ((22 : Int32).toInt64 + v.toInt64)
  have e : ((22 : Int32).toInt64).toInt = 22 := by decide
  have f := c_i2l v
  omega
theorem own_m2 (r : Int32) (h0 : 0 ≤ r.toInt) (h1 : r.toInt ≤ 100) : (r.toInt64 + (-(2 : Int64))).toInt = r.toInt - 2 := by
  have a := c_ladd r.toInt64 (-(2 : Int64))
  have b := rng64 (r.toInt64 + (-(2 : Int64)))
  have e : (-(2 : Int64)).toInt = -2 := by decide
  have f := c_i2l r
  omega
def Q_own_gf (Z : State) (y : Int32) (cy ry cd rd ce re mm iso : Addr) (h0 : Heap) (n0 : Nat) (v : Option Value) (h : Heap) (L : List Loc) : Prop := ∃ b r mo, v = some (.ref b) ∧ Fr n0 L ∧ Keep h0 h [] ∧ Exa Z h b "java/time/LocalDate" ∧ Fld Z h b "java/time/LocalDate" "year" "I" (.int y) ∧ Fld Z h b "java/time/LocalDate" "month" "S" (.int mo) ∧ Fld Z h b "java/time/LocalDate" "day" "S" (.int r) ∧ ((own_ih y.toInt + own_il y.toInt - 7 * own_im y.toInt) ≤ 11 → mo = (3 : Int32) ∧ r.toInt = 20 + (own_ih y.toInt + own_il y.toInt - 7 * own_im y.toInt)) ∧ (11 < (own_ih y.toInt + own_il y.toInt - 7 * own_im y.toInt) → mo = (4 : Int32) ∧ r.toInt = (own_ih y.toInt + own_il y.toInt - 7 * own_im y.toInt) - 11)
theorem own_d1_105 : decode prog_30_method_8_code 105 = .ok (.iload_n 0, 1) := by decide +kernel
theorem own_d1_106 : decode prog_30_method_8_code 106 = .ok (.getstatic 97, 3) := by decide +kernel
theorem own_d1_109 : decode prog_30_method_8_code 109 = .ok (.bipush 22, 2) := by decide +kernel
theorem own_d1_111 : decode prog_30_method_8_code 111 = .ok (.invokestatic 53, 3) := by decide +kernel
theorem own_pd12 : parseMethodDescriptor "(ILjava/time/Month;I)Ljava/time/LocalDate;" = some ⟨[.int, (.object "java/time/Month"), .int], some (.object "java/time/LocalDate")⟩ := by decide +kernel
theorem own_d1_114 : decode prog_30_method_8_code 114 = .ok (.iload 7, 2) := by decide +kernel
theorem own_d1_116 : decode prog_30_method_8_code 116 = .ok (.i2l, 1) := by decide +kernel
theorem own_d1_117 : decode prog_30_method_8_code 117 = .ok (.invokevirtual 85, 3) := by decide +kernel
theorem own_d1_120 : decode prog_30_method_8_code 120 = .ok (.ldc2_w 103, 3) := by decide +kernel
theorem own_d1_123 : decode prog_30_method_8_code 123 = .ok (.invokevirtual 81, 3) := by decide +kernel
theorem own_d1_126 : decode prog_30_method_8_code 126 = .ok (.areturn, 1) := by decide +kernel
theorem own_pn_com_example_notewright_notewright_Holidays : plainName "com/example/notewright/notewright/Holidays" = true := by first | (simp [plainName, overriddenIn]; done) | decide +kernel
set_option maxRecDepth 65536 in
set_option maxHeartbeats 40000000 in
theorem own_gf (l : Launch) (Z : State) (a0 : Array Value) (hw : ∀ d ∈ tables_1, d.before a0 Z = true) (ws : List Jvm.Cond) (y : Int32) (cy ry cd rd ce re mm iso : Addr) (h0 : Heap) (n0 : Nat) (Z0 : n0 ≤ h0.size) (Od : Old Z n0 h0) (Wd : own_W Z cy ry cd rd ce re mm iso) (hy0 : 1583 ≤ y.toInt) (hy1 : y.toInt ≤ 999999999) :
    MetFree l (⟨"com/example/notewright/notewright/Holidays", "goodFriday", "(I)Ljava/time/LocalDate;"⟩ : MethodName) (head1 (Jvm.Cond.code (⟨"com/example/notewright/notewright/Holidays", "goodFriday", "(I)Ljava/time/LocalDate;"⟩ : MethodName) prog_30_method_8_code 8 (some (.object "java/time/LocalDate")) :: ws) ({ frames := 7, cells := 5, slots := 33, locals := 114 } : Room)) (fun a U => a = #[(.int y)] ∧ Z.Warmed39 U.vm ∧ U.heap = h0) (fun _ _ _ _ _ => True) (fun _ U o U' => ∃ v L, o = .returned v ∧ Q_own_gf Z y cy ry cd rd ce re mm iso h0 n0 v U'.heap L ∧ ReturnedEndW U o U' L ({ frames := 7, cells := 5, slots := 33, locals := 114 } : Room).cells ({ frames := 7, cells := 5, slots := 33, locals := 114 } : Room).slots) := by
  refine MetFree.of_bodySF (plainFor_of_name own_pn_com_example_notewright_notewright_Holidays) hisR ?_
  intro p e s m args below meth c s₁ Bd hml0 hP hK
  obtain ⟨rfl, hZ, hh⟩ := hP
  have hx := Bd.exec
  have hby := Bd.bytes
  have hml : c.maxLocals = 8 := hml0
  have hown : s.vm.findClass "com/example/notewright/notewright/Holidays" = some m.cls := findClass_of_methodNamed Bd.named
  have hnm := (name_of_methodNamed Bd.named Bd.method).1
  have hlk : meth.locks = false := BodyLoose.notSynchronized Bd
  have X0 : Stand p l e ({ frames := 7, cells := 5, slots := 33, locals := 114 } : Room) s m #[(.int y)] below meth c s₁ [] 0 0 := Stand.of_body Bd
  have e0 : s₁.heap = h0 := by rw [← hh, Bd.state]; rfl
  have N0 := Fr.nil n0
  show own_Go p e below #[(.int y)] s (fun _ U o U' => ∃ v L, o = .returned v ∧ Q_own_gf Z y cy ry cd rd ce re mm iso h0 n0 v U'.heap L ∧ ReturnedEndW U o U' L ({ frames := 7, cells := 5, slots := 33, locals := 114 } : Room).cells ({ frames := 7, cells := 5, slots := 33, locals := 114 } : Room).slots) (s₁.setTop (entryFrame m #[(.int y)] 8))
  refine own_st (V := s₁.setTop (mkF m 0 #[.val (.int y), .unset, .unset, .unset, .unset, .unset, .unset, .unset] [])) (fun t k => castTop (by first | (simp [entryFrame, mkF, argsToLocals, Value.category]; done) | rfl) k) ?_
  refine own_st (V := s₁.setTop (mkF m 1 #[.val (.int y), .unset, .unset, .unset, .unset, .unset, .unset, .unset] [(.int y)])) (fun t k => XS.iloadN X0.here hx rfl (hb hby own_d1_0) rfl k) ?_
  refine own_st (V := s₁.setTop (mkF m 3 #[.val (.int y), .unset, .unset, .unset, .unset, .unset, .unset, .unset] [(.int (19 : Int32)), (.int y)])) (fun t k => XS.bipush X0.here hx rfl (hb hby own_d1_1) k) ?_
  refine own_st (V := s₁.setTop (mkF m 4 #[.val (.int y), .unset, .unset, .unset, .unset, .unset, .unset, .unset] [(.int (y % (19 : Int32)))])) (fun t k => Jvm.RoadKit.iremM X0 hx rfl (hb hby own_d1_3) rfl (by decide) k) ?_
  obtain ⟨v1, g_v1⟩ : ∃ z, z = (y % (19 : Int32)) := ⟨_, rfl⟩
  rw [← g_v1]
  refine own_st (V := s₁.setTop (mkF m 5 #[.val (.int y), .val (.int v1), .unset, .unset, .unset, .unset, .unset, .unset] [])) (fun t k => XS.istoreN X0.here hx rfl (hb hby own_d1_4) rfl (l' := #[.val (.int y), .val (.int v1), .unset, .unset, .unset, .unset, .unset, .unset]) rfl k) ?_
  refine own_st (V := s₁.setTop (mkF m 6 #[.val (.int y), .val (.int v1), .unset, .unset, .unset, .unset, .unset, .unset] [(.int y)])) (fun t k => XS.iloadN X0.here hx rfl (hb hby own_d1_5) rfl k) ?_
  refine own_st (V := s₁.setTop (mkF m 8 #[.val (.int y), .val (.int v1), .unset, .unset, .unset, .unset, .unset, .unset] [(.int (100 : Int32)), (.int y)])) (fun t k => XS.bipush X0.here hx rfl (hb hby own_d1_6) k) ?_
  refine own_st (V := s₁.setTop (mkF m 9 #[.val (.int y), .val (.int v1), .unset, .unset, .unset, .unset, .unset, .unset] [(.int (y / (100 : Int32)))])) (fun t k => XS.idiv X0.here hx rfl (hb hby own_d1_8) rfl (by decide) k) ?_
  obtain ⟨v2, g_v2⟩ : ∃ z, z = (y / (100 : Int32)) := ⟨_, rfl⟩
  rw [← g_v2]
  refine own_st (V := s₁.setTop (mkF m 10 #[.val (.int y), .val (.int v1), .val (.int v2), .unset, .unset, .unset, .unset, .unset] [])) (fun t k => XS.istoreN X0.here hx rfl (hb hby own_d1_9) rfl (l' := #[.val (.int y), .val (.int v1), .val (.int v2), .unset, .unset, .unset, .unset, .unset]) rfl k) ?_
  refine own_st (V := s₁.setTop (mkF m 11 #[.val (.int y), .val (.int v1), .val (.int v2), .unset, .unset, .unset, .unset, .unset] [(.int y)])) (fun t k => XS.iloadN X0.here hx rfl (hb hby own_d1_10) rfl k) ?_
  refine own_st (V := s₁.setTop (mkF m 13 #[.val (.int y), .val (.int v1), .val (.int v2), .unset, .unset, .unset, .unset, .unset] [(.int (100 : Int32)), (.int y)])) (fun t k => XS.bipush X0.here hx rfl (hb hby own_d1_11) k) ?_
  refine own_st (V := s₁.setTop (mkF m 14 #[.val (.int y), .val (.int v1), .val (.int v2), .unset, .unset, .unset, .unset, .unset] [(.int (y % (100 : Int32)))])) (fun t k => Jvm.RoadKit.iremM X0 hx rfl (hb hby own_d1_13) rfl (by decide) k) ?_
  obtain ⟨v3, g_v3⟩ : ∃ z, z = (y % (100 : Int32)) := ⟨_, rfl⟩
  rw [← g_v3]
  refine own_st (V := s₁.setTop (mkF m 15 #[.val (.int y), .val (.int v1), .val (.int v2), .val (.int v3), .unset, .unset, .unset, .unset] [])) (fun t k => XS.istoreN X0.here hx rfl (hb hby own_d1_14) rfl (l' := #[.val (.int y), .val (.int v1), .val (.int v2), .val (.int v3), .unset, .unset, .unset, .unset]) rfl k) ?_
  refine own_st (V := s₁.setTop (mkF m 17 #[.val (.int y), .val (.int v1), .val (.int v2), .val (.int v3), .unset, .unset, .unset, .unset] [(.int (19 : Int32))])) (fun t k => XS.bipush X0.here hx rfl (hb hby own_d1_15) k) ?_
  refine own_st (V := s₁.setTop (mkF m 18 #[.val (.int y), .val (.int v1), .val (.int v2), .val (.int v3), .unset, .unset, .unset, .unset] [(.int v1), (.int (19 : Int32))])) (fun t k => XS.iloadN X0.here hx rfl (hb hby own_d1_17) rfl k) ?_
  refine own_st (V := s₁.setTop (mkF m 19 #[.val (.int y), .val (.int v1), .val (.int v2), .val (.int v3), .unset, .unset, .unset, .unset] [(.int ((19 : Int32) * v1))])) (fun t k => XS.imul X0.here hx rfl (hb hby own_d1_18) rfl k) ?_
  refine own_st (V := s₁.setTop (mkF m 20 #[.val (.int y), .val (.int v1), .val (.int v2), .val (.int v3), .unset, .unset, .unset, .unset] [(.int v2), (.int ((19 : Int32) * v1))])) (fun t k => XS.iloadN X0.here hx rfl (hb hby own_d1_19) rfl k) ?_
  refine own_st (V := s₁.setTop (mkF m 21 #[.val (.int y), .val (.int v1), .val (.int v2), .val (.int v3), .unset, .unset, .unset, .unset] [(.int (((19 : Int32) * v1) + v2))])) (fun t k => XS.iadd X0.here hx rfl (hb hby own_d1_20) rfl k) ?_
  refine own_st (V := s₁.setTop (mkF m 22 #[.val (.int y), .val (.int v1), .val (.int v2), .val (.int v3), .unset, .unset, .unset, .unset] [(.int v2), (.int (((19 : Int32) * v1) + v2))])) (fun t k => XS.iloadN X0.here hx rfl (hb hby own_d1_21) rfl k) ?_
  refine own_st (V := s₁.setTop (mkF m 23 #[.val (.int y), .val (.int v1), .val (.int v2), .val (.int v3), .unset, .unset, .unset, .unset] [(.int (4 : Int32)), (.int v2), (.int (((19 : Int32) * v1) + v2))])) (fun t k => XS.iconst X0.here hx rfl (hb hby own_d1_22) k) ?_
  refine own_st (V := s₁.setTop (mkF m 24 #[.val (.int y), .val (.int v1), .val (.int v2), .val (.int v3), .unset, .unset, .unset, .unset] [(.int (v2 / (4 : Int32))), (.int (((19 : Int32) * v1) + v2))])) (fun t k => XS.idiv X0.here hx rfl (hb hby own_d1_23) rfl (by decide) k) ?_
  refine own_st (V := s₁.setTop (mkF m 25 #[.val (.int y), .val (.int v1), .val (.int v2), .val (.int v3), .unset, .unset, .unset, .unset] [(.int ((((19 : Int32) * v1) + v2) - (v2 / (4 : Int32))))])) (fun t k => XS.isub X0.here hx rfl (hb hby own_d1_24) rfl k) ?_
  refine own_st (V := s₁.setTop (mkF m 26 #[.val (.int y), .val (.int v1), .val (.int v2), .val (.int v3), .unset, .unset, .unset, .unset] [(.int v2), (.int ((((19 : Int32) * v1) + v2) - (v2 / (4 : Int32))))])) (fun t k => XS.iloadN X0.here hx rfl (hb hby own_d1_25) rfl k) ?_
  refine own_st (V := s₁.setTop (mkF m 27 #[.val (.int y), .val (.int v1), .val (.int v2), .val (.int v3), .unset, .unset, .unset, .unset] [(.int v2), (.int v2), (.int ((((19 : Int32) * v1) + v2) - (v2 / (4 : Int32))))])) (fun t k => XS.iloadN X0.here hx rfl (hb hby own_d1_26) rfl k) ?_
  refine own_st (V := s₁.setTop (mkF m 29 #[.val (.int y), .val (.int v1), .val (.int v2), .val (.int v3), .unset, .unset, .unset, .unset] [(.int (8 : Int32)), (.int v2), (.int v2), (.int ((((19 : Int32) * v1) + v2) - (v2 / (4 : Int32))))])) (fun t k => XS.bipush X0.here hx rfl (hb hby own_d1_27) k) ?_
  refine own_st (V := s₁.setTop (mkF m 30 #[.val (.int y), .val (.int v1), .val (.int v2), .val (.int v3), .unset, .unset, .unset, .unset] [(.int (v2 + (8 : Int32))), (.int v2), (.int ((((19 : Int32) * v1) + v2) - (v2 / (4 : Int32))))])) (fun t k => XS.iadd X0.here hx rfl (hb hby own_d1_29) rfl k) ?_
  refine own_st (V := s₁.setTop (mkF m 32 #[.val (.int y), .val (.int v1), .val (.int v2), .val (.int v3), .unset, .unset, .unset, .unset] [(.int (25 : Int32)), (.int (v2 + (8 : Int32))), (.int v2), (.int ((((19 : Int32) * v1) + v2) - (v2 / (4 : Int32))))])) (fun t k => XS.bipush X0.here hx rfl (hb hby own_d1_30) k) ?_
  refine own_st (V := s₁.setTop (mkF m 33 #[.val (.int y), .val (.int v1), .val (.int v2), .val (.int v3), .unset, .unset, .unset, .unset] [(.int ((v2 + (8 : Int32)) / (25 : Int32))), (.int v2), (.int ((((19 : Int32) * v1) + v2) - (v2 / (4 : Int32))))])) (fun t k => XS.idiv X0.here hx rfl (hb hby own_d1_32) rfl (by decide) k) ?_
  refine own_st (V := s₁.setTop (mkF m 34 #[.val (.int y), .val (.int v1), .val (.int v2), .val (.int v3), .unset, .unset, .unset, .unset] [(.int (v2 - ((v2 + (8 : Int32)) / (25 : Int32)))), (.int ((((19 : Int32) * v1) + v2) - (v2 / (4 : Int32))))])) (fun t k => XS.isub X0.here hx rfl (hb hby own_d1_33) rfl k) ?_
  refine own_st (V := s₁.setTop (mkF m 35 #[.val (.int y), .val (.int v1), .val (.int v2), .val (.int v3), .unset, .unset, .unset, .unset] [(.int (1 : Int32)), (.int (v2 - ((v2 + (8 : Int32)) / (25 : Int32)))), (.int ((((19 : Int32) * v1) + v2) - (v2 / (4 : Int32))))])) (fun t k => XS.iconst X0.here hx rfl (hb hby own_d1_34) k) ?_
  refine own_st (V := s₁.setTop (mkF m 36 #[.val (.int y), .val (.int v1), .val (.int v2), .val (.int v3), .unset, .unset, .unset, .unset] [(.int ((v2 - ((v2 + (8 : Int32)) / (25 : Int32))) + (1 : Int32))), (.int ((((19 : Int32) * v1) + v2) - (v2 / (4 : Int32))))])) (fun t k => XS.iadd X0.here hx rfl (hb hby own_d1_35) rfl k) ?_
  refine own_st (V := s₁.setTop (mkF m 37 #[.val (.int y), .val (.int v1), .val (.int v2), .val (.int v3), .unset, .unset, .unset, .unset] [(.int (3 : Int32)), (.int ((v2 - ((v2 + (8 : Int32)) / (25 : Int32))) + (1 : Int32))), (.int ((((19 : Int32) * v1) + v2) - (v2 / (4 : Int32))))])) (fun t k => XS.iconst X0.here hx rfl (hb hby own_d1_36) k) ?_
  refine own_st (V := s₁.setTop (mkF m 38 #[.val (.int y), .val (.int v1), .val (.int v2), .val (.int v3), .unset, .unset, .unset, .unset] [(.int (((v2 - ((v2 + (8 : Int32)) / (25 : Int32))) + (1 : Int32)) / (3 : Int32))), (.int ((((19 : Int32) * v1) + v2) - (v2 / (4 : Int32))))])) (fun t k => XS.idiv X0.here hx rfl (hb hby own_d1_37) rfl (by decide) k) ?_
  refine own_st (V := s₁.setTop (mkF m 39 #[.val (.int y), .val (.int v1), .val (.int v2), .val (.int v3), .unset, .unset, .unset, .unset] [(.int (((((19 : Int32) * v1) + v2) - (v2 / (4 : Int32))) - (((v2 - ((v2 + (8 : Int32)) / (25 : Int32))) + (1 : Int32)) / (3 : Int32))))])) (fun t k => XS.isub X0.here hx rfl (hb hby own_d1_38) rfl k) ?_
  refine own_st (V := s₁.setTop (mkF m 41 #[.val (.int y), .val (.int v1), .val (.int v2), .val (.int v3), .unset, .unset, .unset, .unset] [(.int (15 : Int32)), (.int (((((19 : Int32) * v1) + v2) - (v2 / (4 : Int32))) - (((v2 - ((v2 + (8 : Int32)) / (25 : Int32))) + (1 : Int32)) / (3 : Int32))))])) (fun t k => XS.bipush X0.here hx rfl (hb hby own_d1_39) k) ?_
  refine own_st (V := s₁.setTop (mkF m 42 #[.val (.int y), .val (.int v1), .val (.int v2), .val (.int v3), .unset, .unset, .unset, .unset] [(.int ((((((19 : Int32) * v1) + v2) - (v2 / (4 : Int32))) - (((v2 - ((v2 + (8 : Int32)) / (25 : Int32))) + (1 : Int32)) / (3 : Int32))) + (15 : Int32)))])) (fun t k => XS.iadd X0.here hx rfl (hb hby own_d1_41) rfl k) ?_
  refine own_st (V := s₁.setTop (mkF m 44 #[.val (.int y), .val (.int v1), .val (.int v2), .val (.int v3), .unset, .unset, .unset, .unset] [(.int (30 : Int32)), (.int ((((((19 : Int32) * v1) + v2) - (v2 / (4 : Int32))) - (((v2 - ((v2 + (8 : Int32)) / (25 : Int32))) + (1 : Int32)) / (3 : Int32))) + (15 : Int32)))])) (fun t k => XS.bipush X0.here hx rfl (hb hby own_d1_42) k) ?_
  refine own_st (V := s₁.setTop (mkF m 45 #[.val (.int y), .val (.int v1), .val (.int v2), .val (.int v3), .unset, .unset, .unset, .unset] [(.int (((((((19 : Int32) * v1) + v2) - (v2 / (4 : Int32))) - (((v2 - ((v2 + (8 : Int32)) / (25 : Int32))) + (1 : Int32)) / (3 : Int32))) + (15 : Int32)) % (30 : Int32)))])) (fun t k => Jvm.RoadKit.iremM X0 hx rfl (hb hby own_d1_44) rfl (by decide) k) ?_
  obtain ⟨v4, g_v4⟩ : ∃ z, z = (((((((19 : Int32) * v1) + v2) - (v2 / (4 : Int32))) - (((v2 - ((v2 + (8 : Int32)) / (25 : Int32))) + (1 : Int32)) / (3 : Int32))) + (15 : Int32)) % (30 : Int32)) := ⟨_, rfl⟩
  rw [← g_v4]
  refine own_st (V := s₁.setTop (mkF m 47 #[.val (.int y), .val (.int v1), .val (.int v2), .val (.int v3), .val (.int v4), .unset, .unset, .unset] [])) (fun t k => XS.istore X0.here hx rfl (hb hby own_d1_45) rfl (l' := #[.val (.int y), .val (.int v1), .val (.int v2), .val (.int v3), .val (.int v4), .unset, .unset, .unset]) rfl k) ?_
  refine own_st (V := s₁.setTop (mkF m 49 #[.val (.int y), .val (.int v1), .val (.int v2), .val (.int v3), .val (.int v4), .unset, .unset, .unset] [(.int (32 : Int32))])) (fun t k => XS.bipush X0.here hx rfl (hb hby own_d1_47) k) ?_
  refine own_st (V := s₁.setTop (mkF m 50 #[.val (.int y), .val (.int v1), .val (.int v2), .val (.int v3), .val (.int v4), .unset, .unset, .unset] [(.int (2 : Int32)), (.int (32 : Int32))])) (fun t k => XS.iconst X0.here hx rfl (hb hby own_d1_49) k) ?_
  refine own_st (V := s₁.setTop (mkF m 51 #[.val (.int y), .val (.int v1), .val (.int v2), .val (.int v3), .val (.int v4), .unset, .unset, .unset] [(.int v2), (.int (2 : Int32)), (.int (32 : Int32))])) (fun t k => XS.iloadN X0.here hx rfl (hb hby own_d1_50) rfl k) ?_
  refine own_st (V := s₁.setTop (mkF m 52 #[.val (.int y), .val (.int v1), .val (.int v2), .val (.int v3), .val (.int v4), .unset, .unset, .unset] [(.int (4 : Int32)), (.int v2), (.int (2 : Int32)), (.int (32 : Int32))])) (fun t k => XS.iconst X0.here hx rfl (hb hby own_d1_51) k) ?_
  refine own_st (V := s₁.setTop (mkF m 53 #[.val (.int y), .val (.int v1), .val (.int v2), .val (.int v3), .val (.int v4), .unset, .unset, .unset] [(.int (v2 % (4 : Int32))), (.int (2 : Int32)), (.int (32 : Int32))])) (fun t k => Jvm.RoadKit.iremM X0 hx rfl (hb hby own_d1_52) rfl (by decide) k) ?_
  refine own_st (V := s₁.setTop (mkF m 54 #[.val (.int y), .val (.int v1), .val (.int v2), .val (.int v3), .val (.int v4), .unset, .unset, .unset] [(.int ((2 : Int32) * (v2 % (4 : Int32)))), (.int (32 : Int32))])) (fun t k => XS.imul X0.here hx rfl (hb hby own_d1_53) rfl k) ?_
  refine own_st (V := s₁.setTop (mkF m 55 #[.val (.int y), .val (.int v1), .val (.int v2), .val (.int v3), .val (.int v4), .unset, .unset, .unset] [(.int ((32 : Int32) + ((2 : Int32) * (v2 % (4 : Int32)))))])) (fun t k => XS.iadd X0.here hx rfl (hb hby own_d1_54) rfl k) ?_
  refine own_st (V := s₁.setTop (mkF m 56 #[.val (.int y), .val (.int v1), .val (.int v2), .val (.int v3), .val (.int v4), .unset, .unset, .unset] [(.int (2 : Int32)), (.int ((32 : Int32) + ((2 : Int32) * (v2 % (4 : Int32)))))])) (fun t k => XS.iconst X0.here hx rfl (hb hby own_d1_55) k) ?_
  refine own_st (V := s₁.setTop (mkF m 57 #[.val (.int y), .val (.int v1), .val (.int v2), .val (.int v3), .val (.int v4), .unset, .unset, .unset] [(.int v3), (.int (2 : Int32)), (.int ((32 : Int32) + ((2 : Int32) * (v2 % (4 : Int32)))))])) (fun t k => XS.iloadN X0.here hx rfl (hb hby own_d1_56) rfl k) ?_
  refine own_st (V := s₁.setTop (mkF m 58 #[.val (.int y), .val (.int v1), .val (.int v2), .val (.int v3), .val (.int v4), .unset, .unset, .unset] [(.int (4 : Int32)), (.int v3), (.int (2 : Int32)), (.int ((32 : Int32) + ((2 : Int32) * (v2 % (4 : Int32)))))])) (fun t k => XS.iconst X0.here hx rfl (hb hby own_d1_57) k) ?_
  refine own_st (V := s₁.setTop (mkF m 59 #[.val (.int y), .val (.int v1), .val (.int v2), .val (.int v3), .val (.int v4), .unset, .unset, .unset] [(.int (v3 / (4 : Int32))), (.int (2 : Int32)), (.int ((32 : Int32) + ((2 : Int32) * (v2 % (4 : Int32)))))])) (fun t k => XS.idiv X0.here hx rfl (hb hby own_d1_58) rfl (by decide) k) ?_
  refine own_st (V := s₁.setTop (mkF m 60 #[.val (.int y), .val (.int v1), .val (.int v2), .val (.int v3), .val (.int v4), .unset, .unset, .unset] [(.int ((2 : Int32) * (v3 / (4 : Int32)))), (.int ((32 : Int32) + ((2 : Int32) * (v2 % (4 : Int32)))))])) (fun t k => XS.imul X0.here hx rfl (hb hby own_d1_59) rfl k) ?_
  refine own_st (V := s₁.setTop (mkF m 61 #[.val (.int y), .val (.int v1), .val (.int v2), .val (.int v3), .val (.int v4), .unset, .unset, .unset] [(.int (((32 : Int32) + ((2 : Int32) * (v2 % (4 : Int32)))) + ((2 : Int32) * (v3 / (4 : Int32)))))])) (fun t k => XS.iadd X0.here hx rfl (hb hby own_d1_60) rfl k) ?_
  refine own_st (V := s₁.setTop (mkF m 63 #[.val (.int y), .val (.int v1), .val (.int v2), .val (.int v3), .val (.int v4), .unset, .unset, .unset] [(.int v4), (.int (((32 : Int32) + ((2 : Int32) * (v2 % (4 : Int32)))) + ((2 : Int32) * (v3 / (4 : Int32)))))])) (fun t k => XS.iload X0.here hx rfl (hb hby own_d1_61) rfl k) ?_
  refine own_st (V := s₁.setTop (mkF m 64 #[.val (.int y), .val (.int v1), .val (.int v2), .val (.int v3), .val (.int v4), .unset, .unset, .unset] [(.int ((((32 : Int32) + ((2 : Int32) * (v2 % (4 : Int32)))) + ((2 : Int32) * (v3 / (4 : Int32)))) - v4))])) (fun t k => XS.isub X0.here hx rfl (hb hby own_d1_63) rfl k) ?_
  refine own_st (V := s₁.setTop (mkF m 65 #[.val (.int y), .val (.int v1), .val (.int v2), .val (.int v3), .val (.int v4), .unset, .unset, .unset] [(.int v3), (.int ((((32 : Int32) + ((2 : Int32) * (v2 % (4 : Int32)))) + ((2 : Int32) * (v3 / (4 : Int32)))) - v4))])) (fun t k => XS.iloadN X0.here hx rfl (hb hby own_d1_64) rfl k) ?_
  refine own_st (V := s₁.setTop (mkF m 66 #[.val (.int y), .val (.int v1), .val (.int v2), .val (.int v3), .val (.int v4), .unset, .unset, .unset] [(.int (4 : Int32)), (.int v3), (.int ((((32 : Int32) + ((2 : Int32) * (v2 % (4 : Int32)))) + ((2 : Int32) * (v3 / (4 : Int32)))) - v4))])) (fun t k => XS.iconst X0.here hx rfl (hb hby own_d1_65) k) ?_
  refine own_st (V := s₁.setTop (mkF m 67 #[.val (.int y), .val (.int v1), .val (.int v2), .val (.int v3), .val (.int v4), .unset, .unset, .unset] [(.int (v3 % (4 : Int32))), (.int ((((32 : Int32) + ((2 : Int32) * (v2 % (4 : Int32)))) + ((2 : Int32) * (v3 / (4 : Int32)))) - v4))])) (fun t k => Jvm.RoadKit.iremM X0 hx rfl (hb hby own_d1_66) rfl (by decide) k) ?_
  refine own_st (V := s₁.setTop (mkF m 68 #[.val (.int y), .val (.int v1), .val (.int v2), .val (.int v3), .val (.int v4), .unset, .unset, .unset] [(.int (((((32 : Int32) + ((2 : Int32) * (v2 % (4 : Int32)))) + ((2 : Int32) * (v3 / (4 : Int32)))) - v4) - (v3 % (4 : Int32))))])) (fun t k => XS.isub X0.here hx rfl (hb hby own_d1_67) rfl k) ?_
  refine own_st (V := s₁.setTop (mkF m 70 #[.val (.int y), .val (.int v1), .val (.int v2), .val (.int v3), .val (.int v4), .unset, .unset, .unset] [(.int (7 : Int32)), (.int (((((32 : Int32) + ((2 : Int32) * (v2 % (4 : Int32)))) + ((2 : Int32) * (v3 / (4 : Int32)))) - v4) - (v3 % (4 : Int32))))])) (fun t k => XS.bipush X0.here hx rfl (hb hby own_d1_68) k) ?_
  refine own_st (V := s₁.setTop (mkF m 71 #[.val (.int y), .val (.int v1), .val (.int v2), .val (.int v3), .val (.int v4), .unset, .unset, .unset] [(.int ((((((32 : Int32) + ((2 : Int32) * (v2 % (4 : Int32)))) + ((2 : Int32) * (v3 / (4 : Int32)))) - v4) - (v3 % (4 : Int32))) % (7 : Int32)))])) (fun t k => Jvm.RoadKit.iremM X0 hx rfl (hb hby own_d1_70) rfl (by decide) k) ?_
  obtain ⟨v5, g_v5⟩ : ∃ z, z = ((((((32 : Int32) + ((2 : Int32) * (v2 % (4 : Int32)))) + ((2 : Int32) * (v3 / (4 : Int32)))) - v4) - (v3 % (4 : Int32))) % (7 : Int32)) := ⟨_, rfl⟩
  rw [← g_v5]
  refine own_st (V := s₁.setTop (mkF m 73 #[.val (.int y), .val (.int v1), .val (.int v2), .val (.int v3), .val (.int v4), .val (.int v5), .unset, .unset] [])) (fun t k => XS.istore X0.here hx rfl (hb hby own_d1_71) rfl (l' := #[.val (.int y), .val (.int v1), .val (.int v2), .val (.int v3), .val (.int v4), .val (.int v5), .unset, .unset]) rfl k) ?_
  refine own_st (V := s₁.setTop (mkF m 74 #[.val (.int y), .val (.int v1), .val (.int v2), .val (.int v3), .val (.int v4), .val (.int v5), .unset, .unset] [(.int v1)])) (fun t k => XS.iloadN X0.here hx rfl (hb hby own_d1_73) rfl k) ?_
  refine own_st (V := s₁.setTop (mkF m 76 #[.val (.int y), .val (.int v1), .val (.int v2), .val (.int v3), .val (.int v4), .val (.int v5), .unset, .unset] [(.int (11 : Int32)), (.int v1)])) (fun t k => XS.bipush X0.here hx rfl (hb hby own_d1_74) k) ?_
  refine own_st (V := s₁.setTop (mkF m 78 #[.val (.int y), .val (.int v1), .val (.int v2), .val (.int v3), .val (.int v4), .val (.int v5), .unset, .unset] [(.int v4), (.int (11 : Int32)), (.int v1)])) (fun t k => XS.iload X0.here hx rfl (hb hby own_d1_76) rfl k) ?_
  refine own_st (V := s₁.setTop (mkF m 79 #[.val (.int y), .val (.int v1), .val (.int v2), .val (.int v3), .val (.int v4), .val (.int v5), .unset, .unset] [(.int ((11 : Int32) * v4)), (.int v1)])) (fun t k => XS.imul X0.here hx rfl (hb hby own_d1_78) rfl k) ?_
  refine own_st (V := s₁.setTop (mkF m 80 #[.val (.int y), .val (.int v1), .val (.int v2), .val (.int v3), .val (.int v4), .val (.int v5), .unset, .unset] [(.int (v1 + ((11 : Int32) * v4)))])) (fun t k => XS.iadd X0.here hx rfl (hb hby own_d1_79) rfl k) ?_
  refine own_st (V := s₁.setTop (mkF m 82 #[.val (.int y), .val (.int v1), .val (.int v2), .val (.int v3), .val (.int v4), .val (.int v5), .unset, .unset] [(.int (22 : Int32)), (.int (v1 + ((11 : Int32) * v4)))])) (fun t k => XS.bipush X0.here hx rfl (hb hby own_d1_80) k) ?_
  refine own_st (V := s₁.setTop (mkF m 84 #[.val (.int y), .val (.int v1), .val (.int v2), .val (.int v3), .val (.int v4), .val (.int v5), .unset, .unset] [(.int v5), (.int (22 : Int32)), (.int (v1 + ((11 : Int32) * v4)))])) (fun t k => XS.iload X0.here hx rfl (hb hby own_d1_82) rfl k) ?_
  refine own_st (V := s₁.setTop (mkF m 85 #[.val (.int y), .val (.int v1), .val (.int v2), .val (.int v3), .val (.int v4), .val (.int v5), .unset, .unset] [(.int ((22 : Int32) * v5)), (.int (v1 + ((11 : Int32) * v4)))])) (fun t k => XS.imul X0.here hx rfl (hb hby own_d1_84) rfl k) ?_
  refine own_st (V := s₁.setTop (mkF m 86 #[.val (.int y), .val (.int v1), .val (.int v2), .val (.int v3), .val (.int v4), .val (.int v5), .unset, .unset] [(.int ((v1 + ((11 : Int32) * v4)) + ((22 : Int32) * v5)))])) (fun t k => XS.iadd X0.here hx rfl (hb hby own_d1_85) rfl k) ?_
  refine own_st (V := s₁.setTop (mkF m 89 #[.val (.int y), .val (.int v1), .val (.int v2), .val (.int v3), .val (.int v4), .val (.int v5), .unset, .unset] [(.int (451 : Int32)), (.int ((v1 + ((11 : Int32) * v4)) + ((22 : Int32) * v5)))])) (fun t k => XS.sipush X0.here hx rfl (hb hby own_d1_86) k) ?_
  refine own_st (V := s₁.setTop (mkF m 90 #[.val (.int y), .val (.int v1), .val (.int v2), .val (.int v3), .val (.int v4), .val (.int v5), .unset, .unset] [(.int (((v1 + ((11 : Int32) * v4)) + ((22 : Int32) * v5)) / (451 : Int32)))])) (fun t k => XS.idiv X0.here hx rfl (hb hby own_d1_89) rfl (by decide) k) ?_
  obtain ⟨v6, g_v6⟩ : ∃ z, z = (((v1 + ((11 : Int32) * v4)) + ((22 : Int32) * v5)) / (451 : Int32)) := ⟨_, rfl⟩
  rw [← g_v6]
  refine own_st (V := s₁.setTop (mkF m 92 #[.val (.int y), .val (.int v1), .val (.int v2), .val (.int v3), .val (.int v4), .val (.int v5), .val (.int v6), .unset] [])) (fun t k => XS.istore X0.here hx rfl (hb hby own_d1_90) rfl (l' := #[.val (.int y), .val (.int v1), .val (.int v2), .val (.int v3), .val (.int v4), .val (.int v5), .val (.int v6), .unset]) rfl k) ?_
  refine own_st (V := s₁.setTop (mkF m 94 #[.val (.int y), .val (.int v1), .val (.int v2), .val (.int v3), .val (.int v4), .val (.int v5), .val (.int v6), .unset] [(.int v4)])) (fun t k => XS.iload X0.here hx rfl (hb hby own_d1_92) rfl k) ?_
  refine own_st (V := s₁.setTop (mkF m 96 #[.val (.int y), .val (.int v1), .val (.int v2), .val (.int v3), .val (.int v4), .val (.int v5), .val (.int v6), .unset] [(.int v5), (.int v4)])) (fun t k => XS.iload X0.here hx rfl (hb hby own_d1_94) rfl k) ?_
  refine own_st (V := s₁.setTop (mkF m 97 #[.val (.int y), .val (.int v1), .val (.int v2), .val (.int v3), .val (.int v4), .val (.int v5), .val (.int v6), .unset] [(.int (v4 + v5))])) (fun t k => XS.iadd X0.here hx rfl (hb hby own_d1_96) rfl k) ?_
  refine own_st (V := s₁.setTop (mkF m 99 #[.val (.int y), .val (.int v1), .val (.int v2), .val (.int v3), .val (.int v4), .val (.int v5), .val (.int v6), .unset] [(.int (7 : Int32)), (.int (v4 + v5))])) (fun t k => XS.bipush X0.here hx rfl (hb hby own_d1_97) k) ?_
  refine own_st (V := s₁.setTop (mkF m 101 #[.val (.int y), .val (.int v1), .val (.int v2), .val (.int v3), .val (.int v4), .val (.int v5), .val (.int v6), .unset] [(.int v6), (.int (7 : Int32)), (.int (v4 + v5))])) (fun t k => XS.iload X0.here hx rfl (hb hby own_d1_99) rfl k) ?_
  refine own_st (V := s₁.setTop (mkF m 102 #[.val (.int y), .val (.int v1), .val (.int v2), .val (.int v3), .val (.int v4), .val (.int v5), .val (.int v6), .unset] [(.int ((7 : Int32) * v6)), (.int (v4 + v5))])) (fun t k => XS.imul X0.here hx rfl (hb hby own_d1_101) rfl k) ?_
  refine own_st (V := s₁.setTop (mkF m 103 #[.val (.int y), .val (.int v1), .val (.int v2), .val (.int v3), .val (.int v4), .val (.int v5), .val (.int v6), .unset] [(.int ((v4 + v5) - ((7 : Int32) * v6)))])) (fun t k => XS.isub X0.here hx rfl (hb hby own_d1_102) rfl k) ?_
  obtain ⟨v7, g_v7⟩ : ∃ z, z = ((v4 + v5) - ((7 : Int32) * v6)) := ⟨_, rfl⟩
  rw [← g_v7]
  have hsh : v7.toInt = own_ih y.toInt + own_il y.toInt - 7 * own_im y.toInt := by rw [g_v7, g_v6, g_v5, g_v4, g_v3, g_v2, g_v1]; exact own_sh_gf y hy0 hy1
  clear g_v7 g_v6 g_v5 g_v4 g_v3 g_v2 g_v1
  refine own_st (V := s₁.setTop (mkF m 105 #[.val (.int y), .val (.int v1), .val (.int v2), .val (.int v3), .val (.int v4), .val (.int v5), .val (.int v6), .val (.int v7)] [])) (fun t k => XS.istore X0.here hx rfl (hb hby own_d1_103) rfl (l' := #[.val (.int y), .val (.int v1), .val (.int v2), .val (.int v3), .val (.int v4), .val (.int v5), .val (.int v6), .val (.int v7)]) rfl k) ?_
  refine own_st (V := s₁.setTop (mkF m 106 #[.val (.int y), .val (.int v1), .val (.int v2), .val (.int v3), .val (.int v4), .val (.int v5), .val (.int v6), .val (.int v7)] [(.int y)])) (fun t k => XS.iloadN X0.here hx rfl (hb hby own_d1_105) rfl k) ?_
  obtain ⟨T76, X76, e76, st76⟩ := getS2 X0 hx hZ hown (host := "") (Or.inl (hw _ (List.mem_of_getElem? (i := 6) rfl))) Via.refl e0 (own_so Od Wd.2.2.2.2.2.2.2.2.2.2.2.2.2.2.2.2.2.2.1) (g := (mkF m 106 #[.val (.int y), .val (.int v1), .val (.int v2), .val (.int v3), .val (.int v4), .val (.int v5), .val (.int v6), .val (.int v7)] [(.int y)])) rfl (hb hby own_d1_106)
  refine own_st (V := T76.setTop (mkF m 109 #[.val (.int y), .val (.int v1), .val (.int v2), .val (.int v3), .val (.int v4), .val (.int v5), .val (.int v6), .val (.int v7)] [(.ref mm), (.int y)])) (fun t k => st76 _ k) ?_
  refine own_st (V := T76.setTop (mkF m 111 #[.val (.int y), .val (.int v1), .val (.int v2), .val (.int v3), .val (.int v4), .val (.int v5), .val (.int v6), .val (.int v7)] [(.int (22 : Int32)), (.ref mm), (.int y)])) (fun t k => XS.bipush X76.here hx rfl (hb hby own_d1_109) k) ?_
  obtain ⟨_, _, ⟨T77, L77, k77, n77⟩, -, X77, hSi77, hgr77, ⟨Lc77, hQ77, l77, y77, z77⟩, st77⟩ := Jvm.RoadKit.callSS X76 hx (y := (⟨"java/time/LocalDate", "of", "(ILjava/time/Month;I)Ljava/time/LocalDate;"⟩ : MethodName)) hown (mvT hZ (hw _ (List.mem_of_getElem? (i := 8) rfl))) (mvT hZ (hw _ (List.mem_of_getElem? (i := 9) rfl))) (mvT hZ (hw _ (List.mem_of_getElem? (i := 10) rfl))) (mvT hZ (hw _ (List.mem_of_getElem? (i := 11) rfl))) (by decide) (backOfS (W := 0) (own_of l Z a0 hw [] y cy ry cd rd ce re mm iso h0 n0 Z0 Od Wd hy0 hy1) hZ (hw _ (List.mem_of_getElem? (i := 11) rfl)) (hw _ (List.mem_of_getElem? (i := 10) rfl)) (by decide) (by decide)) (g := (mkF m 111 #[.val (.int y), .val (.int v1), .val (.int v2), .val (.int v3), .val (.int v4), .val (.int v5), .val (.int v6), .val (.int v7)] [(.int (22 : Int32)), (.ref mm), (.int y)])) rfl (by rw [hml]; rfl) (argsL := [(.int y), (.ref mm), (.int (22 : Int32))]) (rest := []) (lenOf own_pd12 rfl) rfl (by show 2 * 0 + _ ≤ _; exact Nat.le_of_eq rfl) (hb hby own_d1_111) (fun _ _ => ⟨rfl, e76, (by decide : 0 + 3 ≤ _), (by decide : 0 + 27 ≤ _)⟩)
  dsimp only [Pt.U, Pt.locs, Pt.cells, Pt.slots] at X77 l77 y77 z77 st77 hQ77
  subst l77 y77 z77
  dsimp only [Pt.U] at hSi77 hgr77
  obtain ⟨d77, rfl, N77q, K77, Ex77_q, Fq77_0, Fq77_1, Fq77_2⟩ := hQ77
  have N77 := Fr.app N0 N77q
  have Z0_77 : n0 ≤ T77.heap.size := Nat.le_trans Z0 K77.1
  have Kc77 := (Keep.refl h0 []).trans K77 all0
  have Od77 := Od.keep K77 all0
  have hZ_77 : Z.Warmed39 (s.setVm T77.vm).vm := State.Warmed39.trans hZ hSi77.1
  have hown_77 : (s.setVm T77.vm).vm.findClass "com/example/notewright/notewright/Holidays" = some m.cls := by rw [show (s.setVm T77.vm).vm = T77.vm from rfl, hSi77.1.alike.findClass]; exact hown
  have X77 : Stand p l e _ (s.setVm T77.vm) m _ below meth c T77 _ _ _ := X77
  have kz_77 : T77.heap.size ≤ T77.heap.size := Nat.le_refl _
  refine own_st (V := T77.setTop (mkF m 114 #[.val (.int y), .val (.int v1), .val (.int v2), .val (.int v3), .val (.int v4), .val (.int v5), .val (.int v6), .val (.int v7)] [(.ref d77)])) (fun t k => st77.trans k) ?_
  have hsg := own_sg y.toInt
  rcases (by omega : v7.toInt = 0 ∨ (1 ≤ v7.toInt ∧ v7.toInt ≤ 6) ∨ (7 ≤ v7.toInt ∧ v7.toInt ≤ 8) ∨ v7.toInt = 9 ∨ (10 ≤ v7.toInt ∧ v7.toInt ≤ 11) ∨ (12 ≤ v7.toInt ∧ v7.toInt ≤ 35)) with hc1 | hc1 | hc1 | hc1 | hc1 | hc1
  · refine own_st (V := T77.setTop (mkF m 116 #[.val (.int y), .val (.int v1), .val (.int v2), .val (.int v3), .val (.int v4), .val (.int v5), .val (.int v6), .val (.int v7)] [(.int v7), (.ref d77)])) (fun t k => XS.iload X77.here hx rfl (hb hby own_d1_114) rfl k) ?_
    refine own_st (V := T77.setTop (mkF m 117 #[.val (.int y), .val (.int v1), .val (.int v2), .val (.int v3), .val (.int v4), .val (.int v5), .val (.int v6), .val (.int v7)] [(.long (v7.toInt64)), (.ref d77)])) (fun t k => XS.i2l X77.here hx rfl (hb hby own_d1_116) rfl k) ?_
    obtain ⟨cq78, kq78, q78a, q78b, q78c⟩ := isOf hZ_77 rfl Ex77_q
    obtain ⟨_, _, ⟨T78, L78, k78, n78⟩, -, X78, ⟨Lc78, hQ78, l78, y78, z78⟩, st78⟩ := X77.virtualBack hx (y := (⟨"java/time/LocalDate", "plusDays", "(J)Ljava/time/LocalDate;"⟩ : MethodName)) (z := (⟨"java/time/LocalDate", "plusDays", "(J)Ljava/time/LocalDate;"⟩ : MethodName)) hown_77 (mvT hZ_77 (hw _ (List.mem_of_getElem? (i := 96) rfl))) (mvT hZ_77 (hw _ (List.mem_of_getElem? (i := 97) rfl))) (notFace_of_selects (args := #[]) (mvT hZ_77 (hw _ (List.mem_of_getElem? (i := 99) rfl)))) (mvT hZ_77 (hw _ (List.mem_of_getElem? (i := 99) rfl))) (mvT hZ_77 (hw _ (List.mem_of_getElem? (i := 98) rfl))) (by decide) (backOf (W := 0) (own_pd3A l Z a0 hw [] d77 y (22 : Int32) (v7.toInt64) (22 + v7.toInt) T77.heap n0 Z0_77 Ex77_q Fq77_0 Fq77_1 Fq77_2 (by rw [c_i2l]; exact hc1) (by rw [hc1]; decide)) hZ_77 (hw _ (List.mem_of_getElem? (i := 100) rfl)) (hw _ (List.mem_of_getElem? (i := 10) rfl)) (by decide) (by decide)) q78a q78c (g := (mkF m 117 #[.val (.int y), .val (.int v1), .val (.int v2), .val (.int v3), .val (.int v4), .val (.int v5), .val (.int v6), .val (.int v7)] [(.long (v7.toInt64)), (.ref d77)])) rfl (by rw [hml]; rfl) (Steps.refl _) (argsL := [(.long (v7.toInt64))]) (rest := []) (lenOf own_pd9 rfl) rfl (by show 2 * 0 + _ ≤ _; exact Nat.le_of_eq rfl) (hb hby own_d1_117) (fun _ _ => ⟨rfl, rfl, (by decide : 3 + 0 ≤ _), (by decide : 27 + 0 ≤ _)⟩)
    dsimp only [Pt.U, Pt.locs, Pt.cells, Pt.slots] at X78 l78 y78 z78 st78 hQ78
    subst l78 y78 z78
    obtain ⟨d78, r78, rfl, N78q, K78, Ex78_q, Fq78_0, Fq78_1, Fq78_2, hr78⟩ := hQ78
    have N78 := Fr.app N77 N78q
    have Z0_78 : n0 ≤ T78.heap.size := Nat.le_trans Z0_77 K78.1
    have Kc78 := Kc77.trans K78 all0
    have F78_d77_year := Fq77_0.keep K78 nin0
    have F78_d77_month := Fq77_1.keep K78 nin0
    have F78_d77_day := Fq77_2.keep K78 nin0
    have Ex78_d77 := Ex77_q.keep K78
    have Od78 := Od77.keep K78 all0
    have kz_78 : T77.heap.size ≤ T78.heap.size := Nat.le_trans kz_77 K78.1
    refine own_st (V := T78.setTop (mkF m 120 #[.val (.int y), .val (.int v1), .val (.int v2), .val (.int v3), .val (.int v4), .val (.int v5), .val (.int v6), .val (.int v7)] [(.ref d78)])) (fun t k => st78.trans k) ?_
    refine own_st (V := T78.setTop (mkF m 123 #[.val (.int y), .val (.int v1), .val (.int v2), .val (.int v3), .val (.int v4), .val (.int v5), .val (.int v6), .val (.int v7)] [(.long (2 : Int64)), (.ref d78)])) (fun t k => X78.ldc2Long hx hown_77 (mvT hZ_77 (hw _ (List.mem_of_getElem? (i := 108) rfl))) (g := (mkF m 120 #[.val (.int y), .val (.int v1), .val (.int v2), .val (.int v3), .val (.int v4), .val (.int v5), .val (.int v6), .val (.int v7)] [(.ref d78)])) rfl (hb hby own_d1_120) t k) ?_
    obtain ⟨cq79, kq79, q79a, q79b, q79c⟩ := isOf hZ_77 rfl Ex78_q
    obtain ⟨_, _, ⟨T79, L79, k79, n79⟩, -, X79, ⟨Lc79, hQ79, l79, y79, z79⟩, st79⟩ := X78.virtualBack hx (y := (⟨"java/time/LocalDate", "minusDays", "(J)Ljava/time/LocalDate;"⟩ : MethodName)) (z := (⟨"java/time/LocalDate", "minusDays", "(J)Ljava/time/LocalDate;"⟩ : MethodName)) hown_77 (mvT hZ_77 (hw _ (List.mem_of_getElem? (i := 109) rfl))) (mvT hZ_77 (hw _ (List.mem_of_getElem? (i := 110) rfl))) (notFace_of_selects (args := #[]) (mvT hZ_77 (hw _ (List.mem_of_getElem? (i := 112) rfl)))) (mvT hZ_77 (hw _ (List.mem_of_getElem? (i := 112) rfl))) (mvT hZ_77 (hw _ (List.mem_of_getElem? (i := 111) rfl))) (by decide) (backOf (W := 0) (own_md3B l Z a0 hw [] d78 y r78 (r78.toInt - 2) T78.heap n0 Z0_78 Ex78_q Fq78_0 Fq78_1 Fq78_2 (own_m2 r78 (by omega) (by omega)) (by omega) (by omega)) hZ_77 (hw _ (List.mem_of_getElem? (i := 113) rfl)) (hw _ (List.mem_of_getElem? (i := 10) rfl)) (by decide) (by decide)) q79a q79c (g := (mkF m 123 #[.val (.int y), .val (.int v1), .val (.int v2), .val (.int v3), .val (.int v4), .val (.int v5), .val (.int v6), .val (.int v7)] [(.long (2 : Int64)), (.ref d78)])) rfl (by rw [hml]; rfl) (Steps.refl _) (argsL := [(.long (2 : Int64))]) (rest := []) (lenOf own_pd9 rfl) rfl (by show 2 * 0 + _ ≤ _; exact Nat.le_of_eq rfl) (hb hby own_d1_123) (fun _ _ => ⟨rfl, rfl, (by decide : 3 + 1 ≤ _), (by decide : 27 + 3 ≤ _)⟩)
    dsimp only [Pt.U, Pt.locs, Pt.cells, Pt.slots] at X79 l79 y79 z79 st79 hQ79
    subst l79 y79 z79
    obtain ⟨d79, r79, rfl, N79q, K79, Ex79_q, Fq79_0, Fq79_1, Fq79_2, hr79⟩ := hQ79
    have N79 := Fr.app N78 N79q
    have Z0_79 : n0 ≤ T79.heap.size := Nat.le_trans Z0_78 K79.1
    have Kc79 := Kc78.trans K79 all0
    have F79_d77_year := F78_d77_year.keep K79 nin0
    have F79_d77_month := F78_d77_month.keep K79 nin0
    have F79_d77_day := F78_d77_day.keep K79 nin0
    have F79_d78_year := Fq78_0.keep K79 nin0
    have F79_d78_month := Fq78_1.keep K79 nin0
    have F79_d78_day := Fq78_2.keep K79 nin0
    have Ex79_d77 := Ex78_d77.keep K79
    have Ex79_d78 := Ex78_q.keep K79
    have Od79 := Od78.keep K79 all0
    have kz_79 : T77.heap.size ≤ T79.heap.size := Nat.le_trans kz_78 K79.1
    refine own_st (V := T79.setTop (mkF m 126 #[.val (.int y), .val (.int v1), .val (.int v2), .val (.int v3), .val (.int v4), .val (.int v5), .val (.int v6), .val (.int v7)] [(.ref d79)])) (fun t k => st79.trans k) ?_
    exact own_retW (s := s) hSi77 kz_79 X79 hx hlk Bd.returns rfl (Or.inr (Or.inr (Or.inr (Or.inr ⟨rfl, rfl, rfl⟩)))) (hb hby own_d1_126) (by decide) (by decide) (by show Q_own_gf Z y cy ry cd rd ce re mm iso h0 n0 _ T79.heap _; exact ⟨_, _, _, rfl, N79, Kc79, Ex79_q, Fq79_0, Fq79_1, Fq79_2, (fun hq => ⟨rfl, by omega⟩), (fun hq => absurd hq (by omega))⟩)
  · refine own_st (V := T77.setTop (mkF m 116 #[.val (.int y), .val (.int v1), .val (.int v2), .val (.int v3), .val (.int v4), .val (.int v5), .val (.int v6), .val (.int v7)] [(.int v7), (.ref d77)])) (fun t k => XS.iload X77.here hx rfl (hb hby own_d1_114) rfl k) ?_
    refine own_st (V := T77.setTop (mkF m 117 #[.val (.int y), .val (.int v1), .val (.int v2), .val (.int v3), .val (.int v4), .val (.int v5), .val (.int v6), .val (.int v7)] [(.long (v7.toInt64)), (.ref d77)])) (fun t k => XS.i2l X77.here hx rfl (hb hby own_d1_116) rfl k) ?_
    obtain ⟨cq80, kq80, q80a, q80b, q80c⟩ := isOf hZ_77 rfl Ex77_q
    obtain ⟨_, _, ⟨T80, L80, k80, n80⟩, -, X80, ⟨Lc80, hQ80, l80, y80, z80⟩, st80⟩ := X77.virtualBack hx (y := (⟨"java/time/LocalDate", "plusDays", "(J)Ljava/time/LocalDate;"⟩ : MethodName)) (z := (⟨"java/time/LocalDate", "plusDays", "(J)Ljava/time/LocalDate;"⟩ : MethodName)) hown_77 (mvT hZ_77 (hw _ (List.mem_of_getElem? (i := 96) rfl))) (mvT hZ_77 (hw _ (List.mem_of_getElem? (i := 97) rfl))) (notFace_of_selects (args := #[]) (mvT hZ_77 (hw _ (List.mem_of_getElem? (i := 99) rfl)))) (mvT hZ_77 (hw _ (List.mem_of_getElem? (i := 99) rfl))) (mvT hZ_77 (hw _ (List.mem_of_getElem? (i := 98) rfl))) (by decide) (backOf (W := 0) (own_pd3B l Z a0 hw [] d77 y (22 : Int32) (v7.toInt64) (22 + v7.toInt) T77.heap n0 Z0_77 Ex77_q Fq77_0 Fq77_1 Fq77_2 (by rw [c_i2l]; omega) (own_p22 v7 (by omega) (by omega)) (by omega) (by omega)) hZ_77 (hw _ (List.mem_of_getElem? (i := 100) rfl)) (hw _ (List.mem_of_getElem? (i := 10) rfl)) (by decide) (by decide)) q80a q80c (g := (mkF m 117 #[.val (.int y), .val (.int v1), .val (.int v2), .val (.int v3), .val (.int v4), .val (.int v5), .val (.int v6), .val (.int v7)] [(.long (v7.toInt64)), (.ref d77)])) rfl (by rw [hml]; rfl) (Steps.refl _) (argsL := [(.long (v7.toInt64))]) (rest := []) (lenOf own_pd9 rfl) rfl (by show 2 * 0 + _ ≤ _; exact Nat.le_of_eq rfl) (hb hby own_d1_117) (fun _ _ => ⟨rfl, rfl, (by decide : 3 + 1 ≤ _), (by decide : 27 + 3 ≤ _)⟩)
    dsimp only [Pt.U, Pt.locs, Pt.cells, Pt.slots] at X80 l80 y80 z80 st80 hQ80
    subst l80 y80 z80
    obtain ⟨d80, r80, rfl, N80q, K80, Ex80_q, Fq80_0, Fq80_1, Fq80_2, hr80⟩ := hQ80
    have N80 := Fr.app N77 N80q
    have Z0_80 : n0 ≤ T80.heap.size := Nat.le_trans Z0_77 K80.1
    have Kc80 := Kc77.trans K80 all0
    have F80_d77_year := Fq77_0.keep K80 nin0
    have F80_d77_month := Fq77_1.keep K80 nin0
    have F80_d77_day := Fq77_2.keep K80 nin0
    have Ex80_d77 := Ex77_q.keep K80
    have Od80 := Od77.keep K80 all0
    have kz_80 : T77.heap.size ≤ T80.heap.size := Nat.le_trans kz_77 K80.1
    refine own_st (V := T80.setTop (mkF m 120 #[.val (.int y), .val (.int v1), .val (.int v2), .val (.int v3), .val (.int v4), .val (.int v5), .val (.int v6), .val (.int v7)] [(.ref d80)])) (fun t k => st80.trans k) ?_
    refine own_st (V := T80.setTop (mkF m 123 #[.val (.int y), .val (.int v1), .val (.int v2), .val (.int v3), .val (.int v4), .val (.int v5), .val (.int v6), .val (.int v7)] [(.long (2 : Int64)), (.ref d80)])) (fun t k => X80.ldc2Long hx hown_77 (mvT hZ_77 (hw _ (List.mem_of_getElem? (i := 108) rfl))) (g := (mkF m 120 #[.val (.int y), .val (.int v1), .val (.int v2), .val (.int v3), .val (.int v4), .val (.int v5), .val (.int v6), .val (.int v7)] [(.ref d80)])) rfl (hb hby own_d1_120) t k) ?_
    obtain ⟨cq81, kq81, q81a, q81b, q81c⟩ := isOf hZ_77 rfl Ex80_q
    obtain ⟨_, _, ⟨T81, L81, k81, n81⟩, -, X81, ⟨Lc81, hQ81, l81, y81, z81⟩, st81⟩ := X80.virtualBack hx (y := (⟨"java/time/LocalDate", "minusDays", "(J)Ljava/time/LocalDate;"⟩ : MethodName)) (z := (⟨"java/time/LocalDate", "minusDays", "(J)Ljava/time/LocalDate;"⟩ : MethodName)) hown_77 (mvT hZ_77 (hw _ (List.mem_of_getElem? (i := 109) rfl))) (mvT hZ_77 (hw _ (List.mem_of_getElem? (i := 110) rfl))) (notFace_of_selects (args := #[]) (mvT hZ_77 (hw _ (List.mem_of_getElem? (i := 112) rfl)))) (mvT hZ_77 (hw _ (List.mem_of_getElem? (i := 112) rfl))) (mvT hZ_77 (hw _ (List.mem_of_getElem? (i := 111) rfl))) (by decide) (backOf (W := 0) (own_md3B l Z a0 hw [] d80 y r80 (r80.toInt - 2) T80.heap n0 Z0_80 Ex80_q Fq80_0 Fq80_1 Fq80_2 (own_m2 r80 (by omega) (by omega)) (by omega) (by omega)) hZ_77 (hw _ (List.mem_of_getElem? (i := 113) rfl)) (hw _ (List.mem_of_getElem? (i := 10) rfl)) (by decide) (by decide)) q81a q81c (g := (mkF m 123 #[.val (.int y), .val (.int v1), .val (.int v2), .val (.int v3), .val (.int v4), .val (.int v5), .val (.int v6), .val (.int v7)] [(.long (2 : Int64)), (.ref d80)])) rfl (by rw [hml]; rfl) (Steps.refl _) (argsL := [(.long (2 : Int64))]) (rest := []) (lenOf own_pd9 rfl) rfl (by show 2 * 0 + _ ≤ _; exact Nat.le_of_eq rfl) (hb hby own_d1_123) (fun _ _ => ⟨rfl, rfl, (by decide : 4 + 1 ≤ _), (by decide : 30 + 3 ≤ _)⟩)
    dsimp only [Pt.U, Pt.locs, Pt.cells, Pt.slots] at X81 l81 y81 z81 st81 hQ81
    subst l81 y81 z81
    obtain ⟨d81, r81, rfl, N81q, K81, Ex81_q, Fq81_0, Fq81_1, Fq81_2, hr81⟩ := hQ81
    have N81 := Fr.app N80 N81q
    have Z0_81 : n0 ≤ T81.heap.size := Nat.le_trans Z0_80 K81.1
    have Kc81 := Kc80.trans K81 all0
    have F81_d77_year := F80_d77_year.keep K81 nin0
    have F81_d77_month := F80_d77_month.keep K81 nin0
    have F81_d77_day := F80_d77_day.keep K81 nin0
    have F81_d80_year := Fq80_0.keep K81 nin0
    have F81_d80_month := Fq80_1.keep K81 nin0
    have F81_d80_day := Fq80_2.keep K81 nin0
    have Ex81_d77 := Ex80_d77.keep K81
    have Ex81_d80 := Ex80_q.keep K81
    have Od81 := Od80.keep K81 all0
    have kz_81 : T77.heap.size ≤ T81.heap.size := Nat.le_trans kz_80 K81.1
    refine own_st (V := T81.setTop (mkF m 126 #[.val (.int y), .val (.int v1), .val (.int v2), .val (.int v3), .val (.int v4), .val (.int v5), .val (.int v6), .val (.int v7)] [(.ref d81)])) (fun t k => st81.trans k) ?_
    exact own_retW (s := s) hSi77 kz_81 X81 hx hlk Bd.returns rfl (Or.inr (Or.inr (Or.inr (Or.inr ⟨rfl, rfl, rfl⟩)))) (hb hby own_d1_126) (by decide) (by decide) (by show Q_own_gf Z y cy ry cd rd ce re mm iso h0 n0 _ T81.heap _; exact ⟨_, _, _, rfl, N81, Kc81, Ex81_q, Fq81_0, Fq81_1, Fq81_2, (fun hq => ⟨rfl, by omega⟩), (fun hq => absurd hq (by omega))⟩)
  · refine own_st (V := T77.setTop (mkF m 116 #[.val (.int y), .val (.int v1), .val (.int v2), .val (.int v3), .val (.int v4), .val (.int v5), .val (.int v6), .val (.int v7)] [(.int v7), (.ref d77)])) (fun t k => XS.iload X77.here hx rfl (hb hby own_d1_114) rfl k) ?_
    refine own_st (V := T77.setTop (mkF m 117 #[.val (.int y), .val (.int v1), .val (.int v2), .val (.int v3), .val (.int v4), .val (.int v5), .val (.int v6), .val (.int v7)] [(.long (v7.toInt64)), (.ref d77)])) (fun t k => XS.i2l X77.here hx rfl (hb hby own_d1_116) rfl k) ?_
    obtain ⟨cq82, kq82, q82a, q82b, q82c⟩ := isOf hZ_77 rfl Ex77_q
    obtain ⟨_, _, ⟨T82, L82, k82, n82⟩, -, X82, ⟨Lc82, hQ82, l82, y82, z82⟩, st82⟩ := X77.virtualBack hx (y := (⟨"java/time/LocalDate", "plusDays", "(J)Ljava/time/LocalDate;"⟩ : MethodName)) (z := (⟨"java/time/LocalDate", "plusDays", "(J)Ljava/time/LocalDate;"⟩ : MethodName)) hown_77 (mvT hZ_77 (hw _ (List.mem_of_getElem? (i := 96) rfl))) (mvT hZ_77 (hw _ (List.mem_of_getElem? (i := 97) rfl))) (notFace_of_selects (args := #[]) (mvT hZ_77 (hw _ (List.mem_of_getElem? (i := 99) rfl)))) (mvT hZ_77 (hw _ (List.mem_of_getElem? (i := 99) rfl))) (mvT hZ_77 (hw _ (List.mem_of_getElem? (i := 98) rfl))) (by decide) (backOf (W := 0) (own_pd3C l Z a0 hw [] d77 y (22 : Int32) (v7.toInt64) (22 + v7.toInt) T77.heap n0 Z0_77 Ex77_q Fq77_0 Fq77_1 Fq77_2 (by rw [c_i2l]; omega) (own_p22 v7 (by omega) (by omega)) (by omega) (by omega)) hZ_77 (hw _ (List.mem_of_getElem? (i := 100) rfl)) (hw _ (List.mem_of_getElem? (i := 10) rfl)) (by decide) (by decide)) q82a q82c (g := (mkF m 117 #[.val (.int y), .val (.int v1), .val (.int v2), .val (.int v3), .val (.int v4), .val (.int v5), .val (.int v6), .val (.int v7)] [(.long (v7.toInt64)), (.ref d77)])) rfl (by rw [hml]; rfl) (Steps.refl _) (argsL := [(.long (v7.toInt64))]) (rest := []) (lenOf own_pd9 rfl) rfl (by show 2 * 0 + _ ≤ _; exact Nat.le_of_eq rfl) (hb hby own_d1_117) (fun _ _ => ⟨rfl, rfl, (by decide : 3 + 1 ≤ _), (by decide : 27 + 3 ≤ _)⟩)
    dsimp only [Pt.U, Pt.locs, Pt.cells, Pt.slots] at X82 l82 y82 z82 st82 hQ82
    subst l82 y82 z82
    obtain ⟨d82, r82, rfl, N82q, K82, Ex82_q, Fq82_0, Fq82_1, Fq82_2, hr82⟩ := hQ82
    have N82 := Fr.app N77 N82q
    have Z0_82 : n0 ≤ T82.heap.size := Nat.le_trans Z0_77 K82.1
    have Kc82 := Kc77.trans K82 all0
    have F82_d77_year := Fq77_0.keep K82 nin0
    have F82_d77_month := Fq77_1.keep K82 nin0
    have F82_d77_day := Fq77_2.keep K82 nin0
    have Ex82_d77 := Ex77_q.keep K82
    have Od82 := Od77.keep K82 all0
    have kz_82 : T77.heap.size ≤ T82.heap.size := Nat.le_trans kz_77 K82.1
    refine own_st (V := T82.setTop (mkF m 120 #[.val (.int y), .val (.int v1), .val (.int v2), .val (.int v3), .val (.int v4), .val (.int v5), .val (.int v6), .val (.int v7)] [(.ref d82)])) (fun t k => st82.trans k) ?_
    refine own_st (V := T82.setTop (mkF m 123 #[.val (.int y), .val (.int v1), .val (.int v2), .val (.int v3), .val (.int v4), .val (.int v5), .val (.int v6), .val (.int v7)] [(.long (2 : Int64)), (.ref d82)])) (fun t k => X82.ldc2Long hx hown_77 (mvT hZ_77 (hw _ (List.mem_of_getElem? (i := 108) rfl))) (g := (mkF m 120 #[.val (.int y), .val (.int v1), .val (.int v2), .val (.int v3), .val (.int v4), .val (.int v5), .val (.int v6), .val (.int v7)] [(.ref d82)])) rfl (hb hby own_d1_120) t k) ?_
    obtain ⟨cq83, kq83, q83a, q83b, q83c⟩ := isOf hZ_77 rfl Ex82_q
    obtain ⟨_, _, ⟨T83, L83, k83, n83⟩, -, X83, ⟨Lc83, hQ83, l83, y83, z83⟩, st83⟩ := X82.virtualBack hx (y := (⟨"java/time/LocalDate", "minusDays", "(J)Ljava/time/LocalDate;"⟩ : MethodName)) (z := (⟨"java/time/LocalDate", "minusDays", "(J)Ljava/time/LocalDate;"⟩ : MethodName)) hown_77 (mvT hZ_77 (hw _ (List.mem_of_getElem? (i := 109) rfl))) (mvT hZ_77 (hw _ (List.mem_of_getElem? (i := 110) rfl))) (notFace_of_selects (args := #[]) (mvT hZ_77 (hw _ (List.mem_of_getElem? (i := 112) rfl)))) (mvT hZ_77 (hw _ (List.mem_of_getElem? (i := 112) rfl))) (mvT hZ_77 (hw _ (List.mem_of_getElem? (i := 111) rfl))) (by decide) (backOf (W := 0) (own_md3B l Z a0 hw [] d82 y r82 (r82.toInt - 2) T82.heap n0 Z0_82 Ex82_q Fq82_0 Fq82_1 Fq82_2 (own_m2 r82 (by omega) (by omega)) (by omega) (by omega)) hZ_77 (hw _ (List.mem_of_getElem? (i := 113) rfl)) (hw _ (List.mem_of_getElem? (i := 10) rfl)) (by decide) (by decide)) q83a q83c (g := (mkF m 123 #[.val (.int y), .val (.int v1), .val (.int v2), .val (.int v3), .val (.int v4), .val (.int v5), .val (.int v6), .val (.int v7)] [(.long (2 : Int64)), (.ref d82)])) rfl (by rw [hml]; rfl) (Steps.refl _) (argsL := [(.long (2 : Int64))]) (rest := []) (lenOf own_pd9 rfl) rfl (by show 2 * 0 + _ ≤ _; exact Nat.le_of_eq rfl) (hb hby own_d1_123) (fun _ _ => ⟨rfl, rfl, (by decide : 4 + 1 ≤ _), (by decide : 30 + 3 ≤ _)⟩)
    dsimp only [Pt.U, Pt.locs, Pt.cells, Pt.slots] at X83 l83 y83 z83 st83 hQ83
    subst l83 y83 z83
    obtain ⟨d83, r83, rfl, N83q, K83, Ex83_q, Fq83_0, Fq83_1, Fq83_2, hr83⟩ := hQ83
    have N83 := Fr.app N82 N83q
    have Z0_83 : n0 ≤ T83.heap.size := Nat.le_trans Z0_82 K83.1
    have Kc83 := Kc82.trans K83 all0
    have F83_d77_year := F82_d77_year.keep K83 nin0
    have F83_d77_month := F82_d77_month.keep K83 nin0
    have F83_d77_day := F82_d77_day.keep K83 nin0
    have F83_d82_year := Fq82_0.keep K83 nin0
    have F83_d82_month := Fq82_1.keep K83 nin0
    have F83_d82_day := Fq82_2.keep K83 nin0
    have Ex83_d77 := Ex82_d77.keep K83
    have Ex83_d82 := Ex82_q.keep K83
    have Od83 := Od82.keep K83 all0
    have kz_83 : T77.heap.size ≤ T83.heap.size := Nat.le_trans kz_82 K83.1
    refine own_st (V := T83.setTop (mkF m 126 #[.val (.int y), .val (.int v1), .val (.int v2), .val (.int v3), .val (.int v4), .val (.int v5), .val (.int v6), .val (.int v7)] [(.ref d83)])) (fun t k => st83.trans k) ?_
    exact own_retW (s := s) hSi77 kz_83 X83 hx hlk Bd.returns rfl (Or.inr (Or.inr (Or.inr (Or.inr ⟨rfl, rfl, rfl⟩)))) (hb hby own_d1_126) (by decide) (by decide) (by show Q_own_gf Z y cy ry cd rd ce re mm iso h0 n0 _ T83.heap _; exact ⟨_, _, _, rfl, N83, Kc83, Ex83_q, Fq83_0, Fq83_1, Fq83_2, (fun hq => ⟨rfl, by omega⟩), (fun hq => absurd hq (by omega))⟩)
  · refine own_st (V := T77.setTop (mkF m 116 #[.val (.int y), .val (.int v1), .val (.int v2), .val (.int v3), .val (.int v4), .val (.int v5), .val (.int v6), .val (.int v7)] [(.int v7), (.ref d77)])) (fun t k => XS.iload X77.here hx rfl (hb hby own_d1_114) rfl k) ?_
    refine own_st (V := T77.setTop (mkF m 117 #[.val (.int y), .val (.int v1), .val (.int v2), .val (.int v3), .val (.int v4), .val (.int v5), .val (.int v6), .val (.int v7)] [(.long (v7.toInt64)), (.ref d77)])) (fun t k => XS.i2l X77.here hx rfl (hb hby own_d1_116) rfl k) ?_
    obtain ⟨cq84, kq84, q84a, q84b, q84c⟩ := isOf hZ_77 rfl Ex77_q
    obtain ⟨_, _, ⟨T84, L84, k84, n84⟩, -, X84, ⟨Lc84, hQ84, l84, y84, z84⟩, st84⟩ := X77.virtualBack hx (y := (⟨"java/time/LocalDate", "plusDays", "(J)Ljava/time/LocalDate;"⟩ : MethodName)) (z := (⟨"java/time/LocalDate", "plusDays", "(J)Ljava/time/LocalDate;"⟩ : MethodName)) hown_77 (mvT hZ_77 (hw _ (List.mem_of_getElem? (i := 96) rfl))) (mvT hZ_77 (hw _ (List.mem_of_getElem? (i := 97) rfl))) (notFace_of_selects (args := #[]) (mvT hZ_77 (hw _ (List.mem_of_getElem? (i := 99) rfl)))) (mvT hZ_77 (hw _ (List.mem_of_getElem? (i := 99) rfl))) (mvT hZ_77 (hw _ (List.mem_of_getElem? (i := 98) rfl))) (by decide) (backOf (W := 0) (own_pd3C l Z a0 hw [] d77 y (22 : Int32) (v7.toInt64) (22 + v7.toInt) T77.heap n0 Z0_77 Ex77_q Fq77_0 Fq77_1 Fq77_2 (by rw [c_i2l]; omega) (own_p22 v7 (by omega) (by omega)) (by omega) (by omega)) hZ_77 (hw _ (List.mem_of_getElem? (i := 100) rfl)) (hw _ (List.mem_of_getElem? (i := 10) rfl)) (by decide) (by decide)) q84a q84c (g := (mkF m 117 #[.val (.int y), .val (.int v1), .val (.int v2), .val (.int v3), .val (.int v4), .val (.int v5), .val (.int v6), .val (.int v7)] [(.long (v7.toInt64)), (.ref d77)])) rfl (by rw [hml]; rfl) (Steps.refl _) (argsL := [(.long (v7.toInt64))]) (rest := []) (lenOf own_pd9 rfl) rfl (by show 2 * 0 + _ ≤ _; exact Nat.le_of_eq rfl) (hb hby own_d1_117) (fun _ _ => ⟨rfl, rfl, (by decide : 3 + 1 ≤ _), (by decide : 27 + 3 ≤ _)⟩)
    dsimp only [Pt.U, Pt.locs, Pt.cells, Pt.slots] at X84 l84 y84 z84 st84 hQ84
    subst l84 y84 z84
    obtain ⟨d84, r84, rfl, N84q, K84, Ex84_q, Fq84_0, Fq84_1, Fq84_2, hr84⟩ := hQ84
    have N84 := Fr.app N77 N84q
    have Z0_84 : n0 ≤ T84.heap.size := Nat.le_trans Z0_77 K84.1
    have Kc84 := Kc77.trans K84 all0
    have F84_d77_year := Fq77_0.keep K84 nin0
    have F84_d77_month := Fq77_1.keep K84 nin0
    have F84_d77_day := Fq77_2.keep K84 nin0
    have Ex84_d77 := Ex77_q.keep K84
    have Od84 := Od77.keep K84 all0
    have kz_84 : T77.heap.size ≤ T84.heap.size := Nat.le_trans kz_77 K84.1
    refine own_st (V := T84.setTop (mkF m 120 #[.val (.int y), .val (.int v1), .val (.int v2), .val (.int v3), .val (.int v4), .val (.int v5), .val (.int v6), .val (.int v7)] [(.ref d84)])) (fun t k => st84.trans k) ?_
    refine own_st (V := T84.setTop (mkF m 123 #[.val (.int y), .val (.int v1), .val (.int v2), .val (.int v3), .val (.int v4), .val (.int v5), .val (.int v6), .val (.int v7)] [(.long (2 : Int64)), (.ref d84)])) (fun t k => X84.ldc2Long hx hown_77 (mvT hZ_77 (hw _ (List.mem_of_getElem? (i := 108) rfl))) (g := (mkF m 120 #[.val (.int y), .val (.int v1), .val (.int v2), .val (.int v3), .val (.int v4), .val (.int v5), .val (.int v6), .val (.int v7)] [(.ref d84)])) rfl (hb hby own_d1_120) t k) ?_
    obtain ⟨cq85, kq85, q85a, q85b, q85c⟩ := isOf hZ_77 rfl Ex84_q
    obtain ⟨_, _, ⟨T85, L85, k85, n85⟩, -, X85, ⟨Lc85, hQ85, l85, y85, z85⟩, st85⟩ := X84.virtualBack hx (y := (⟨"java/time/LocalDate", "minusDays", "(J)Ljava/time/LocalDate;"⟩ : MethodName)) (z := (⟨"java/time/LocalDate", "minusDays", "(J)Ljava/time/LocalDate;"⟩ : MethodName)) hown_77 (mvT hZ_77 (hw _ (List.mem_of_getElem? (i := 109) rfl))) (mvT hZ_77 (hw _ (List.mem_of_getElem? (i := 110) rfl))) (notFace_of_selects (args := #[]) (mvT hZ_77 (hw _ (List.mem_of_getElem? (i := 112) rfl)))) (mvT hZ_77 (hw _ (List.mem_of_getElem? (i := 112) rfl))) (mvT hZ_77 (hw _ (List.mem_of_getElem? (i := 111) rfl))) (by decide) (backOf (W := 0) (own_md3C l Z a0 hw [] d84 y r84 (r84.toInt - 2) T84.heap n0 Z0_84 Ex84_q Fq84_0 Fq84_1 Fq84_2 (own_m2 r84 (by omega) (by omega)) (by omega) (by omega)) hZ_77 (hw _ (List.mem_of_getElem? (i := 113) rfl)) (hw _ (List.mem_of_getElem? (i := 10) rfl)) (by decide) (by decide)) q85a q85c (g := (mkF m 123 #[.val (.int y), .val (.int v1), .val (.int v2), .val (.int v3), .val (.int v4), .val (.int v5), .val (.int v6), .val (.int v7)] [(.long (2 : Int64)), (.ref d84)])) rfl (by rw [hml]; rfl) (Steps.refl _) (argsL := [(.long (2 : Int64))]) (rest := []) (lenOf own_pd9 rfl) rfl (by show 2 * 0 + _ ≤ _; exact Nat.le_of_eq rfl) (hb hby own_d1_123) (fun _ _ => ⟨rfl, rfl, (by decide : 4 + 1 ≤ _), (by decide : 30 + 3 ≤ _)⟩)
    dsimp only [Pt.U, Pt.locs, Pt.cells, Pt.slots] at X85 l85 y85 z85 st85 hQ85
    subst l85 y85 z85
    obtain ⟨d85, r85, rfl, N85q, K85, Ex85_q, Fq85_0, Fq85_1, Fq85_2, hr85⟩ := hQ85
    have N85 := Fr.app N84 N85q
    have Z0_85 : n0 ≤ T85.heap.size := Nat.le_trans Z0_84 K85.1
    have Kc85 := Kc84.trans K85 all0
    have F85_d77_year := F84_d77_year.keep K85 nin0
    have F85_d77_month := F84_d77_month.keep K85 nin0
    have F85_d77_day := F84_d77_day.keep K85 nin0
    have F85_d84_year := Fq84_0.keep K85 nin0
    have F85_d84_month := Fq84_1.keep K85 nin0
    have F85_d84_day := Fq84_2.keep K85 nin0
    have Ex85_d77 := Ex84_d77.keep K85
    have Ex85_d84 := Ex84_q.keep K85
    have Od85 := Od84.keep K85 all0
    have kz_85 : T77.heap.size ≤ T85.heap.size := Nat.le_trans kz_84 K85.1
    refine own_st (V := T85.setTop (mkF m 126 #[.val (.int y), .val (.int v1), .val (.int v2), .val (.int v3), .val (.int v4), .val (.int v5), .val (.int v6), .val (.int v7)] [(.ref d85)])) (fun t k => st85.trans k) ?_
    exact own_retW (s := s) hSi77 kz_85 X85 hx hlk Bd.returns rfl (Or.inr (Or.inr (Or.inr (Or.inr ⟨rfl, rfl, rfl⟩)))) (hb hby own_d1_126) (by decide) (by decide) (by show Q_own_gf Z y cy ry cd rd ce re mm iso h0 n0 _ T85.heap _; exact ⟨_, _, _, rfl, N85, Kc85, Ex85_q, Fq85_0, Fq85_1, Fq85_2, (fun hq => ⟨rfl, by omega⟩), (fun hq => absurd hq (by omega))⟩)
  · refine own_st (V := T77.setTop (mkF m 116 #[.val (.int y), .val (.int v1), .val (.int v2), .val (.int v3), .val (.int v4), .val (.int v5), .val (.int v6), .val (.int v7)] [(.int v7), (.ref d77)])) (fun t k => XS.iload X77.here hx rfl (hb hby own_d1_114) rfl k) ?_
    refine own_st (V := T77.setTop (mkF m 117 #[.val (.int y), .val (.int v1), .val (.int v2), .val (.int v3), .val (.int v4), .val (.int v5), .val (.int v6), .val (.int v7)] [(.long (v7.toInt64)), (.ref d77)])) (fun t k => XS.i2l X77.here hx rfl (hb hby own_d1_116) rfl k) ?_
    obtain ⟨cq86, kq86, q86a, q86b, q86c⟩ := isOf hZ_77 rfl Ex77_q
    obtain ⟨_, _, ⟨T86, L86, k86, n86⟩, -, X86, ⟨Lc86, hQ86, l86, y86, z86⟩, st86⟩ := X77.virtualBack hx (y := (⟨"java/time/LocalDate", "plusDays", "(J)Ljava/time/LocalDate;"⟩ : MethodName)) (z := (⟨"java/time/LocalDate", "plusDays", "(J)Ljava/time/LocalDate;"⟩ : MethodName)) hown_77 (mvT hZ_77 (hw _ (List.mem_of_getElem? (i := 96) rfl))) (mvT hZ_77 (hw _ (List.mem_of_getElem? (i := 97) rfl))) (notFace_of_selects (args := #[]) (mvT hZ_77 (hw _ (List.mem_of_getElem? (i := 99) rfl)))) (mvT hZ_77 (hw _ (List.mem_of_getElem? (i := 99) rfl))) (mvT hZ_77 (hw _ (List.mem_of_getElem? (i := 98) rfl))) (by decide) (backOf (W := 0) (own_pd3D l Z a0 hw [] d77 y (22 : Int32) (v7.toInt64) (22 + v7.toInt) T77.heap n0 Z0_77 Ex77_q Fq77_0 Fq77_1 Fq77_2 (by rw [c_i2l]; omega) (own_p22 v7 (by omega) (by omega)) (by omega) (by omega)) hZ_77 (hw _ (List.mem_of_getElem? (i := 100) rfl)) (hw _ (List.mem_of_getElem? (i := 10) rfl)) (by decide) (by decide)) q86a q86c (g := (mkF m 117 #[.val (.int y), .val (.int v1), .val (.int v2), .val (.int v3), .val (.int v4), .val (.int v5), .val (.int v6), .val (.int v7)] [(.long (v7.toInt64)), (.ref d77)])) rfl (by rw [hml]; rfl) (Steps.refl _) (argsL := [(.long (v7.toInt64))]) (rest := []) (lenOf own_pd9 rfl) rfl (by show 2 * 0 + _ ≤ _; exact Nat.le_of_eq rfl) (hb hby own_d1_117) (fun _ _ => ⟨rfl, rfl, (by decide : 3 + 1 ≤ _), (by decide : 27 + 3 ≤ _)⟩)
    dsimp only [Pt.U, Pt.locs, Pt.cells, Pt.slots] at X86 l86 y86 z86 st86 hQ86
    subst l86 y86 z86
    obtain ⟨d86, r86, rfl, N86q, K86, Ex86_q, Fq86_0, Fq86_1, Fq86_2, hr86⟩ := hQ86
    have N86 := Fr.app N77 N86q
    have Z0_86 : n0 ≤ T86.heap.size := Nat.le_trans Z0_77 K86.1
    have Kc86 := Kc77.trans K86 all0
    have F86_d77_year := Fq77_0.keep K86 nin0
    have F86_d77_month := Fq77_1.keep K86 nin0
    have F86_d77_day := Fq77_2.keep K86 nin0
    have Ex86_d77 := Ex77_q.keep K86
    have Od86 := Od77.keep K86 all0
    have kz_86 : T77.heap.size ≤ T86.heap.size := Nat.le_trans kz_77 K86.1
    refine own_st (V := T86.setTop (mkF m 120 #[.val (.int y), .val (.int v1), .val (.int v2), .val (.int v3), .val (.int v4), .val (.int v5), .val (.int v6), .val (.int v7)] [(.ref d86)])) (fun t k => st86.trans k) ?_
    refine own_st (V := T86.setTop (mkF m 123 #[.val (.int y), .val (.int v1), .val (.int v2), .val (.int v3), .val (.int v4), .val (.int v5), .val (.int v6), .val (.int v7)] [(.long (2 : Int64)), (.ref d86)])) (fun t k => X86.ldc2Long hx hown_77 (mvT hZ_77 (hw _ (List.mem_of_getElem? (i := 108) rfl))) (g := (mkF m 120 #[.val (.int y), .val (.int v1), .val (.int v2), .val (.int v3), .val (.int v4), .val (.int v5), .val (.int v6), .val (.int v7)] [(.ref d86)])) rfl (hb hby own_d1_120) t k) ?_
    obtain ⟨cq87, kq87, q87a, q87b, q87c⟩ := isOf hZ_77 rfl Ex86_q
    obtain ⟨_, _, ⟨T87, L87, k87, n87⟩, -, X87, ⟨Lc87, hQ87, l87, y87, z87⟩, st87⟩ := X86.virtualBack hx (y := (⟨"java/time/LocalDate", "minusDays", "(J)Ljava/time/LocalDate;"⟩ : MethodName)) (z := (⟨"java/time/LocalDate", "minusDays", "(J)Ljava/time/LocalDate;"⟩ : MethodName)) hown_77 (mvT hZ_77 (hw _ (List.mem_of_getElem? (i := 109) rfl))) (mvT hZ_77 (hw _ (List.mem_of_getElem? (i := 110) rfl))) (notFace_of_selects (args := #[]) (mvT hZ_77 (hw _ (List.mem_of_getElem? (i := 112) rfl)))) (mvT hZ_77 (hw _ (List.mem_of_getElem? (i := 112) rfl))) (mvT hZ_77 (hw _ (List.mem_of_getElem? (i := 111) rfl))) (by decide) (backOf (W := 0) (own_md4E l Z a0 hw [] d86 y r86 cy ry cd rd ce re mm iso T86.heap n0 Z0_86 Od86 Wd Ex86_q Fq86_0 Fq86_1 Fq86_2 hy0 hy1 (by omega) (by omega)) hZ_77 (hw _ (List.mem_of_getElem? (i := 113) rfl)) (hw _ (List.mem_of_getElem? (i := 10) rfl)) (by decide) (by decide)) q87a q87c (g := (mkF m 123 #[.val (.int y), .val (.int v1), .val (.int v2), .val (.int v3), .val (.int v4), .val (.int v5), .val (.int v6), .val (.int v7)] [(.long (2 : Int64)), (.ref d86)])) rfl (by rw [hml]; rfl) (Steps.refl _) (argsL := [(.long (2 : Int64))]) (rest := []) (lenOf own_pd9 rfl) rfl (by show 2 * 0 + _ ≤ _; exact Nat.le_of_eq rfl) (hb hby own_d1_123) (fun _ _ => ⟨rfl, rfl, (by decide : 4 + 1 ≤ _), (by decide : 30 + 3 ≤ _)⟩)
    dsimp only [Pt.U, Pt.locs, Pt.cells, Pt.slots] at X87 l87 y87 z87 st87 hQ87
    subst l87 y87 z87
    obtain ⟨d87, r87, rfl, N87q, K87, Ex87_q, Fq87_0, Fq87_1, Fq87_2, hr87⟩ := hQ87
    have N87 := Fr.app N86 N87q
    have Z0_87 : n0 ≤ T87.heap.size := Nat.le_trans Z0_86 K87.1
    have Kc87 := Kc86.trans K87 all0
    have F87_d77_year := F86_d77_year.keep K87 nin0
    have F87_d77_month := F86_d77_month.keep K87 nin0
    have F87_d77_day := F86_d77_day.keep K87 nin0
    have F87_d86_year := Fq86_0.keep K87 nin0
    have F87_d86_month := Fq86_1.keep K87 nin0
    have F87_d86_day := Fq86_2.keep K87 nin0
    have Ex87_d77 := Ex86_d77.keep K87
    have Ex87_d86 := Ex86_q.keep K87
    have Od87 := Od86.keep K87 all0
    have kz_87 : T77.heap.size ≤ T87.heap.size := Nat.le_trans kz_86 K87.1
    refine own_st (V := T87.setTop (mkF m 126 #[.val (.int y), .val (.int v1), .val (.int v2), .val (.int v3), .val (.int v4), .val (.int v5), .val (.int v6), .val (.int v7)] [(.ref d87)])) (fun t k => st87.trans k) ?_
    exact own_retW (s := s) hSi77 kz_87 X87 hx hlk Bd.returns rfl (Or.inr (Or.inr (Or.inr (Or.inr ⟨rfl, rfl, rfl⟩)))) (hb hby own_d1_126) (by decide) (by decide) (by show Q_own_gf Z y cy ry cd rd ce re mm iso h0 n0 _ T87.heap _; exact ⟨_, _, _, rfl, N87, Kc87, Ex87_q, Fq87_0, Fq87_1, Fq87_2, (fun hq => ⟨rfl, by omega⟩), (fun hq => absurd hq (by omega))⟩)
  · refine own_st (V := T77.setTop (mkF m 116 #[.val (.int y), .val (.int v1), .val (.int v2), .val (.int v3), .val (.int v4), .val (.int v5), .val (.int v6), .val (.int v7)] [(.int v7), (.ref d77)])) (fun t k => XS.iload X77.here hx rfl (hb hby own_d1_114) rfl k) ?_
    refine own_st (V := T77.setTop (mkF m 117 #[.val (.int y), .val (.int v1), .val (.int v2), .val (.int v3), .val (.int v4), .val (.int v5), .val (.int v6), .val (.int v7)] [(.long (v7.toInt64)), (.ref d77)])) (fun t k => XS.i2l X77.here hx rfl (hb hby own_d1_116) rfl k) ?_
    obtain ⟨cq88, kq88, q88a, q88b, q88c⟩ := isOf hZ_77 rfl Ex77_q
    obtain ⟨_, _, ⟨T88, L88, k88, n88⟩, -, X88, ⟨Lc88, hQ88, l88, y88, z88⟩, st88⟩ := X77.virtualBack hx (y := (⟨"java/time/LocalDate", "plusDays", "(J)Ljava/time/LocalDate;"⟩ : MethodName)) (z := (⟨"java/time/LocalDate", "plusDays", "(J)Ljava/time/LocalDate;"⟩ : MethodName)) hown_77 (mvT hZ_77 (hw _ (List.mem_of_getElem? (i := 96) rfl))) (mvT hZ_77 (hw _ (List.mem_of_getElem? (i := 97) rfl))) (notFace_of_selects (args := #[]) (mvT hZ_77 (hw _ (List.mem_of_getElem? (i := 99) rfl)))) (mvT hZ_77 (hw _ (List.mem_of_getElem? (i := 99) rfl))) (mvT hZ_77 (hw _ (List.mem_of_getElem? (i := 98) rfl))) (by decide) (backOf (W := 0) (own_pd3D l Z a0 hw [] d77 y (22 : Int32) (v7.toInt64) (22 + v7.toInt) T77.heap n0 Z0_77 Ex77_q Fq77_0 Fq77_1 Fq77_2 (by rw [c_i2l]; omega) (own_p22 v7 (by omega) (by omega)) (by omega) (by omega)) hZ_77 (hw _ (List.mem_of_getElem? (i := 100) rfl)) (hw _ (List.mem_of_getElem? (i := 10) rfl)) (by decide) (by decide)) q88a q88c (g := (mkF m 117 #[.val (.int y), .val (.int v1), .val (.int v2), .val (.int v3), .val (.int v4), .val (.int v5), .val (.int v6), .val (.int v7)] [(.long (v7.toInt64)), (.ref d77)])) rfl (by rw [hml]; rfl) (Steps.refl _) (argsL := [(.long (v7.toInt64))]) (rest := []) (lenOf own_pd9 rfl) rfl (by show 2 * 0 + _ ≤ _; exact Nat.le_of_eq rfl) (hb hby own_d1_117) (fun _ _ => ⟨rfl, rfl, (by decide : 3 + 1 ≤ _), (by decide : 27 + 3 ≤ _)⟩)
    dsimp only [Pt.U, Pt.locs, Pt.cells, Pt.slots] at X88 l88 y88 z88 st88 hQ88
    subst l88 y88 z88
    obtain ⟨d88, r88, rfl, N88q, K88, Ex88_q, Fq88_0, Fq88_1, Fq88_2, hr88⟩ := hQ88
    have N88 := Fr.app N77 N88q
    have Z0_88 : n0 ≤ T88.heap.size := Nat.le_trans Z0_77 K88.1
    have Kc88 := Kc77.trans K88 all0
    have F88_d77_year := Fq77_0.keep K88 nin0
    have F88_d77_month := Fq77_1.keep K88 nin0
    have F88_d77_day := Fq77_2.keep K88 nin0
    have Ex88_d77 := Ex77_q.keep K88
    have Od88 := Od77.keep K88 all0
    have kz_88 : T77.heap.size ≤ T88.heap.size := Nat.le_trans kz_77 K88.1
    refine own_st (V := T88.setTop (mkF m 120 #[.val (.int y), .val (.int v1), .val (.int v2), .val (.int v3), .val (.int v4), .val (.int v5), .val (.int v6), .val (.int v7)] [(.ref d88)])) (fun t k => st88.trans k) ?_
    refine own_st (V := T88.setTop (mkF m 123 #[.val (.int y), .val (.int v1), .val (.int v2), .val (.int v3), .val (.int v4), .val (.int v5), .val (.int v6), .val (.int v7)] [(.long (2 : Int64)), (.ref d88)])) (fun t k => X88.ldc2Long hx hown_77 (mvT hZ_77 (hw _ (List.mem_of_getElem? (i := 108) rfl))) (g := (mkF m 120 #[.val (.int y), .val (.int v1), .val (.int v2), .val (.int v3), .val (.int v4), .val (.int v5), .val (.int v6), .val (.int v7)] [(.ref d88)])) rfl (hb hby own_d1_120) t k) ?_
    obtain ⟨cq89, kq89, q89a, q89b, q89c⟩ := isOf hZ_77 rfl Ex88_q
    obtain ⟨_, _, ⟨T89, L89, k89, n89⟩, -, X89, ⟨Lc89, hQ89, l89, y89, z89⟩, st89⟩ := X88.virtualBack hx (y := (⟨"java/time/LocalDate", "minusDays", "(J)Ljava/time/LocalDate;"⟩ : MethodName)) (z := (⟨"java/time/LocalDate", "minusDays", "(J)Ljava/time/LocalDate;"⟩ : MethodName)) hown_77 (mvT hZ_77 (hw _ (List.mem_of_getElem? (i := 109) rfl))) (mvT hZ_77 (hw _ (List.mem_of_getElem? (i := 110) rfl))) (notFace_of_selects (args := #[]) (mvT hZ_77 (hw _ (List.mem_of_getElem? (i := 112) rfl)))) (mvT hZ_77 (hw _ (List.mem_of_getElem? (i := 112) rfl))) (mvT hZ_77 (hw _ (List.mem_of_getElem? (i := 111) rfl))) (by decide) (backOf (W := 0) (own_md4B l Z a0 hw [] d88 y r88 (r88.toInt - 2) T88.heap n0 Z0_88 Ex88_q Fq88_0 Fq88_1 Fq88_2 (own_m2 r88 (by omega) (by omega)) (by omega) (by omega)) hZ_77 (hw _ (List.mem_of_getElem? (i := 113) rfl)) (hw _ (List.mem_of_getElem? (i := 10) rfl)) (by decide) (by decide)) q89a q89c (g := (mkF m 123 #[.val (.int y), .val (.int v1), .val (.int v2), .val (.int v3), .val (.int v4), .val (.int v5), .val (.int v6), .val (.int v7)] [(.long (2 : Int64)), (.ref d88)])) rfl (by rw [hml]; rfl) (Steps.refl _) (argsL := [(.long (2 : Int64))]) (rest := []) (lenOf own_pd9 rfl) rfl (by show 2 * 0 + _ ≤ _; exact Nat.le_of_eq rfl) (hb hby own_d1_123) (fun _ _ => ⟨rfl, rfl, (by decide : 4 + 1 ≤ _), (by decide : 30 + 3 ≤ _)⟩)
    dsimp only [Pt.U, Pt.locs, Pt.cells, Pt.slots] at X89 l89 y89 z89 st89 hQ89
    subst l89 y89 z89
    obtain ⟨d89, r89, rfl, N89q, K89, Ex89_q, Fq89_0, Fq89_1, Fq89_2, hr89⟩ := hQ89
    have N89 := Fr.app N88 N89q
    have Z0_89 : n0 ≤ T89.heap.size := Nat.le_trans Z0_88 K89.1
    have Kc89 := Kc88.trans K89 all0
    have F89_d77_year := F88_d77_year.keep K89 nin0
    have F89_d77_month := F88_d77_month.keep K89 nin0
    have F89_d77_day := F88_d77_day.keep K89 nin0
    have F89_d88_year := Fq88_0.keep K89 nin0
    have F89_d88_month := Fq88_1.keep K89 nin0
    have F89_d88_day := Fq88_2.keep K89 nin0
    have Ex89_d77 := Ex88_d77.keep K89
    have Ex89_d88 := Ex88_q.keep K89
    have Od89 := Od88.keep K89 all0
    have kz_89 : T77.heap.size ≤ T89.heap.size := Nat.le_trans kz_88 K89.1
    refine own_st (V := T89.setTop (mkF m 126 #[.val (.int y), .val (.int v1), .val (.int v2), .val (.int v3), .val (.int v4), .val (.int v5), .val (.int v6), .val (.int v7)] [(.ref d89)])) (fun t k => st89.trans k) ?_
    exact own_retW (s := s) hSi77 kz_89 X89 hx hlk Bd.returns rfl (Or.inr (Or.inr (Or.inr (Or.inr ⟨rfl, rfl, rfl⟩)))) (hb hby own_d1_126) (by decide) (by decide) (by show Q_own_gf Z y cy ry cd rd ce re mm iso h0 n0 _ T89.heap _; exact ⟨_, _, _, rfl, N89, Kc89, Ex89_q, Fq89_0, Fq89_1, Fq89_2, (fun hq => absurd hq (by omega)), (fun hq => ⟨rfl, by omega⟩)⟩)
def Q_own_gy (Z : State) (o1 : Addr) (q1 : Int32) (h0 : Heap) (n0 : Nat) (v : Option Value) (h : Heap) (L : List Loc) : Prop := v = some (.int q1) ∧ Fr n0 L ∧ h = h0
theorem own_d18_0 : decode jdk_2323_method_24_code 0 = .ok (.aload_n 0, 1) := by decide +kernel
theorem own_d18_1 : decode jdk_2323_method_24_code 1 = .ok (.getfield 246, 3) := by decide +kernel
theorem own_d18_4 : decode jdk_2323_method_24_code 4 = .ok (.ireturn, 1) := by decide +kernel
set_option maxRecDepth 65536 in
set_option maxHeartbeats 40000000 in
theorem own_gy (l : Launch) (Z : State) (a0 : Array Value) (hw : ∀ d ∈ tables_1, d.before a0 Z = true) (ws : List Jvm.Cond) (o1 : Addr) (q1 : Int32) (h0 : Heap) (n0 : Nat) (Z0 : n0 ≤ h0.size) (F1 : Fld Z h0 o1 "java/time/LocalDate" "year" "I" (.int q1)) :
    MetFree l (⟨"java/time/LocalDate", "getYear", "()I"⟩ : MethodName) (head1 (Jvm.Cond.code (⟨"java/time/LocalDate", "getYear", "()I"⟩ : MethodName) jdk_2323_method_24_code 1 (some .int) :: ws) ({ frames := 0, cells := 0, slots := 0, locals := 0 } : Room)) (fun a U => a = #[(.ref o1)] ∧ Z.Warmed39 U.vm ∧ U.heap = h0) (fun _ _ _ _ _ => True) (fun _ U o U' => ∃ v L, o = .returned v ∧ Q_own_gy Z o1 q1 h0 n0 v U'.heap L ∧ FrameEnd U o U' L ({ frames := 0, cells := 0, slots := 0, locals := 0 } : Room).cells ({ frames := 0, cells := 0, slots := 0, locals := 0 } : Room).slots) := by
  refine MetFree.of_bodySF (plainFor_of_name own_pn_java_time_LocalDate) hisR ?_
  intro p e s m args below meth c s₁ Bd hml0 hP hK
  obtain ⟨rfl, hZ, hh⟩ := hP
  have hx := Bd.exec
  have hby := Bd.bytes
  have hml : c.maxLocals = 1 := hml0
  have hown : s.vm.findClass "java/time/LocalDate" = some m.cls := findClass_of_methodNamed Bd.named
  have hnm := (name_of_methodNamed Bd.named Bd.method).1
  have hlk : meth.locks = false := BodyLoose.notSynchronized Bd
  have X0 : Stand p l e ({ frames := 0, cells := 0, slots := 0, locals := 0 } : Room) s m #[(.ref o1)] below meth c s₁ [] 0 0 := Stand.of_body Bd
  have e0 : s₁.heap = h0 := by rw [← hh, Bd.state]; rfl
  have N0 := Fr.nil n0
  show own_Go p e below #[(.ref o1)] s (fun _ U o U' => ∃ v L, o = .returned v ∧ Q_own_gy Z o1 q1 h0 n0 v U'.heap L ∧ FrameEnd U o U' L ({ frames := 0, cells := 0, slots := 0, locals := 0 } : Room).cells ({ frames := 0, cells := 0, slots := 0, locals := 0 } : Room).slots) (s₁.setTop (entryFrame m #[(.ref o1)] 1))
  refine own_st (V := s₁.setTop (mkF m 0 #[.val (.ref o1)] [])) (fun t k => castTop (by first | (simp [entryFrame, mkF, argsToLocals, Value.category]; done) | rfl) k) ?_
  refine own_st (V := s₁.setTop (mkF m 1 #[.val (.ref o1)] [(.ref o1)])) (fun t k => XS.aloadN X0.here hx rfl (hb hby own_d18_0) rfl rfl k) ?_
  obtain ⟨T90, X90, e90, st90⟩ := getF X0 hx hZ hown (host := "") (Or.inl (hw _ (List.mem_of_getElem? (i := 90) rfl))) Via.refl e0 F1 (g := (mkF m 1 #[.val (.ref o1)] [(.ref o1)])) rfl rfl (hb hby own_d18_1)
  refine own_st (V := T90.setTop (mkF m 4 #[.val (.ref o1)] [(.int q1)])) (fun t k => st90 _ k) ?_
  exact own_ret X90 hx hlk Bd.returns rfl (Or.inl ⟨rfl, by simp, _, rfl⟩) (hb hby own_d18_4) (by decide) (by decide) (by show Q_own_gy Z o1 q1 h0 n0 _ T90.heap _; rw [e90]; exact ⟨rfl, N0, rfl⟩)
def Q_own_gm (Z : State) (o1 : Addr) (q1 : Int32) (h0 : Heap) (n0 : Nat) (v : Option Value) (h : Heap) (L : List Loc) : Prop := v = some (.int q1) ∧ Fr n0 L ∧ h = h0
theorem own_d19_0 : decode jdk_2323_method_25_code 0 = .ok (.aload_n 0, 1) := by decide +kernel
theorem own_d19_1 : decode jdk_2323_method_25_code 1 = .ok (.getfield 250, 3) := by decide +kernel
theorem own_d19_4 : decode jdk_2323_method_25_code 4 = .ok (.ireturn, 1) := by decide +kernel
set_option maxRecDepth 65536 in
set_option maxHeartbeats 40000000 in
theorem own_gm (l : Launch) (Z : State) (a0 : Array Value) (hw : ∀ d ∈ tables_1, d.before a0 Z = true) (ws : List Jvm.Cond) (o1 : Addr) (q1 : Int32) (h0 : Heap) (n0 : Nat) (Z0 : n0 ≤ h0.size) (F1 : Fld Z h0 o1 "java/time/LocalDate" "month" "S" (.int q1)) :
    MetFree l (⟨"java/time/LocalDate", "getMonthValue", "()I"⟩ : MethodName) (head1 (Jvm.Cond.code (⟨"java/time/LocalDate", "getMonthValue", "()I"⟩ : MethodName) jdk_2323_method_25_code 1 (some .int) :: ws) ({ frames := 0, cells := 0, slots := 0, locals := 0 } : Room)) (fun a U => a = #[(.ref o1)] ∧ Z.Warmed39 U.vm ∧ U.heap = h0) (fun _ _ _ _ _ => True) (fun _ U o U' => ∃ v L, o = .returned v ∧ Q_own_gm Z o1 q1 h0 n0 v U'.heap L ∧ FrameEnd U o U' L ({ frames := 0, cells := 0, slots := 0, locals := 0 } : Room).cells ({ frames := 0, cells := 0, slots := 0, locals := 0 } : Room).slots) := by
  refine MetFree.of_bodySF (plainFor_of_name own_pn_java_time_LocalDate) hisR ?_
  intro p e s m args below meth c s₁ Bd hml0 hP hK
  obtain ⟨rfl, hZ, hh⟩ := hP
  have hx := Bd.exec
  have hby := Bd.bytes
  have hml : c.maxLocals = 1 := hml0
  have hown : s.vm.findClass "java/time/LocalDate" = some m.cls := findClass_of_methodNamed Bd.named
  have hnm := (name_of_methodNamed Bd.named Bd.method).1
  have hlk : meth.locks = false := BodyLoose.notSynchronized Bd
  have X0 : Stand p l e ({ frames := 0, cells := 0, slots := 0, locals := 0 } : Room) s m #[(.ref o1)] below meth c s₁ [] 0 0 := Stand.of_body Bd
  have e0 : s₁.heap = h0 := by rw [← hh, Bd.state]; rfl
  have N0 := Fr.nil n0
  show own_Go p e below #[(.ref o1)] s (fun _ U o U' => ∃ v L, o = .returned v ∧ Q_own_gm Z o1 q1 h0 n0 v U'.heap L ∧ FrameEnd U o U' L ({ frames := 0, cells := 0, slots := 0, locals := 0 } : Room).cells ({ frames := 0, cells := 0, slots := 0, locals := 0 } : Room).slots) (s₁.setTop (entryFrame m #[(.ref o1)] 1))
  refine own_st (V := s₁.setTop (mkF m 0 #[.val (.ref o1)] [])) (fun t k => castTop (by first | (simp [entryFrame, mkF, argsToLocals, Value.category]; done) | rfl) k) ?_
  refine own_st (V := s₁.setTop (mkF m 1 #[.val (.ref o1)] [(.ref o1)])) (fun t k => XS.aloadN X0.here hx rfl (hb hby own_d19_0) rfl rfl k) ?_
  obtain ⟨T91, X91, e91, st91⟩ := getF X0 hx hZ hown (host := "") (Or.inl (hw _ (List.mem_of_getElem? (i := 92) rfl))) Via.refl e0 F1 (g := (mkF m 1 #[.val (.ref o1)] [(.ref o1)])) rfl rfl (hb hby own_d19_1)
  refine own_st (V := T91.setTop (mkF m 4 #[.val (.ref o1)] [(.int q1)])) (fun t k => st91 _ k) ?_
  exact own_ret X91 hx hlk Bd.returns rfl (Or.inl ⟨rfl, by simp, _, rfl⟩) (hb hby own_d19_4) (by decide) (by decide) (by show Q_own_gm Z o1 q1 h0 n0 _ T91.heap _; rw [e91]; exact ⟨rfl, N0, rfl⟩)
def Q_own_gd (Z : State) (o1 : Addr) (q1 : Int32) (h0 : Heap) (n0 : Nat) (v : Option Value) (h : Heap) (L : List Loc) : Prop := v = some (.int q1) ∧ Fr n0 L ∧ h = h0
theorem own_d20_0 : decode jdk_2323_method_27_code 0 = .ok (.aload_n 0, 1) := by decide +kernel
theorem own_d20_1 : decode jdk_2323_method_27_code 1 = .ok (.getfield 253, 3) := by decide +kernel
theorem own_d20_4 : decode jdk_2323_method_27_code 4 = .ok (.ireturn, 1) := by decide +kernel
set_option maxRecDepth 65536 in
set_option maxHeartbeats 40000000 in
theorem own_gd (l : Launch) (Z : State) (a0 : Array Value) (hw : ∀ d ∈ tables_1, d.before a0 Z = true) (ws : List Jvm.Cond) (o1 : Addr) (q1 : Int32) (h0 : Heap) (n0 : Nat) (Z0 : n0 ≤ h0.size) (F1 : Fld Z h0 o1 "java/time/LocalDate" "day" "S" (.int q1)) :
    MetFree l (⟨"java/time/LocalDate", "getDayOfMonth", "()I"⟩ : MethodName) (head1 (Jvm.Cond.code (⟨"java/time/LocalDate", "getDayOfMonth", "()I"⟩ : MethodName) jdk_2323_method_27_code 1 (some .int) :: ws) ({ frames := 0, cells := 0, slots := 0, locals := 0 } : Room)) (fun a U => a = #[(.ref o1)] ∧ Z.Warmed39 U.vm ∧ U.heap = h0) (fun _ _ _ _ _ => True) (fun _ U o U' => ∃ v L, o = .returned v ∧ Q_own_gd Z o1 q1 h0 n0 v U'.heap L ∧ FrameEnd U o U' L ({ frames := 0, cells := 0, slots := 0, locals := 0 } : Room).cells ({ frames := 0, cells := 0, slots := 0, locals := 0 } : Room).slots) := by
  refine MetFree.of_bodySF (plainFor_of_name own_pn_java_time_LocalDate) hisR ?_
  intro p e s m args below meth c s₁ Bd hml0 hP hK
  obtain ⟨rfl, hZ, hh⟩ := hP
  have hx := Bd.exec
  have hby := Bd.bytes
  have hml : c.maxLocals = 1 := hml0
  have hown : s.vm.findClass "java/time/LocalDate" = some m.cls := findClass_of_methodNamed Bd.named
  have hnm := (name_of_methodNamed Bd.named Bd.method).1
  have hlk : meth.locks = false := BodyLoose.notSynchronized Bd
  have X0 : Stand p l e ({ frames := 0, cells := 0, slots := 0, locals := 0 } : Room) s m #[(.ref o1)] below meth c s₁ [] 0 0 := Stand.of_body Bd
  have e0 : s₁.heap = h0 := by rw [← hh, Bd.state]; rfl
  have N0 := Fr.nil n0
  show own_Go p e below #[(.ref o1)] s (fun _ U o U' => ∃ v L, o = .returned v ∧ Q_own_gd Z o1 q1 h0 n0 v U'.heap L ∧ FrameEnd U o U' L ({ frames := 0, cells := 0, slots := 0, locals := 0 } : Room).cells ({ frames := 0, cells := 0, slots := 0, locals := 0 } : Room).slots) (s₁.setTop (entryFrame m #[(.ref o1)] 1))
  refine own_st (V := s₁.setTop (mkF m 0 #[.val (.ref o1)] [])) (fun t k => castTop (by first | (simp [entryFrame, mkF, argsToLocals, Value.category]; done) | rfl) k) ?_
  refine own_st (V := s₁.setTop (mkF m 1 #[.val (.ref o1)] [(.ref o1)])) (fun t k => XS.aloadN X0.here hx rfl (hb hby own_d20_0) rfl rfl k) ?_
  obtain ⟨T92, X92, e92, st92⟩ := getF X0 hx hZ hown (host := "") (Or.inl (hw _ (List.mem_of_getElem? (i := 94) rfl))) Via.refl e0 F1 (g := (mkF m 1 #[.val (.ref o1)] [(.ref o1)])) rfl rfl (hb hby own_d20_1)
  refine own_st (V := T92.setTop (mkF m 4 #[.val (.ref o1)] [(.int q1)])) (fun t k => st92 _ k) ?_
  exact own_ret X92 hx hlk Bd.returns rfl (Or.inl ⟨rfl, by simp, _, rfl⟩) (hb hby own_d20_4) (by decide) (by decide) (by show Q_own_gd Z o1 q1 h0 n0 _ T92.heap _; rw [e92]; exact ⟨rfl, N0, rfl⟩)
theorem own_p (b : Int) (h : 0 ≤ b) : (13 + 8 * b) / 25 = (b - (b + 8) / 25 + 1) / 3 := by omega
theorem own_d (Y : Int) (h : 0 ≤ Y) : (19 * (Y % 19) + (15 - (13 + 8 * (Y / 100)) / 25 + Y / 100 - Y / 100 / 4) % 30) % 30 = own_ih Y := by
  show _ = (19 * (Y % 19) + Y / 100 - Y / 100 / 4 - (Y / 100 - (Y / 100 + 8) / 25 + 1) / 3 + 15) % 30
  rw [← own_p (Y / 100) (by omega)]
  generalize (13 + 8 * (Y / 100)) / 25 = P
  generalize Y / 100 / 4 = Q1
  generalize Y / 100 = K
  generalize Y % 19 = A
  omega
theorem own_lf (Y M d e : Int) (hY : 0 ≤ Y) (hM : M = (15 - (13 + 8 * (Y / 100)) / 25 + Y / 100 - Y / 100 / 4) % 30) (hd : d = (19 * (Y % 19) + M) % 30) (he : e = (2 * (Y % 4) + 4 * (Y % 7) + 6 * d + (4 + Y / 100 - Y / 100 / 4) % 7) % 7) :
    ((d = 29 ∧ e = 6) → own_ih Y + own_il Y - 7 * own_im Y = 28) ∧ ((d = 28 ∧ e = 6 ∧ (11 * M + 11) % 30 < 19) → own_ih Y + own_il Y - 7 * own_im Y = 27) ∧ (¬ (d = 29 ∧ e = 6) → ¬ (d = 28 ∧ e = 6 ∧ (11 * M + 11) % 30 < 19) → own_ih Y + own_il Y - 7 * own_im Y = d + e) := by
  have e1 : own_ih Y = d := by rw [hd, hM]; exact (own_d Y hY).symm
  have d0 : 0 ≤ d ∧ d < 30 := by rw [hd]; clear hM he hd; omega
  have e0 : 0 ≤ e ∧ e < 7 := by rw [he]; clear hM he hd e1; omega
  have e6 : e ≤ 6 := by clear hM he hd e1; omega
  have M0 : 0 ≤ M ∧ M < 30 := by rw [hM]; clear hM he hd e1; omega
  have a0 : 0 ≤ Y % 19 ∧ Y % 19 ≤ 18 := by clear hM he hd e1; omega
  have e2 : own_il Y = e := by
    show (32 + 2 * (Y / 100 % 4) + 2 * (Y % 100 / 4) - own_ih Y - Y % 100 % 4) % 7 = e
    rw [e1, he]
    exact (own_e Y d hY d0.1 d0.2).symm
  have e3 : own_im Y = (Y % 19 + 11 * d + 22 * e) / 451 := by
    show (Y % 19 + 11 * own_ih Y + 22 * own_il Y) / 451 = _
    rw [e1, e2]
  have m := own_m (Y % 19) M d e a0.1 a0.2 M0.1 M0.2 hd e0.1 e6
  rw [e1, e2, e3]
  clear hM hd he e1 e2 e3
  generalize (Y % 19 + 11 * d + 22 * e) / 451 = i at m ⊢
  refine ⟨fun q => ?_, fun q => ?_, fun q1 q2 => ?_⟩
  · have t := m.1 q; omega
  · have t := m.2.1 q; omega
  · have t := m.2.2 q1 q2; omega
theorem own_ly (p : Int32) : 1583 ≤ ((1583 : Int32) + ((p &&& (2147483647 : Int32)) % (999998417 : Int32))).toInt ∧ ((1583 : Int32) + ((p &&& (2147483647 : Int32)) % (999998417 : Int32))).toInt ≤ 999999999 := by
  have h := c_mask p 2147483647 31 (by decide) (by decide)
  have q := (c_irem (p &&& (2147483647 : Int32)) (999998417 : Int32) 999998417 (by decide)).1 (by omega)
  have a := c_iadd (1583 : Int32) ((p &&& (2147483647 : Int32)) % (999998417 : Int32))
  have b := rng32 ((1583 : Int32) + ((p &&& (2147483647 : Int32)) % (999998417 : Int32)))
  have e : (1583 : Int32).toInt = 1583 := by decide
  omega
theorem own_lM (p k q : Int32) (K : Int) (hk : k.toInt = K) (hp : p.toInt = (13 + 8 * K) / 25) (hq : q.toInt = K / 4) (h0 : 15 ≤ K) (h1 : K ≤ 9999999) : (((((15 : Int32) - p) + k) - q) % (30 : Int32)).toInt = (15 - (13 + 8 * K) / 25 + K - K / 4) % 30 := by
  have e15 : (15 : Int32).toInt = 15 := by decide
  have a := c_isub (15 : Int32) p
  have a' := rng32 ((15 : Int32) - p)
  have s1 : ((15 : Int32) - p).toInt = 15 - (13 + 8 * K) / 25 := by omega
  clear a a'
  have b := c_iadd ((15 : Int32) - p) k
  have b' := rng32 (((15 : Int32) - p) + k)
  have s2 : (((15 : Int32) - p) + k).toInt = 15 - (13 + 8 * K) / 25 + K := by omega
  clear b b' s1
  have c := c_isub (((15 : Int32) - p) + k) q
  have c' := rng32 ((((15 : Int32) - p) + k) - q)
  have s3 : ((((15 : Int32) - p) + k) - q).toInt = 15 - (13 + 8 * K) / 25 + K - K / 4 := by omega
  clear c c' s2
  have r := (c_irem ((((15 : Int32) - p) + k) - q) (30 : Int32) 30 (by decide)).1 (by omega)
  rw [r, s3]
theorem own_lN (k q : Int32) (K : Int) (hk : k.toInt = K) (hq : q.toInt = K / 4) (h0 : 15 ≤ K) (h1 : K ≤ 9999999) : ((((4 : Int32) + k) - q) % (7 : Int32)).toInt = (4 + K - K / 4) % 7 := by
  have e4 : (4 : Int32).toInt = 4 := by decide
  have b := c_iadd (4 : Int32) k
  have b' := rng32 ((4 : Int32) + k)
  have s2 : ((4 : Int32) + k).toInt = 4 + K := by omega
  clear b b'
  have c := c_isub ((4 : Int32) + k) q
  have c' := rng32 (((4 : Int32) + k) - q)
  have s3 : (((4 : Int32) + k) - q).toInt = 4 + K - K / 4 := by omega
  clear c c' s2
  have r := (c_irem (((4 : Int32) + k) - q) (7 : Int32) 7 (by decide)).1 (by omega)
  rw [r, s3]
theorem own_i11 {s : Int32} (h : (11 : Int32) < s) : 11 < s.toInt := by
  have t := Int32.lt_iff_toInt_lt.mp h
  have e : (11 : Int32).toInt = 11 := by decide
  omega
theorem own_n11 {s : Int32} (h : ¬ ((11 : Int32) < s)) : s.toInt ≤ 11 := by
  have e : (11 : Int32).toInt = 11 := by decide
  rw [Int32.lt_iff_toInt_lt] at h
  omega
theorem own_i19 {s : Int32} (h : s < (19 : Int32)) : s.toInt < 19 := by
  have t := Int32.lt_iff_toInt_lt.mp h
  have e : (19 : Int32).toInt = 19 := by decide
  omega
theorem own_n19 {s : Int32} (h : ¬ (s < (19 : Int32))) : ¬ (s.toInt < 19) := by
  have e : (19 : Int32).toInt = 19 := by decide
  rw [Int32.lt_iff_toInt_lt] at h
  omega
theorem own_ieq {s k : Int32} {K : Int} (e : k.toInt = K) (h : s = k) : s.toInt = K := by rw [h, e]
theorem own_ine {s k : Int32} {K : Int} (e : k.toInt = K) (h : ¬ (s = k)) : ¬ (s.toInt = K) := fun q => h (Int32.toInt_inj.mp (q.trans e.symm))
theorem own_eqL {Z : State} {args : Array Value} {t : Jvm.Term} {k : Int64} (h : (Jvm.Cond.eq t (.long k)).value args Z none Z [] = some true) : t.eval args Z none [] Z = some (.long k) := by
  cases hv : t.eval args Z none [] Z with
  | none => simp [Cond.value, Term.eval, hv] at h
  | some v => cases v <;> simp [Cond.value, Term.eval, hv] at h ⊢ <;> exact h
theorem own_fldL {Z : State} {args : Array Value} {t : Jvm.Term} {C n d : String} {a : Addr} {k : Int64} (ev : t.eval args Z none [] Z = some (.ref a)) (h : (Jvm.Cond.eq (.field t C n d) (.long k)).value args Z none Z [] = some true) : Fld Z Z.heap a C n d (.long k) :=
  Fld.start ((fld_at ev).symm.trans (own_eqL h))
set_option maxRecDepth 65536 in
set_option maxHeartbeats 40000000 in
theorem own_lp (vk : Int32) (h_vk0 : (15 : Int) ≤ vk.toInt) (h_vk1 : vk.toInt ≤ (9999999 : Int)) : ((((13 : Int32) + ((8 : Int32) * vk)) / (25 : Int32))).toInt = (13 + 8 * vk.toInt) / 25 := by
  have h0 : ((13 : Int32)).toInt = (13 : Int) ∧ (13 : Int) ≤ (13 : Int) ∧ (13 : Int) ≤ (13 : Int) := by decide
  have h1 : ((8 : Int32)).toInt = (8 : Int) ∧ (8 : Int) ≤ (8 : Int) ∧ (8 : Int) ≤ (8 : Int) := by decide
  have h2 : (vk).toInt = vk.toInt ∧ (15 : Int) ≤ vk.toInt ∧ vk.toInt ≤ (9999999 : Int) := ⟨rfl, h_vk0, h_vk1⟩
  have h3 : (((8 : Int32) * vk)).toInt = ((8 : Int) * vk.toInt) ∧ (120 : Int) ≤ ((8 : Int) * vk.toInt) ∧ ((8 : Int) * vk.toInt) ≤ (79999992 : Int) := own_imulL (A := 0) h1.1 h2 (by decide) (by decide)
  have h4 : (((13 : Int32) + ((8 : Int32) * vk))).toInt = ((13 : Int) + ((8 : Int) * vk.toInt)) ∧ (133 : Int) ≤ ((13 : Int) + ((8 : Int) * vk.toInt)) ∧ ((13 : Int) + ((8 : Int) * vk.toInt)) ≤ (80000005 : Int) := own_iadd h0 h3 (by decide)
  have h5 : ((25 : Int32)).toInt = (25 : Int) ∧ (25 : Int) ≤ (25 : Int) ∧ (25 : Int) ≤ (25 : Int) := by decide
  have h6 : ((((13 : Int32) + ((8 : Int32) * vk)) / (25 : Int32))).toInt = (((13 : Int) + ((8 : Int) * vk.toInt)) / (25 : Int)) ∧ (5 : Int) ≤ (((13 : Int) + ((8 : Int) * vk.toInt)) / (25 : Int)) ∧ (((13 : Int) + ((8 : Int) * vk.toInt)) / (25 : Int)) ≤ (3200000 : Int) := own_idiv h4 h5.1 (by decide)
  have z := h6.1
  clear h0 h1 h2 h3 h4 h5 h6
  omega
set_option maxRecDepth 65536 in
set_option maxHeartbeats 40000000 in
theorem own_ld (va : Int32) (vM : Int32) (h_va0 : (0 : Int) ≤ va.toInt) (h_va1 : va.toInt ≤ (18 : Int)) (h_vM0 : (0 : Int) ≤ vM.toInt) (h_vM1 : vM.toInt ≤ (29 : Int)) : (((((19 : Int32) * va) + vM) % (30 : Int32))).toInt = (19 * va.toInt + vM.toInt) % 30 := by
  have h0 : ((19 : Int32)).toInt = (19 : Int) ∧ (19 : Int) ≤ (19 : Int) ∧ (19 : Int) ≤ (19 : Int) := by decide
  have h1 : (va).toInt = va.toInt ∧ (0 : Int) ≤ va.toInt ∧ va.toInt ≤ (18 : Int) := ⟨rfl, h_va0, h_va1⟩
  have h2 : (((19 : Int32) * va)).toInt = ((19 : Int) * va.toInt) ∧ (0 : Int) ≤ ((19 : Int) * va.toInt) ∧ ((19 : Int) * va.toInt) ≤ (342 : Int) := own_imulL (A := 0) h0.1 h1 (by decide) (by decide)
  have h3 : (vM).toInt = vM.toInt ∧ (0 : Int) ≤ vM.toInt ∧ vM.toInt ≤ (29 : Int) := ⟨rfl, h_vM0, h_vM1⟩
  have h4 : ((((19 : Int32) * va) + vM)).toInt = (((19 : Int) * va.toInt) + vM.toInt) ∧ (0 : Int) ≤ (((19 : Int) * va.toInt) + vM.toInt) ∧ (((19 : Int) * va.toInt) + vM.toInt) ≤ (371 : Int) := own_iadd h2 h3 (by decide)
  have h5 : ((30 : Int32)).toInt = (30 : Int) ∧ (30 : Int) ≤ (30 : Int) ∧ (30 : Int) ≤ (30 : Int) := by decide
  have h6 : (((((19 : Int32) * va) + vM) % (30 : Int32))).toInt = ((((19 : Int) * va.toInt) + vM.toInt) % (30 : Int)) ∧ (0 : Int) ≤ ((((19 : Int) * va.toInt) + vM.toInt) % (30 : Int)) ∧ ((((19 : Int) * va.toInt) + vM.toInt) % (30 : Int)) ≤ (29 : Int) := own_irem h4 h5.1 (by decide)
  have z := h6.1
  clear h0 h1 h2 h3 h4 h5 h6
  omega
set_option maxRecDepth 65536 in
set_option maxHeartbeats 40000000 in
theorem own_le (vb : Int32) (vc : Int32) (vd : Int32) (vN : Int32) (h_vb0 : (0 : Int) ≤ vb.toInt) (h_vb1 : vb.toInt ≤ (3 : Int)) (h_vc0 : (0 : Int) ≤ vc.toInt) (h_vc1 : vc.toInt ≤ (6 : Int)) (h_vd0 : (0 : Int) ≤ vd.toInt) (h_vd1 : vd.toInt ≤ (29 : Int)) (h_vN0 : (0 : Int) ≤ vN.toInt) (h_vN1 : vN.toInt ≤ (6 : Int)) : (((((((2 : Int32) * vb) + ((4 : Int32) * vc)) + ((6 : Int32) * vd)) + vN) % (7 : Int32))).toInt = (2 * vb.toInt + 4 * vc.toInt + 6 * vd.toInt + vN.toInt) % 7 := by
  have h0 : ((2 : Int32)).toInt = (2 : Int) ∧ (2 : Int) ≤ (2 : Int) ∧ (2 : Int) ≤ (2 : Int) := by decide
  have h1 : (vb).toInt = vb.toInt ∧ (0 : Int) ≤ vb.toInt ∧ vb.toInt ≤ (3 : Int) := ⟨rfl, h_vb0, h_vb1⟩
  have h2 : (((2 : Int32) * vb)).toInt = ((2 : Int) * vb.toInt) ∧ (0 : Int) ≤ ((2 : Int) * vb.toInt) ∧ ((2 : Int) * vb.toInt) ≤ (6 : Int) := own_imulL (A := 0) h0.1 h1 (by decide) (by decide)
  have h3 : ((4 : Int32)).toInt = (4 : Int) ∧ (4 : Int) ≤ (4 : Int) ∧ (4 : Int) ≤ (4 : Int) := by decide
  have h4 : (vc).toInt = vc.toInt ∧ (0 : Int) ≤ vc.toInt ∧ vc.toInt ≤ (6 : Int) := ⟨rfl, h_vc0, h_vc1⟩
  have h5 : (((4 : Int32) * vc)).toInt = ((4 : Int) * vc.toInt) ∧ (0 : Int) ≤ ((4 : Int) * vc.toInt) ∧ ((4 : Int) * vc.toInt) ≤ (24 : Int) := own_imulL (A := 0) h3.1 h4 (by decide) (by decide)
  have h6 : ((((2 : Int32) * vb) + ((4 : Int32) * vc))).toInt = (((2 : Int) * vb.toInt) + ((4 : Int) * vc.toInt)) ∧ (0 : Int) ≤ (((2 : Int) * vb.toInt) + ((4 : Int) * vc.toInt)) ∧ (((2 : Int) * vb.toInt) + ((4 : Int) * vc.toInt)) ≤ (30 : Int) := own_iadd h2 h5 (by decide)
  have h7 : ((6 : Int32)).toInt = (6 : Int) ∧ (6 : Int) ≤ (6 : Int) ∧ (6 : Int) ≤ (6 : Int) := by decide
  have h8 : (vd).toInt = vd.toInt ∧ (0 : Int) ≤ vd.toInt ∧ vd.toInt ≤ (29 : Int) := ⟨rfl, h_vd0, h_vd1⟩
  have h9 : (((6 : Int32) * vd)).toInt = ((6 : Int) * vd.toInt) ∧ (0 : Int) ≤ ((6 : Int) * vd.toInt) ∧ ((6 : Int) * vd.toInt) ≤ (174 : Int) := own_imulL (A := 0) h7.1 h8 (by decide) (by decide)
  have h10 : (((((2 : Int32) * vb) + ((4 : Int32) * vc)) + ((6 : Int32) * vd))).toInt = ((((2 : Int) * vb.toInt) + ((4 : Int) * vc.toInt)) + ((6 : Int) * vd.toInt)) ∧ (0 : Int) ≤ ((((2 : Int) * vb.toInt) + ((4 : Int) * vc.toInt)) + ((6 : Int) * vd.toInt)) ∧ ((((2 : Int) * vb.toInt) + ((4 : Int) * vc.toInt)) + ((6 : Int) * vd.toInt)) ≤ (204 : Int) := own_iadd h6 h9 (by decide)
  have h11 : (vN).toInt = vN.toInt ∧ (0 : Int) ≤ vN.toInt ∧ vN.toInt ≤ (6 : Int) := ⟨rfl, h_vN0, h_vN1⟩
  have h12 : ((((((2 : Int32) * vb) + ((4 : Int32) * vc)) + ((6 : Int32) * vd)) + vN)).toInt = (((((2 : Int) * vb.toInt) + ((4 : Int) * vc.toInt)) + ((6 : Int) * vd.toInt)) + vN.toInt) ∧ (0 : Int) ≤ (((((2 : Int) * vb.toInt) + ((4 : Int) * vc.toInt)) + ((6 : Int) * vd.toInt)) + vN.toInt) ∧ (((((2 : Int) * vb.toInt) + ((4 : Int) * vc.toInt)) + ((6 : Int) * vd.toInt)) + vN.toInt) ≤ (210 : Int) := own_iadd h10 h11 (by decide)
  have h13 : ((7 : Int32)).toInt = (7 : Int) ∧ (7 : Int) ≤ (7 : Int) ∧ (7 : Int) ≤ (7 : Int) := by decide
  have h14 : (((((((2 : Int32) * vb) + ((4 : Int32) * vc)) + ((6 : Int32) * vd)) + vN) % (7 : Int32))).toInt = ((((((2 : Int) * vb.toInt) + ((4 : Int) * vc.toInt)) + ((6 : Int) * vd.toInt)) + vN.toInt) % (7 : Int)) ∧ (0 : Int) ≤ ((((((2 : Int) * vb.toInt) + ((4 : Int) * vc.toInt)) + ((6 : Int) * vd.toInt)) + vN.toInt) % (7 : Int)) ∧ ((((((2 : Int) * vb.toInt) + ((4 : Int) * vc.toInt)) + ((6 : Int) * vd.toInt)) + vN.toInt) % (7 : Int)) ≤ (6 : Int) := own_irem h12 h13.1 (by decide)
  have z := h14.1
  clear h0 h1 h2 h3 h4 h5 h6 h7 h8 h9 h10 h11 h12 h13 h14
  omega
set_option maxRecDepth 65536 in
set_option maxHeartbeats 40000000 in
theorem own_ls (vd : Int32) (ve : Int32) (h_vd0 : (0 : Int) ≤ vd.toInt) (h_vd1 : vd.toInt ≤ (29 : Int)) (h_ve0 : (0 : Int) ≤ ve.toInt) (h_ve1 : ve.toInt ≤ (6 : Int)) : ((vd + ve)).toInt = vd.toInt + ve.toInt := by
  have h0 : (vd).toInt = vd.toInt ∧ (0 : Int) ≤ vd.toInt ∧ vd.toInt ≤ (29 : Int) := ⟨rfl, h_vd0, h_vd1⟩
  have h1 : (ve).toInt = ve.toInt ∧ (0 : Int) ≤ ve.toInt ∧ ve.toInt ≤ (6 : Int) := ⟨rfl, h_ve0, h_ve1⟩
  have h2 : ((vd + ve)).toInt = (vd.toInt + ve.toInt) ∧ (0 : Int) ≤ (vd.toInt + ve.toInt) ∧ (vd.toInt + ve.toInt) ≤ (35 : Int) := own_iadd h0 h1 (by decide)
  have z := h2.1
  clear h0 h1 h2
  omega
set_option maxRecDepth 65536 in
set_option maxHeartbeats 40000000 in
theorem own_l9 (vM : Int32) (h_vM0 : (0 : Int) ≤ vM.toInt) (h_vM1 : vM.toInt ≤ (29 : Int)) : (((((11 : Int32) * vM) + (11 : Int32)) % (30 : Int32))).toInt = (11 * vM.toInt + 11) % 30 := by
  have h0 : ((11 : Int32)).toInt = (11 : Int) ∧ (11 : Int) ≤ (11 : Int) ∧ (11 : Int) ≤ (11 : Int) := by decide
  have h1 : (vM).toInt = vM.toInt ∧ (0 : Int) ≤ vM.toInt ∧ vM.toInt ≤ (29 : Int) := ⟨rfl, h_vM0, h_vM1⟩
  have h2 : (((11 : Int32) * vM)).toInt = ((11 : Int) * vM.toInt) ∧ (0 : Int) ≤ ((11 : Int) * vM.toInt) ∧ ((11 : Int) * vM.toInt) ≤ (319 : Int) := own_imulL (A := 0) h0.1 h1 (by decide) (by decide)
  have h3 : ((((11 : Int32) * vM) + (11 : Int32))).toInt = (((11 : Int) * vM.toInt) + (11 : Int)) ∧ (11 : Int) ≤ (((11 : Int) * vM.toInt) + (11 : Int)) ∧ (((11 : Int) * vM.toInt) + (11 : Int)) ≤ (330 : Int) := own_iadd h2 h0 (by decide)
  have h4 : ((30 : Int32)).toInt = (30 : Int) ∧ (30 : Int) ≤ (30 : Int) ∧ (30 : Int) ≤ (30 : Int) := by decide
  have h5 : (((((11 : Int32) * vM) + (11 : Int32)) % (30 : Int32))).toInt = ((((11 : Int) * vM.toInt) + (11 : Int)) % (30 : Int)) ∧ (0 : Int) ≤ ((((11 : Int) * vM.toInt) + (11 : Int)) % (30 : Int)) ∧ ((((11 : Int) * vM.toInt) + (11 : Int)) % (30 : Int)) ≤ (29 : Int) := own_irem h3 h4.1 (by decide)
  have z := h5.1
  clear h0 h1 h2 h3 h4 h5
  omega
set_option maxRecDepth 65536 in
set_option maxHeartbeats 40000000 in
theorem own_d3 (vs : Int32) (h_vs0 : (0 : Int) ≤ vs.toInt) (h_vs1 : vs.toInt ≤ (35 : Int)) : (((20 : Int32) + vs)).toInt = 20 + vs.toInt := by
  have h0 : ((20 : Int32)).toInt = (20 : Int) ∧ (20 : Int) ≤ (20 : Int) ∧ (20 : Int) ≤ (20 : Int) := by decide
  have h1 : (vs).toInt = vs.toInt ∧ (0 : Int) ≤ vs.toInt ∧ vs.toInt ≤ (35 : Int) := ⟨rfl, h_vs0, h_vs1⟩
  have h2 : (((20 : Int32) + vs)).toInt = ((20 : Int) + vs.toInt) ∧ (20 : Int) ≤ ((20 : Int) + vs.toInt) ∧ ((20 : Int) + vs.toInt) ≤ (55 : Int) := own_iadd h0 h1 (by decide)
  have z := h2.1
  clear h0 h1 h2
  omega
set_option maxRecDepth 65536 in
set_option maxHeartbeats 40000000 in
theorem own_d4 (vs : Int32) (h_vs0 : (0 : Int) ≤ vs.toInt) (h_vs1 : vs.toInt ≤ (35 : Int)) : ((vs - (11 : Int32))).toInt = vs.toInt - 11 := by
  have h0 : (vs).toInt = vs.toInt ∧ (0 : Int) ≤ vs.toInt ∧ vs.toInt ≤ (35 : Int) := ⟨rfl, h_vs0, h_vs1⟩
  have h1 : ((11 : Int32)).toInt = (11 : Int) ∧ (11 : Int) ≤ (11 : Int) ∧ (11 : Int) ≤ (11 : Int) := by decide
  have h2 : ((vs - (11 : Int32))).toInt = (vs.toInt - (11 : Int)) ∧ (-11 : Int) ≤ (vs.toInt - (11 : Int)) ∧ (vs.toInt - (11 : Int)) ≤ (24 : Int) := own_isub h0 h1 (by decide)
  have z := h2.1
  clear h0 h1 h2
  omega
def own_Q0 (Z : State) (p1 : Int32) (cy ry cd rd ce re mm iso : Addr) (h0 : Heap) (n0 : Nat) (v : Option Value) (h : Heap) (L : List Loc) : Prop := v = some (.int (1 : Int32)) ∧ Fr n0 L
theorem own_pd13 : parseMethodDescriptor "(I)Ljava/time/LocalDate;" = some ⟨[.int], some (.object "java/time/LocalDate")⟩ := by decide +kernel
theorem own_pn_com_example_notewright_notewright_HolidaysGoodFridayPinLaw : plainName "com/example/notewright/notewright/HolidaysGoodFridayPinLaw" = true := by first | (simp [plainName, overriddenIn]; done) | decide +kernel
set_option maxRecDepth 65536 in
set_option maxHeartbeats 40000000 in
theorem own_law (l : Launch) (Z : State) (a0 : Array Value) (hw : ∀ d ∈ tables_1, d.before a0 Z = true) (ws : List Jvm.Cond) (p1 : Int32) (cy ry cd rd ce re mm iso : Addr) (h0 : Heap) (n0 : Nat) (Z0 : n0 ≤ h0.size) (Od : Old Z n0 h0) (Wd : own_W Z cy ry cd rd ce re mm iso) :
    MetFree l x (head1 (Jvm.Cond.code x code maxLocals ret :: ws) room_1) (fun a U => a = #[(.int p1)] ∧ Z.Warmed39 U.vm ∧ U.heap = h0) (fun _ _ _ _ _ => True) (fun _ U o U' => ∃ v L, o = .returned v ∧ own_Q0 Z p1 cy ry cd rd ce re mm iso h0 n0 v U'.heap L ∧ ReturnedEndW U o U' L room_1.cells room_1.slots) := by
  refine MetFree.of_bodySF (plainFor_of_name own_pn_com_example_notewright_notewright_HolidaysGoodFridayPinLaw) hisR ?_
  intro p e s m args below meth c s₁ Bd hml0 hP hK
  obtain ⟨rfl, hZ, hh⟩ := hP
  have hx := Bd.exec
  have hby := Bd.bytes
  have hml : c.maxLocals = 16 := hml0
  have hown : s.vm.findClass "com/example/notewright/notewright/HolidaysGoodFridayPinLaw" = some m.cls := findClass_of_methodNamed Bd.named
  have hnm := (name_of_methodNamed Bd.named Bd.method).1
  have hlk : meth.locks = false := BodyLoose.notSynchronized Bd
  have X0 : Stand p l e room_1 s m #[(.int p1)] below meth c s₁ [] 0 0 := Stand.of_body Bd
  have e0 : s₁.heap = h0 := by rw [← hh, Bd.state]; rfl
  have N0 := Fr.nil n0
  show own_Go p e below #[(.int p1)] s (fun _ U o U' => ∃ v L, o = .returned v ∧ own_Q0 Z p1 cy ry cd rd ce re mm iso h0 n0 v U'.heap L ∧ ReturnedEndW U o U' L room_1.cells room_1.slots) (s₁.setTop (entryFrame m #[(.int p1)] maxLocals))
  refine own_st (V := s₁.setTop (mkF m 0 #[.val (.int p1), .unset, .unset, .unset, .unset, .unset, .unset, .unset, .unset, .unset, .unset, .unset, .unset, .unset, .unset, .unset] [])) (fun t k => castTop (by first | (simp [entryFrame, mkF, argsToLocals, Value.category, maxLocals]; done) | rfl) k) ?_
  refine own_st (V := s₁.setTop (mkF m 3 #[.val (.int p1), .unset, .unset, .unset, .unset, .unset, .unset, .unset, .unset, .unset, .unset, .unset, .unset, .unset, .unset, .unset] [(.int (1583 : Int32))])) (fun t k => XS.sipush X0.here hx rfl (hb hby at_0) k) ?_
  refine own_st (V := s₁.setTop (mkF m 4 #[.val (.int p1), .unset, .unset, .unset, .unset, .unset, .unset, .unset, .unset, .unset, .unset, .unset, .unset, .unset, .unset, .unset] [(.int p1), (.int (1583 : Int32))])) (fun t k => XS.iloadN X0.here hx rfl (hb hby at_3) rfl k) ?_
  refine own_st (V := s₁.setTop (mkF m 6 #[.val (.int p1), .unset, .unset, .unset, .unset, .unset, .unset, .unset, .unset, .unset, .unset, .unset, .unset, .unset, .unset, .unset] [(.int (2147483647 : Int32)), (.int p1), (.int (1583 : Int32))])) (fun t k => X0.ldcInt hx hown (mvT hZ (hw _ (List.mem_of_getElem? (i := 0) rfl))) (g := (mkF m 4 #[.val (.int p1), .unset, .unset, .unset, .unset, .unset, .unset, .unset, .unset, .unset, .unset, .unset, .unset, .unset, .unset, .unset] [(.int p1), (.int (1583 : Int32))])) rfl (hb hby at_4) t k) ?_
  refine own_st (V := s₁.setTop (mkF m 7 #[.val (.int p1), .unset, .unset, .unset, .unset, .unset, .unset, .unset, .unset, .unset, .unset, .unset, .unset, .unset, .unset, .unset] [(.int (p1 &&& (2147483647 : Int32))), (.int (1583 : Int32))])) (fun t k => XS.iand X0.here hx rfl (hb hby at_6) rfl k) ?_
  refine own_st (V := s₁.setTop (mkF m 9 #[.val (.int p1), .unset, .unset, .unset, .unset, .unset, .unset, .unset, .unset, .unset, .unset, .unset, .unset, .unset, .unset, .unset] [(.int (999998417 : Int32)), (.int (p1 &&& (2147483647 : Int32))), (.int (1583 : Int32))])) (fun t k => X0.ldcInt hx hown (mvT hZ (hw _ (List.mem_of_getElem? (i := 1) rfl))) (g := (mkF m 7 #[.val (.int p1), .unset, .unset, .unset, .unset, .unset, .unset, .unset, .unset, .unset, .unset, .unset, .unset, .unset, .unset, .unset] [(.int (p1 &&& (2147483647 : Int32))), (.int (1583 : Int32))])) rfl (hb hby at_7) t k) ?_
  refine own_st (V := s₁.setTop (mkF m 10 #[.val (.int p1), .unset, .unset, .unset, .unset, .unset, .unset, .unset, .unset, .unset, .unset, .unset, .unset, .unset, .unset, .unset] [(.int ((p1 &&& (2147483647 : Int32)) % (999998417 : Int32))), (.int (1583 : Int32))])) (fun t k => Jvm.RoadKit.iremM X0 hx rfl (hb hby at_9) rfl (by decide) k) ?_
  refine own_st (V := s₁.setTop (mkF m 11 #[.val (.int p1), .unset, .unset, .unset, .unset, .unset, .unset, .unset, .unset, .unset, .unset, .unset, .unset, .unset, .unset, .unset] [(.int ((1583 : Int32) + ((p1 &&& (2147483647 : Int32)) % (999998417 : Int32))))])) (fun t k => XS.iadd X0.here hx rfl (hb hby at_10) rfl k) ?_
  obtain ⟨y, g_y⟩ : ∃ z, z = ((1583 : Int32) + ((p1 &&& (2147483647 : Int32)) % (999998417 : Int32))) := ⟨_, rfl⟩
  rw [← g_y]
  have hy := own_ly p1
  rw [← g_y] at hy
  obtain ⟨hy0, hy1⟩ := hy
  refine own_st (V := s₁.setTop (mkF m 12 #[.val (.int p1), .val (.int y), .unset, .unset, .unset, .unset, .unset, .unset, .unset, .unset, .unset, .unset, .unset, .unset, .unset, .unset] [])) (fun t k => XS.istoreN X0.here hx rfl (hb hby at_11) rfl (l' := #[.val (.int p1), .val (.int y), .unset, .unset, .unset, .unset, .unset, .unset, .unset, .unset, .unset, .unset, .unset, .unset, .unset, .unset]) rfl k) ?_
  refine own_st (V := s₁.setTop (mkF m 13 #[.val (.int p1), .val (.int y), .unset, .unset, .unset, .unset, .unset, .unset, .unset, .unset, .unset, .unset, .unset, .unset, .unset, .unset] [(.int y)])) (fun t k => XS.iloadN X0.here hx rfl (hb hby at_12) rfl k) ?_
  refine own_st (V := s₁.setTop (mkF m 15 #[.val (.int p1), .val (.int y), .unset, .unset, .unset, .unset, .unset, .unset, .unset, .unset, .unset, .unset, .unset, .unset, .unset, .unset] [(.int (19 : Int32)), (.int y)])) (fun t k => XS.bipush X0.here hx rfl (hb hby at_13) k) ?_
  refine own_st (V := s₁.setTop (mkF m 16 #[.val (.int p1), .val (.int y), .unset, .unset, .unset, .unset, .unset, .unset, .unset, .unset, .unset, .unset, .unset, .unset, .unset, .unset] [(.int (y % (19 : Int32)))])) (fun t k => Jvm.RoadKit.iremM X0 hx rfl (hb hby at_15) rfl (by decide) k) ?_
  obtain ⟨va, g_va⟩ : ∃ z, z = (y % (19 : Int32)) := ⟨_, rfl⟩
  rw [← g_va]
  have h_va : va.toInt = y.toInt % 19 := by rw [g_va]; exact (c_irem y (19 : Int32) 19 (by decide)).1 (by omega)
  refine own_st (V := s₁.setTop (mkF m 17 #[.val (.int p1), .val (.int y), .val (.int va), .unset, .unset, .unset, .unset, .unset, .unset, .unset, .unset, .unset, .unset, .unset, .unset, .unset] [])) (fun t k => XS.istoreN X0.here hx rfl (hb hby at_16) rfl (l' := #[.val (.int p1), .val (.int y), .val (.int va), .unset, .unset, .unset, .unset, .unset, .unset, .unset, .unset, .unset, .unset, .unset, .unset, .unset]) rfl k) ?_
  refine own_st (V := s₁.setTop (mkF m 18 #[.val (.int p1), .val (.int y), .val (.int va), .unset, .unset, .unset, .unset, .unset, .unset, .unset, .unset, .unset, .unset, .unset, .unset, .unset] [(.int y)])) (fun t k => XS.iloadN X0.here hx rfl (hb hby at_17) rfl k) ?_
  refine own_st (V := s₁.setTop (mkF m 19 #[.val (.int p1), .val (.int y), .val (.int va), .unset, .unset, .unset, .unset, .unset, .unset, .unset, .unset, .unset, .unset, .unset, .unset, .unset] [(.int (4 : Int32)), (.int y)])) (fun t k => XS.iconst X0.here hx rfl (hb hby at_18) k) ?_
  refine own_st (V := s₁.setTop (mkF m 20 #[.val (.int p1), .val (.int y), .val (.int va), .unset, .unset, .unset, .unset, .unset, .unset, .unset, .unset, .unset, .unset, .unset, .unset, .unset] [(.int (y % (4 : Int32)))])) (fun t k => Jvm.RoadKit.iremM X0 hx rfl (hb hby at_19) rfl (by decide) k) ?_
  obtain ⟨vb, g_vb⟩ : ∃ z, z = (y % (4 : Int32)) := ⟨_, rfl⟩
  rw [← g_vb]
  have h_vb : vb.toInt = y.toInt % 4 := by rw [g_vb]; exact (c_irem y (4 : Int32) 4 (by decide)).1 (by omega)
  refine own_st (V := s₁.setTop (mkF m 21 #[.val (.int p1), .val (.int y), .val (.int va), .val (.int vb), .unset, .unset, .unset, .unset, .unset, .unset, .unset, .unset, .unset, .unset, .unset, .unset] [])) (fun t k => XS.istoreN X0.here hx rfl (hb hby at_20) rfl (l' := #[.val (.int p1), .val (.int y), .val (.int va), .val (.int vb), .unset, .unset, .unset, .unset, .unset, .unset, .unset, .unset, .unset, .unset, .unset, .unset]) rfl k) ?_
  refine own_st (V := s₁.setTop (mkF m 22 #[.val (.int p1), .val (.int y), .val (.int va), .val (.int vb), .unset, .unset, .unset, .unset, .unset, .unset, .unset, .unset, .unset, .unset, .unset, .unset] [(.int y)])) (fun t k => XS.iloadN X0.here hx rfl (hb hby at_21) rfl k) ?_
  refine own_st (V := s₁.setTop (mkF m 24 #[.val (.int p1), .val (.int y), .val (.int va), .val (.int vb), .unset, .unset, .unset, .unset, .unset, .unset, .unset, .unset, .unset, .unset, .unset, .unset] [(.int (7 : Int32)), (.int y)])) (fun t k => XS.bipush X0.here hx rfl (hb hby at_22) k) ?_
  refine own_st (V := s₁.setTop (mkF m 25 #[.val (.int p1), .val (.int y), .val (.int va), .val (.int vb), .unset, .unset, .unset, .unset, .unset, .unset, .unset, .unset, .unset, .unset, .unset, .unset] [(.int (y % (7 : Int32)))])) (fun t k => Jvm.RoadKit.iremM X0 hx rfl (hb hby at_24) rfl (by decide) k) ?_
  obtain ⟨vc, g_vc⟩ : ∃ z, z = (y % (7 : Int32)) := ⟨_, rfl⟩
  rw [← g_vc]
  have h_vc : vc.toInt = y.toInt % 7 := by rw [g_vc]; exact (c_irem y (7 : Int32) 7 (by decide)).1 (by omega)
  refine own_st (V := s₁.setTop (mkF m 27 #[.val (.int p1), .val (.int y), .val (.int va), .val (.int vb), .val (.int vc), .unset, .unset, .unset, .unset, .unset, .unset, .unset, .unset, .unset, .unset, .unset] [])) (fun t k => XS.istore X0.here hx rfl (hb hby at_25) rfl (l' := #[.val (.int p1), .val (.int y), .val (.int va), .val (.int vb), .val (.int vc), .unset, .unset, .unset, .unset, .unset, .unset, .unset, .unset, .unset, .unset, .unset]) rfl k) ?_
  refine own_st (V := s₁.setTop (mkF m 28 #[.val (.int p1), .val (.int y), .val (.int va), .val (.int vb), .val (.int vc), .unset, .unset, .unset, .unset, .unset, .unset, .unset, .unset, .unset, .unset, .unset] [(.int y)])) (fun t k => XS.iloadN X0.here hx rfl (hb hby at_27) rfl k) ?_
  refine own_st (V := s₁.setTop (mkF m 30 #[.val (.int p1), .val (.int y), .val (.int va), .val (.int vb), .val (.int vc), .unset, .unset, .unset, .unset, .unset, .unset, .unset, .unset, .unset, .unset, .unset] [(.int (100 : Int32)), (.int y)])) (fun t k => XS.bipush X0.here hx rfl (hb hby at_28) k) ?_
  refine own_st (V := s₁.setTop (mkF m 31 #[.val (.int p1), .val (.int y), .val (.int va), .val (.int vb), .val (.int vc), .unset, .unset, .unset, .unset, .unset, .unset, .unset, .unset, .unset, .unset, .unset] [(.int (y / (100 : Int32)))])) (fun t k => XS.idiv X0.here hx rfl (hb hby at_30) rfl (by decide) k) ?_
  obtain ⟨vk, g_vk⟩ : ∃ z, z = (y / (100 : Int32)) := ⟨_, rfl⟩
  rw [← g_vk]
  have h_vk : vk.toInt = y.toInt / 100 := by rw [g_vk]; exact (c_idiv y (100 : Int32) 100 (by decide) (by decide)).1 (by omega)
  refine own_st (V := s₁.setTop (mkF m 33 #[.val (.int p1), .val (.int y), .val (.int va), .val (.int vb), .val (.int vc), .val (.int vk), .unset, .unset, .unset, .unset, .unset, .unset, .unset, .unset, .unset, .unset] [])) (fun t k => XS.istore X0.here hx rfl (hb hby at_31) rfl (l' := #[.val (.int p1), .val (.int y), .val (.int va), .val (.int vb), .val (.int vc), .val (.int vk), .unset, .unset, .unset, .unset, .unset, .unset, .unset, .unset, .unset, .unset]) rfl k) ?_
  refine own_st (V := s₁.setTop (mkF m 35 #[.val (.int p1), .val (.int y), .val (.int va), .val (.int vb), .val (.int vc), .val (.int vk), .unset, .unset, .unset, .unset, .unset, .unset, .unset, .unset, .unset, .unset] [(.int (13 : Int32))])) (fun t k => XS.bipush X0.here hx rfl (hb hby at_33) k) ?_
  refine own_st (V := s₁.setTop (mkF m 37 #[.val (.int p1), .val (.int y), .val (.int va), .val (.int vb), .val (.int vc), .val (.int vk), .unset, .unset, .unset, .unset, .unset, .unset, .unset, .unset, .unset, .unset] [(.int (8 : Int32)), (.int (13 : Int32))])) (fun t k => XS.bipush X0.here hx rfl (hb hby at_35) k) ?_
  refine own_st (V := s₁.setTop (mkF m 39 #[.val (.int p1), .val (.int y), .val (.int va), .val (.int vb), .val (.int vc), .val (.int vk), .unset, .unset, .unset, .unset, .unset, .unset, .unset, .unset, .unset, .unset] [(.int vk), (.int (8 : Int32)), (.int (13 : Int32))])) (fun t k => XS.iload X0.here hx rfl (hb hby at_37) rfl k) ?_
  refine own_st (V := s₁.setTop (mkF m 40 #[.val (.int p1), .val (.int y), .val (.int va), .val (.int vb), .val (.int vc), .val (.int vk), .unset, .unset, .unset, .unset, .unset, .unset, .unset, .unset, .unset, .unset] [(.int ((8 : Int32) * vk)), (.int (13 : Int32))])) (fun t k => XS.imul X0.here hx rfl (hb hby at_39) rfl k) ?_
  refine own_st (V := s₁.setTop (mkF m 41 #[.val (.int p1), .val (.int y), .val (.int va), .val (.int vb), .val (.int vc), .val (.int vk), .unset, .unset, .unset, .unset, .unset, .unset, .unset, .unset, .unset, .unset] [(.int ((13 : Int32) + ((8 : Int32) * vk)))])) (fun t k => XS.iadd X0.here hx rfl (hb hby at_40) rfl k) ?_
  refine own_st (V := s₁.setTop (mkF m 43 #[.val (.int p1), .val (.int y), .val (.int va), .val (.int vb), .val (.int vc), .val (.int vk), .unset, .unset, .unset, .unset, .unset, .unset, .unset, .unset, .unset, .unset] [(.int (25 : Int32)), (.int ((13 : Int32) + ((8 : Int32) * vk)))])) (fun t k => XS.bipush X0.here hx rfl (hb hby at_41) k) ?_
  refine own_st (V := s₁.setTop (mkF m 44 #[.val (.int p1), .val (.int y), .val (.int va), .val (.int vb), .val (.int vc), .val (.int vk), .unset, .unset, .unset, .unset, .unset, .unset, .unset, .unset, .unset, .unset] [(.int (((13 : Int32) + ((8 : Int32) * vk)) / (25 : Int32)))])) (fun t k => XS.idiv X0.here hx rfl (hb hby at_43) rfl (by decide) k) ?_
  obtain ⟨vp, g_vp⟩ : ∃ z, z = (((13 : Int32) + ((8 : Int32) * vk)) / (25 : Int32)) := ⟨_, rfl⟩
  rw [← g_vp]
  have h_vp : vp.toInt = (13 + 8 * (y.toInt / 100)) / 25 := by rw [g_vp, own_lp vk (by omega) (by omega), h_vk]
  refine own_st (V := s₁.setTop (mkF m 46 #[.val (.int p1), .val (.int y), .val (.int va), .val (.int vb), .val (.int vc), .val (.int vk), .val (.int vp), .unset, .unset, .unset, .unset, .unset, .unset, .unset, .unset, .unset] [])) (fun t k => XS.istore X0.here hx rfl (hb hby at_44) rfl (l' := #[.val (.int p1), .val (.int y), .val (.int va), .val (.int vb), .val (.int vc), .val (.int vk), .val (.int vp), .unset, .unset, .unset, .unset, .unset, .unset, .unset, .unset, .unset]) rfl k) ?_
  refine own_st (V := s₁.setTop (mkF m 48 #[.val (.int p1), .val (.int y), .val (.int va), .val (.int vb), .val (.int vc), .val (.int vk), .val (.int vp), .unset, .unset, .unset, .unset, .unset, .unset, .unset, .unset, .unset] [(.int vk)])) (fun t k => XS.iload X0.here hx rfl (hb hby at_46) rfl k) ?_
  refine own_st (V := s₁.setTop (mkF m 49 #[.val (.int p1), .val (.int y), .val (.int va), .val (.int vb), .val (.int vc), .val (.int vk), .val (.int vp), .unset, .unset, .unset, .unset, .unset, .unset, .unset, .unset, .unset] [(.int (4 : Int32)), (.int vk)])) (fun t k => XS.iconst X0.here hx rfl (hb hby at_48) k) ?_
  refine own_st (V := s₁.setTop (mkF m 50 #[.val (.int p1), .val (.int y), .val (.int va), .val (.int vb), .val (.int vc), .val (.int vk), .val (.int vp), .unset, .unset, .unset, .unset, .unset, .unset, .unset, .unset, .unset] [(.int (vk / (4 : Int32)))])) (fun t k => XS.idiv X0.here hx rfl (hb hby at_49) rfl (by decide) k) ?_
  obtain ⟨vq, g_vq⟩ : ∃ z, z = (vk / (4 : Int32)) := ⟨_, rfl⟩
  rw [← g_vq]
  have h_vq : vq.toInt = y.toInt / 100 / 4 := by rw [g_vq, (c_idiv vk (4 : Int32) 4 (by decide) (by decide)).1 (by omega), h_vk]
  refine own_st (V := s₁.setTop (mkF m 52 #[.val (.int p1), .val (.int y), .val (.int va), .val (.int vb), .val (.int vc), .val (.int vk), .val (.int vp), .val (.int vq), .unset, .unset, .unset, .unset, .unset, .unset, .unset, .unset] [])) (fun t k => XS.istore X0.here hx rfl (hb hby at_50) rfl (l' := #[.val (.int p1), .val (.int y), .val (.int va), .val (.int vb), .val (.int vc), .val (.int vk), .val (.int vp), .val (.int vq), .unset, .unset, .unset, .unset, .unset, .unset, .unset, .unset]) rfl k) ?_
  refine own_st (V := s₁.setTop (mkF m 54 #[.val (.int p1), .val (.int y), .val (.int va), .val (.int vb), .val (.int vc), .val (.int vk), .val (.int vp), .val (.int vq), .unset, .unset, .unset, .unset, .unset, .unset, .unset, .unset] [(.int (15 : Int32))])) (fun t k => XS.bipush X0.here hx rfl (hb hby at_52) k) ?_
  refine own_st (V := s₁.setTop (mkF m 56 #[.val (.int p1), .val (.int y), .val (.int va), .val (.int vb), .val (.int vc), .val (.int vk), .val (.int vp), .val (.int vq), .unset, .unset, .unset, .unset, .unset, .unset, .unset, .unset] [(.int vp), (.int (15 : Int32))])) (fun t k => XS.iload X0.here hx rfl (hb hby at_54) rfl k) ?_
  refine own_st (V := s₁.setTop (mkF m 57 #[.val (.int p1), .val (.int y), .val (.int va), .val (.int vb), .val (.int vc), .val (.int vk), .val (.int vp), .val (.int vq), .unset, .unset, .unset, .unset, .unset, .unset, .unset, .unset] [(.int ((15 : Int32) - vp))])) (fun t k => XS.isub X0.here hx rfl (hb hby at_56) rfl k) ?_
  refine own_st (V := s₁.setTop (mkF m 59 #[.val (.int p1), .val (.int y), .val (.int va), .val (.int vb), .val (.int vc), .val (.int vk), .val (.int vp), .val (.int vq), .unset, .unset, .unset, .unset, .unset, .unset, .unset, .unset] [(.int vk), (.int ((15 : Int32) - vp))])) (fun t k => XS.iload X0.here hx rfl (hb hby at_57) rfl k) ?_
  refine own_st (V := s₁.setTop (mkF m 60 #[.val (.int p1), .val (.int y), .val (.int va), .val (.int vb), .val (.int vc), .val (.int vk), .val (.int vp), .val (.int vq), .unset, .unset, .unset, .unset, .unset, .unset, .unset, .unset] [(.int (((15 : Int32) - vp) + vk))])) (fun t k => XS.iadd X0.here hx rfl (hb hby at_59) rfl k) ?_
  refine own_st (V := s₁.setTop (mkF m 62 #[.val (.int p1), .val (.int y), .val (.int va), .val (.int vb), .val (.int vc), .val (.int vk), .val (.int vp), .val (.int vq), .unset, .unset, .unset, .unset, .unset, .unset, .unset, .unset] [(.int vq), (.int (((15 : Int32) - vp) + vk))])) (fun t k => XS.iload X0.here hx rfl (hb hby at_60) rfl k) ?_
  refine own_st (V := s₁.setTop (mkF m 63 #[.val (.int p1), .val (.int y), .val (.int va), .val (.int vb), .val (.int vc), .val (.int vk), .val (.int vp), .val (.int vq), .unset, .unset, .unset, .unset, .unset, .unset, .unset, .unset] [(.int ((((15 : Int32) - vp) + vk) - vq))])) (fun t k => XS.isub X0.here hx rfl (hb hby at_62) rfl k) ?_
  refine own_st (V := s₁.setTop (mkF m 65 #[.val (.int p1), .val (.int y), .val (.int va), .val (.int vb), .val (.int vc), .val (.int vk), .val (.int vp), .val (.int vq), .unset, .unset, .unset, .unset, .unset, .unset, .unset, .unset] [(.int (30 : Int32)), (.int ((((15 : Int32) - vp) + vk) - vq))])) (fun t k => XS.bipush X0.here hx rfl (hb hby at_63) k) ?_
  refine own_st (V := s₁.setTop (mkF m 66 #[.val (.int p1), .val (.int y), .val (.int va), .val (.int vb), .val (.int vc), .val (.int vk), .val (.int vp), .val (.int vq), .unset, .unset, .unset, .unset, .unset, .unset, .unset, .unset] [(.int (((((15 : Int32) - vp) + vk) - vq) % (30 : Int32)))])) (fun t k => Jvm.RoadKit.iremM X0 hx rfl (hb hby at_65) rfl (by decide) k) ?_
  obtain ⟨vM, g_vM⟩ : ∃ z, z = (((((15 : Int32) - vp) + vk) - vq) % (30 : Int32)) := ⟨_, rfl⟩
  rw [← g_vM]
  have h_vM : vM.toInt = (15 - (13 + 8 * (y.toInt / 100)) / 25 + y.toInt / 100 - y.toInt / 100 / 4) % 30 := by rw [g_vM]; exact own_lM vp vk vq _ h_vk h_vp h_vq (by omega) (by omega)
  refine own_st (V := s₁.setTop (mkF m 68 #[.val (.int p1), .val (.int y), .val (.int va), .val (.int vb), .val (.int vc), .val (.int vk), .val (.int vp), .val (.int vq), .val (.int vM), .unset, .unset, .unset, .unset, .unset, .unset, .unset] [])) (fun t k => XS.istore X0.here hx rfl (hb hby at_66) rfl (l' := #[.val (.int p1), .val (.int y), .val (.int va), .val (.int vb), .val (.int vc), .val (.int vk), .val (.int vp), .val (.int vq), .val (.int vM), .unset, .unset, .unset, .unset, .unset, .unset, .unset]) rfl k) ?_
  refine own_st (V := s₁.setTop (mkF m 69 #[.val (.int p1), .val (.int y), .val (.int va), .val (.int vb), .val (.int vc), .val (.int vk), .val (.int vp), .val (.int vq), .val (.int vM), .unset, .unset, .unset, .unset, .unset, .unset, .unset] [(.int (4 : Int32))])) (fun t k => XS.iconst X0.here hx rfl (hb hby at_68) k) ?_
  refine own_st (V := s₁.setTop (mkF m 71 #[.val (.int p1), .val (.int y), .val (.int va), .val (.int vb), .val (.int vc), .val (.int vk), .val (.int vp), .val (.int vq), .val (.int vM), .unset, .unset, .unset, .unset, .unset, .unset, .unset] [(.int vk), (.int (4 : Int32))])) (fun t k => XS.iload X0.here hx rfl (hb hby at_69) rfl k) ?_
  refine own_st (V := s₁.setTop (mkF m 72 #[.val (.int p1), .val (.int y), .val (.int va), .val (.int vb), .val (.int vc), .val (.int vk), .val (.int vp), .val (.int vq), .val (.int vM), .unset, .unset, .unset, .unset, .unset, .unset, .unset] [(.int ((4 : Int32) + vk))])) (fun t k => XS.iadd X0.here hx rfl (hb hby at_71) rfl k) ?_
  refine own_st (V := s₁.setTop (mkF m 74 #[.val (.int p1), .val (.int y), .val (.int va), .val (.int vb), .val (.int vc), .val (.int vk), .val (.int vp), .val (.int vq), .val (.int vM), .unset, .unset, .unset, .unset, .unset, .unset, .unset] [(.int vq), (.int ((4 : Int32) + vk))])) (fun t k => XS.iload X0.here hx rfl (hb hby at_72) rfl k) ?_
  refine own_st (V := s₁.setTop (mkF m 75 #[.val (.int p1), .val (.int y), .val (.int va), .val (.int vb), .val (.int vc), .val (.int vk), .val (.int vp), .val (.int vq), .val (.int vM), .unset, .unset, .unset, .unset, .unset, .unset, .unset] [(.int (((4 : Int32) + vk) - vq))])) (fun t k => XS.isub X0.here hx rfl (hb hby at_74) rfl k) ?_
  refine own_st (V := s₁.setTop (mkF m 77 #[.val (.int p1), .val (.int y), .val (.int va), .val (.int vb), .val (.int vc), .val (.int vk), .val (.int vp), .val (.int vq), .val (.int vM), .unset, .unset, .unset, .unset, .unset, .unset, .unset] [(.int (7 : Int32)), (.int (((4 : Int32) + vk) - vq))])) (fun t k => XS.bipush X0.here hx rfl (hb hby at_75) k) ?_
  refine own_st (V := s₁.setTop (mkF m 78 #[.val (.int p1), .val (.int y), .val (.int va), .val (.int vb), .val (.int vc), .val (.int vk), .val (.int vp), .val (.int vq), .val (.int vM), .unset, .unset, .unset, .unset, .unset, .unset, .unset] [(.int ((((4 : Int32) + vk) - vq) % (7 : Int32)))])) (fun t k => Jvm.RoadKit.iremM X0 hx rfl (hb hby at_77) rfl (by decide) k) ?_
  obtain ⟨vN, g_vN⟩ : ∃ z, z = ((((4 : Int32) + vk) - vq) % (7 : Int32)) := ⟨_, rfl⟩
  rw [← g_vN]
  have h_vN : vN.toInt = (4 + y.toInt / 100 - y.toInt / 100 / 4) % 7 := by rw [g_vN]; exact own_lN vk vq _ h_vk h_vq (by omega) (by omega)
  refine own_st (V := s₁.setTop (mkF m 80 #[.val (.int p1), .val (.int y), .val (.int va), .val (.int vb), .val (.int vc), .val (.int vk), .val (.int vp), .val (.int vq), .val (.int vM), .val (.int vN), .unset, .unset, .unset, .unset, .unset, .unset] [])) (fun t k => XS.istore X0.here hx rfl (hb hby at_78) rfl (l' := #[.val (.int p1), .val (.int y), .val (.int va), .val (.int vb), .val (.int vc), .val (.int vk), .val (.int vp), .val (.int vq), .val (.int vM), .val (.int vN), .unset, .unset, .unset, .unset, .unset, .unset]) rfl k) ?_
  refine own_st (V := s₁.setTop (mkF m 82 #[.val (.int p1), .val (.int y), .val (.int va), .val (.int vb), .val (.int vc), .val (.int vk), .val (.int vp), .val (.int vq), .val (.int vM), .val (.int vN), .unset, .unset, .unset, .unset, .unset, .unset] [(.int (19 : Int32))])) (fun t k => XS.bipush X0.here hx rfl (hb hby at_80) k) ?_
  refine own_st (V := s₁.setTop (mkF m 83 #[.val (.int p1), .val (.int y), .val (.int va), .val (.int vb), .val (.int vc), .val (.int vk), .val (.int vp), .val (.int vq), .val (.int vM), .val (.int vN), .unset, .unset, .unset, .unset, .unset, .unset] [(.int va), (.int (19 : Int32))])) (fun t k => XS.iloadN X0.here hx rfl (hb hby at_82) rfl k) ?_
  refine own_st (V := s₁.setTop (mkF m 84 #[.val (.int p1), .val (.int y), .val (.int va), .val (.int vb), .val (.int vc), .val (.int vk), .val (.int vp), .val (.int vq), .val (.int vM), .val (.int vN), .unset, .unset, .unset, .unset, .unset, .unset] [(.int ((19 : Int32) * va))])) (fun t k => XS.imul X0.here hx rfl (hb hby at_83) rfl k) ?_
  refine own_st (V := s₁.setTop (mkF m 86 #[.val (.int p1), .val (.int y), .val (.int va), .val (.int vb), .val (.int vc), .val (.int vk), .val (.int vp), .val (.int vq), .val (.int vM), .val (.int vN), .unset, .unset, .unset, .unset, .unset, .unset] [(.int vM), (.int ((19 : Int32) * va))])) (fun t k => XS.iload X0.here hx rfl (hb hby at_84) rfl k) ?_
  refine own_st (V := s₁.setTop (mkF m 87 #[.val (.int p1), .val (.int y), .val (.int va), .val (.int vb), .val (.int vc), .val (.int vk), .val (.int vp), .val (.int vq), .val (.int vM), .val (.int vN), .unset, .unset, .unset, .unset, .unset, .unset] [(.int (((19 : Int32) * va) + vM))])) (fun t k => XS.iadd X0.here hx rfl (hb hby at_86) rfl k) ?_
  refine own_st (V := s₁.setTop (mkF m 89 #[.val (.int p1), .val (.int y), .val (.int va), .val (.int vb), .val (.int vc), .val (.int vk), .val (.int vp), .val (.int vq), .val (.int vM), .val (.int vN), .unset, .unset, .unset, .unset, .unset, .unset] [(.int (30 : Int32)), (.int (((19 : Int32) * va) + vM))])) (fun t k => XS.bipush X0.here hx rfl (hb hby at_87) k) ?_
  refine own_st (V := s₁.setTop (mkF m 90 #[.val (.int p1), .val (.int y), .val (.int va), .val (.int vb), .val (.int vc), .val (.int vk), .val (.int vp), .val (.int vq), .val (.int vM), .val (.int vN), .unset, .unset, .unset, .unset, .unset, .unset] [(.int ((((19 : Int32) * va) + vM) % (30 : Int32)))])) (fun t k => Jvm.RoadKit.iremM X0 hx rfl (hb hby at_89) rfl (by decide) k) ?_
  obtain ⟨vd, g_vd⟩ : ∃ z, z = ((((19 : Int32) * va) + vM) % (30 : Int32)) := ⟨_, rfl⟩
  rw [← g_vd]
  have h_vd : vd.toInt = (19 * (y.toInt % 19) + vM.toInt) % 30 := by rw [g_vd, own_ld va vM (by omega) (by omega) (by omega) (by omega), h_va]
  refine own_st (V := s₁.setTop (mkF m 92 #[.val (.int p1), .val (.int y), .val (.int va), .val (.int vb), .val (.int vc), .val (.int vk), .val (.int vp), .val (.int vq), .val (.int vM), .val (.int vN), .val (.int vd), .unset, .unset, .unset, .unset, .unset] [])) (fun t k => XS.istore X0.here hx rfl (hb hby at_90) rfl (l' := #[.val (.int p1), .val (.int y), .val (.int va), .val (.int vb), .val (.int vc), .val (.int vk), .val (.int vp), .val (.int vq), .val (.int vM), .val (.int vN), .val (.int vd), .unset, .unset, .unset, .unset, .unset]) rfl k) ?_
  refine own_st (V := s₁.setTop (mkF m 93 #[.val (.int p1), .val (.int y), .val (.int va), .val (.int vb), .val (.int vc), .val (.int vk), .val (.int vp), .val (.int vq), .val (.int vM), .val (.int vN), .val (.int vd), .unset, .unset, .unset, .unset, .unset] [(.int (2 : Int32))])) (fun t k => XS.iconst X0.here hx rfl (hb hby at_92) k) ?_
  refine own_st (V := s₁.setTop (mkF m 94 #[.val (.int p1), .val (.int y), .val (.int va), .val (.int vb), .val (.int vc), .val (.int vk), .val (.int vp), .val (.int vq), .val (.int vM), .val (.int vN), .val (.int vd), .unset, .unset, .unset, .unset, .unset] [(.int vb), (.int (2 : Int32))])) (fun t k => XS.iloadN X0.here hx rfl (hb hby at_93) rfl k) ?_
  refine own_st (V := s₁.setTop (mkF m 95 #[.val (.int p1), .val (.int y), .val (.int va), .val (.int vb), .val (.int vc), .val (.int vk), .val (.int vp), .val (.int vq), .val (.int vM), .val (.int vN), .val (.int vd), .unset, .unset, .unset, .unset, .unset] [(.int ((2 : Int32) * vb))])) (fun t k => XS.imul X0.here hx rfl (hb hby at_94) rfl k) ?_
  refine own_st (V := s₁.setTop (mkF m 96 #[.val (.int p1), .val (.int y), .val (.int va), .val (.int vb), .val (.int vc), .val (.int vk), .val (.int vp), .val (.int vq), .val (.int vM), .val (.int vN), .val (.int vd), .unset, .unset, .unset, .unset, .unset] [(.int (4 : Int32)), (.int ((2 : Int32) * vb))])) (fun t k => XS.iconst X0.here hx rfl (hb hby at_95) k) ?_
  refine own_st (V := s₁.setTop (mkF m 98 #[.val (.int p1), .val (.int y), .val (.int va), .val (.int vb), .val (.int vc), .val (.int vk), .val (.int vp), .val (.int vq), .val (.int vM), .val (.int vN), .val (.int vd), .unset, .unset, .unset, .unset, .unset] [(.int vc), (.int (4 : Int32)), (.int ((2 : Int32) * vb))])) (fun t k => XS.iload X0.here hx rfl (hb hby at_96) rfl k) ?_
  refine own_st (V := s₁.setTop (mkF m 99 #[.val (.int p1), .val (.int y), .val (.int va), .val (.int vb), .val (.int vc), .val (.int vk), .val (.int vp), .val (.int vq), .val (.int vM), .val (.int vN), .val (.int vd), .unset, .unset, .unset, .unset, .unset] [(.int ((4 : Int32) * vc)), (.int ((2 : Int32) * vb))])) (fun t k => XS.imul X0.here hx rfl (hb hby at_98) rfl k) ?_
  refine own_st (V := s₁.setTop (mkF m 100 #[.val (.int p1), .val (.int y), .val (.int va), .val (.int vb), .val (.int vc), .val (.int vk), .val (.int vp), .val (.int vq), .val (.int vM), .val (.int vN), .val (.int vd), .unset, .unset, .unset, .unset, .unset] [(.int (((2 : Int32) * vb) + ((4 : Int32) * vc)))])) (fun t k => XS.iadd X0.here hx rfl (hb hby at_99) rfl k) ?_
  refine own_st (V := s₁.setTop (mkF m 102 #[.val (.int p1), .val (.int y), .val (.int va), .val (.int vb), .val (.int vc), .val (.int vk), .val (.int vp), .val (.int vq), .val (.int vM), .val (.int vN), .val (.int vd), .unset, .unset, .unset, .unset, .unset] [(.int (6 : Int32)), (.int (((2 : Int32) * vb) + ((4 : Int32) * vc)))])) (fun t k => XS.bipush X0.here hx rfl (hb hby at_100) k) ?_
  refine own_st (V := s₁.setTop (mkF m 104 #[.val (.int p1), .val (.int y), .val (.int va), .val (.int vb), .val (.int vc), .val (.int vk), .val (.int vp), .val (.int vq), .val (.int vM), .val (.int vN), .val (.int vd), .unset, .unset, .unset, .unset, .unset] [(.int vd), (.int (6 : Int32)), (.int (((2 : Int32) * vb) + ((4 : Int32) * vc)))])) (fun t k => XS.iload X0.here hx rfl (hb hby at_102) rfl k) ?_
  refine own_st (V := s₁.setTop (mkF m 105 #[.val (.int p1), .val (.int y), .val (.int va), .val (.int vb), .val (.int vc), .val (.int vk), .val (.int vp), .val (.int vq), .val (.int vM), .val (.int vN), .val (.int vd), .unset, .unset, .unset, .unset, .unset] [(.int ((6 : Int32) * vd)), (.int (((2 : Int32) * vb) + ((4 : Int32) * vc)))])) (fun t k => XS.imul X0.here hx rfl (hb hby at_104) rfl k) ?_
  refine own_st (V := s₁.setTop (mkF m 106 #[.val (.int p1), .val (.int y), .val (.int va), .val (.int vb), .val (.int vc), .val (.int vk), .val (.int vp), .val (.int vq), .val (.int vM), .val (.int vN), .val (.int vd), .unset, .unset, .unset, .unset, .unset] [(.int ((((2 : Int32) * vb) + ((4 : Int32) * vc)) + ((6 : Int32) * vd)))])) (fun t k => XS.iadd X0.here hx rfl (hb hby at_105) rfl k) ?_
  refine own_st (V := s₁.setTop (mkF m 108 #[.val (.int p1), .val (.int y), .val (.int va), .val (.int vb), .val (.int vc), .val (.int vk), .val (.int vp), .val (.int vq), .val (.int vM), .val (.int vN), .val (.int vd), .unset, .unset, .unset, .unset, .unset] [(.int vN), (.int ((((2 : Int32) * vb) + ((4 : Int32) * vc)) + ((6 : Int32) * vd)))])) (fun t k => XS.iload X0.here hx rfl (hb hby at_106) rfl k) ?_
  refine own_st (V := s₁.setTop (mkF m 109 #[.val (.int p1), .val (.int y), .val (.int va), .val (.int vb), .val (.int vc), .val (.int vk), .val (.int vp), .val (.int vq), .val (.int vM), .val (.int vN), .val (.int vd), .unset, .unset, .unset, .unset, .unset] [(.int (((((2 : Int32) * vb) + ((4 : Int32) * vc)) + ((6 : Int32) * vd)) + vN))])) (fun t k => XS.iadd X0.here hx rfl (hb hby at_108) rfl k) ?_
  refine own_st (V := s₁.setTop (mkF m 111 #[.val (.int p1), .val (.int y), .val (.int va), .val (.int vb), .val (.int vc), .val (.int vk), .val (.int vp), .val (.int vq), .val (.int vM), .val (.int vN), .val (.int vd), .unset, .unset, .unset, .unset, .unset] [(.int (7 : Int32)), (.int (((((2 : Int32) * vb) + ((4 : Int32) * vc)) + ((6 : Int32) * vd)) + vN))])) (fun t k => XS.bipush X0.here hx rfl (hb hby at_109) k) ?_
  refine own_st (V := s₁.setTop (mkF m 112 #[.val (.int p1), .val (.int y), .val (.int va), .val (.int vb), .val (.int vc), .val (.int vk), .val (.int vp), .val (.int vq), .val (.int vM), .val (.int vN), .val (.int vd), .unset, .unset, .unset, .unset, .unset] [(.int ((((((2 : Int32) * vb) + ((4 : Int32) * vc)) + ((6 : Int32) * vd)) + vN) % (7 : Int32)))])) (fun t k => Jvm.RoadKit.iremM X0 hx rfl (hb hby at_111) rfl (by decide) k) ?_
  obtain ⟨ve, g_ve⟩ : ∃ z, z = ((((((2 : Int32) * vb) + ((4 : Int32) * vc)) + ((6 : Int32) * vd)) + vN) % (7 : Int32)) := ⟨_, rfl⟩
  rw [← g_ve]
  have h_ve : ve.toInt = (2 * (y.toInt % 4) + 4 * (y.toInt % 7) + 6 * vd.toInt + (4 + y.toInt / 100 - y.toInt / 100 / 4) % 7) % 7 := by rw [g_ve, own_le vb vc vd vN (by omega) (by omega) (by omega) (by omega) (by omega) (by omega) (by omega) (by omega), h_vb, h_vc, h_vN]
  have r_M : 0 ≤ vM.toInt ∧ vM.toInt ≤ 29 := by omega
  have r_d : 0 ≤ vd.toInt ∧ vd.toInt ≤ 29 := by omega
  have r_e : 0 ≤ ve.toInt ∧ ve.toInt ≤ 6 := by omega
  have LF := own_lf y.toInt vM.toInt vd.toInt ve.toInt (Int.le_trans (by decide) hy0) h_vM h_vd h_ve
  clear h_vM h_vd h_ve h_vN h_vq h_vp h_vk h_va h_vb h_vc g_vM g_vN g_vd g_ve g_vk g_vp g_vq g_va g_vb g_vc
  refine own_st (V := s₁.setTop (mkF m 114 #[.val (.int p1), .val (.int y), .val (.int va), .val (.int vb), .val (.int vc), .val (.int vk), .val (.int vp), .val (.int vq), .val (.int vM), .val (.int vN), .val (.int vd), .val (.int ve), .unset, .unset, .unset, .unset] [])) (fun t k => XS.istore X0.here hx rfl (hb hby at_112) rfl (l' := #[.val (.int p1), .val (.int y), .val (.int va), .val (.int vb), .val (.int vc), .val (.int vk), .val (.int vp), .val (.int vq), .val (.int vM), .val (.int vN), .val (.int vd), .val (.int ve), .unset, .unset, .unset, .unset]) rfl k) ?_
  refine own_st (V := s₁.setTop (mkF m 116 #[.val (.int p1), .val (.int y), .val (.int va), .val (.int vb), .val (.int vc), .val (.int vk), .val (.int vp), .val (.int vq), .val (.int vM), .val (.int vN), .val (.int vd), .val (.int ve), .unset, .unset, .unset, .unset] [(.int vd)])) (fun t k => XS.iload X0.here hx rfl (hb hby at_114) rfl k) ?_
  refine own_st (V := s₁.setTop (mkF m 118 #[.val (.int p1), .val (.int y), .val (.int va), .val (.int vb), .val (.int vc), .val (.int vk), .val (.int vp), .val (.int vq), .val (.int vM), .val (.int vN), .val (.int vd), .val (.int ve), .unset, .unset, .unset, .unset] [(.int ve), (.int vd)])) (fun t k => XS.iload X0.here hx rfl (hb hby at_116) rfl k) ?_
  refine own_st (V := s₁.setTop (mkF m 119 #[.val (.int p1), .val (.int y), .val (.int va), .val (.int vb), .val (.int vc), .val (.int vk), .val (.int vp), .val (.int vq), .val (.int vM), .val (.int vN), .val (.int vd), .val (.int ve), .unset, .unset, .unset, .unset] [(.int (vd + ve))])) (fun t k => XS.iadd X0.here hx rfl (hb hby at_118) rfl k) ?_
  obtain ⟨vs, g_vs⟩ : ∃ z, z = (vd + ve) := ⟨_, rfl⟩
  rw [← g_vs]
  have h_vs : vs.toInt = vd.toInt + ve.toInt := by rw [g_vs, own_ls vd ve (by omega) (by omega) (by omega) (by omega)]
  have r_s : 0 ≤ vs.toInt ∧ vs.toInt ≤ 35 := by omega
  refine own_st (V := s₁.setTop (mkF m 121 #[.val (.int p1), .val (.int y), .val (.int va), .val (.int vb), .val (.int vc), .val (.int vk), .val (.int vp), .val (.int vq), .val (.int vM), .val (.int vN), .val (.int vd), .val (.int ve), .val (.int vs), .unset, .unset, .unset] [])) (fun t k => XS.istore X0.here hx rfl (hb hby at_119) rfl (l' := #[.val (.int p1), .val (.int y), .val (.int va), .val (.int vb), .val (.int vc), .val (.int vk), .val (.int vp), .val (.int vq), .val (.int vM), .val (.int vN), .val (.int vd), .val (.int ve), .val (.int vs), .unset, .unset, .unset]) rfl k) ?_
  refine own_st (V := s₁.setTop (mkF m 123 #[.val (.int p1), .val (.int y), .val (.int va), .val (.int vb), .val (.int vc), .val (.int vk), .val (.int vp), .val (.int vq), .val (.int vM), .val (.int vN), .val (.int vd), .val (.int ve), .val (.int vs), .unset, .unset, .unset] [(.int vd)])) (fun t k => XS.iload X0.here hx rfl (hb hby at_121) rfl k) ?_
  refine own_st (V := s₁.setTop (mkF m 125 #[.val (.int p1), .val (.int y), .val (.int va), .val (.int vb), .val (.int vc), .val (.int vk), .val (.int vp), .val (.int vq), .val (.int vM), .val (.int vN), .val (.int vd), .val (.int ve), .val (.int vs), .unset, .unset, .unset] [(.int (29 : Int32)), (.int vd)])) (fun t k => XS.bipush X0.here hx rfl (hb hby at_123) k) ?_
  by_cases hcA : vd = (29 : Int32)
  · refine own_st (V := s₁.setTop (mkF m 128 #[.val (.int p1), .val (.int y), .val (.int va), .val (.int vb), .val (.int vc), .val (.int vk), .val (.int vp), .val (.int vq), .val (.int vM), .val (.int vN), .val (.int vd), .val (.int ve), .val (.int vs), .unset, .unset, .unset] [])) (fun t k => XS.icmpNo X0.here hx rfl (hb hby at_125) rfl (teq hcA).2 k) ?_
    refine own_st (V := s₁.setTop (mkF m 130 #[.val (.int p1), .val (.int y), .val (.int va), .val (.int vb), .val (.int vc), .val (.int vk), .val (.int vp), .val (.int vq), .val (.int vM), .val (.int vN), .val (.int vd), .val (.int ve), .val (.int vs), .unset, .unset, .unset] [(.int ve)])) (fun t k => XS.iload X0.here hx rfl (hb hby at_128) rfl k) ?_
    refine own_st (V := s₁.setTop (mkF m 132 #[.val (.int p1), .val (.int y), .val (.int va), .val (.int vb), .val (.int vc), .val (.int vk), .val (.int vp), .val (.int vq), .val (.int vM), .val (.int vN), .val (.int vd), .val (.int ve), .val (.int vs), .unset, .unset, .unset] [(.int (6 : Int32)), (.int ve)])) (fun t k => XS.bipush X0.here hx rfl (hb hby at_130) k) ?_
    by_cases hcB : ve = (6 : Int32)
    · refine own_st (V := s₁.setTop (mkF m 135 #[.val (.int p1), .val (.int y), .val (.int va), .val (.int vb), .val (.int vc), .val (.int vk), .val (.int vp), .val (.int vq), .val (.int vM), .val (.int vN), .val (.int vd), .val (.int ve), .val (.int vs), .unset, .unset, .unset] [])) (fun t k => XS.icmpNo X0.here hx rfl (hb hby at_132) rfl (teq hcB).2 k) ?_
      refine own_st (V := s₁.setTop (mkF m 137 #[.val (.int p1), .val (.int y), .val (.int va), .val (.int vb), .val (.int vc), .val (.int vk), .val (.int vp), .val (.int vq), .val (.int vM), .val (.int vN), .val (.int vd), .val (.int ve), .val (.int vs), .unset, .unset, .unset] [(.int (28 : Int32))])) (fun t k => XS.bipush X0.here hx rfl (hb hby at_135) k) ?_
      refine own_st (V := s₁.setTop (mkF m 139 #[.val (.int p1), .val (.int y), .val (.int va), .val (.int vb), .val (.int vc), .val (.int vk), .val (.int vp), .val (.int vq), .val (.int vM), .val (.int vN), .val (.int vd), .val (.int ve), .val (.int (28 : Int32)), .unset, .unset, .unset] [])) (fun t k => XS.istore X0.here hx rfl (hb hby at_137) rfl (l' := #[.val (.int p1), .val (.int y), .val (.int va), .val (.int vb), .val (.int vc), .val (.int vk), .val (.int vp), .val (.int vq), .val (.int vM), .val (.int vN), .val (.int vd), .val (.int ve), .val (.int (28 : Int32)), .unset, .unset, .unset]) rfl k) ?_
      refine own_st (V := s₁.setTop (mkF m 176 #[.val (.int p1), .val (.int y), .val (.int va), .val (.int vb), .val (.int vc), .val (.int vk), .val (.int vp), .val (.int vq), .val (.int vM), .val (.int vN), .val (.int vd), .val (.int ve), .val (.int (28 : Int32)), .unset, .unset, .unset] [])) (fun t k => XS.goto X0.here hx rfl (pc0 := 139) (pc' := 176) rfl (hb hby at_139) (by decide) (by decide) k) ?_
      have i_hcA : vd.toInt = 29 := own_ieq (by decide) hcA
      have i_hcB : ve.toInt = 6 := own_ieq (by decide) hcB
      have hS : own_ih y.toInt + own_il y.toInt - 7 * own_im y.toInt = 28 := LF.1 ⟨i_hcA, i_hcB⟩
      clear LF
      refine own_st (V := s₁.setTop (mkF m 178 #[.val (.int p1), .val (.int y), .val (.int va), .val (.int vb), .val (.int vc), .val (.int vk), .val (.int vp), .val (.int vq), .val (.int vM), .val (.int vN), .val (.int vd), .val (.int ve), .val (.int (28 : Int32)), .unset, .unset, .unset] [(.int (28 : Int32))])) (fun t k => XS.iload X0.here hx rfl (hb hby at_176) rfl k) ?_
      refine own_st (V := s₁.setTop (mkF m 180 #[.val (.int p1), .val (.int y), .val (.int va), .val (.int vb), .val (.int vc), .val (.int vk), .val (.int vp), .val (.int vq), .val (.int vM), .val (.int vN), .val (.int vd), .val (.int ve), .val (.int (28 : Int32)), .unset, .unset, .unset] [(.int (11 : Int32)), (.int (28 : Int32))])) (fun t k => XS.bipush X0.here hx rfl (hb hby at_178) k) ?_
      refine own_st (V := s₁.setTop (mkF m 196 #[.val (.int p1), .val (.int y), .val (.int va), .val (.int vb), .val (.int vc), .val (.int vk), .val (.int vp), .val (.int vq), .val (.int vM), .val (.int vN), .val (.int vd), .val (.int ve), .val (.int (28 : Int32)), .unset, .unset, .unset] [])) (fun t k => XS.icmpYes X0.here hx rfl (pc0 := 180) (pc' := 196) rfl (hb hby at_180) rfl (tlt (by decide : (11 : Int32) < (28 : Int32))).2.2.1 (by decide) (by decide) k) ?_
      refine own_st (V := s₁.setTop (mkF m 197 #[.val (.int p1), .val (.int y), .val (.int va), .val (.int vb), .val (.int vc), .val (.int vk), .val (.int vp), .val (.int vq), .val (.int vM), .val (.int vN), .val (.int vd), .val (.int ve), .val (.int (28 : Int32)), .unset, .unset, .unset] [(.int (4 : Int32))])) (fun t k => XS.iconst X0.here hx rfl (hb hby at_196) k) ?_
      refine own_st (V := s₁.setTop (mkF m 199 #[.val (.int p1), .val (.int y), .val (.int va), .val (.int vb), .val (.int vc), .val (.int vk), .val (.int vp), .val (.int vq), .val (.int vM), .val (.int vN), .val (.int vd), .val (.int ve), .val (.int (28 : Int32)), .val (.int (4 : Int32)), .unset, .unset] [])) (fun t k => XS.istore X0.here hx rfl (hb hby at_197) rfl (l' := #[.val (.int p1), .val (.int y), .val (.int va), .val (.int vb), .val (.int vc), .val (.int vk), .val (.int vp), .val (.int vq), .val (.int vM), .val (.int vN), .val (.int vd), .val (.int ve), .val (.int (28 : Int32)), .val (.int (4 : Int32)), .unset, .unset]) rfl k) ?_
      refine own_st (V := s₁.setTop (mkF m 201 #[.val (.int p1), .val (.int y), .val (.int va), .val (.int vb), .val (.int vc), .val (.int vk), .val (.int vp), .val (.int vq), .val (.int vM), .val (.int vN), .val (.int vd), .val (.int ve), .val (.int (28 : Int32)), .val (.int (4 : Int32)), .unset, .unset] [(.int (28 : Int32))])) (fun t k => XS.iload X0.here hx rfl (hb hby at_199) rfl k) ?_
      refine own_st (V := s₁.setTop (mkF m 203 #[.val (.int p1), .val (.int y), .val (.int va), .val (.int vb), .val (.int vc), .val (.int vk), .val (.int vp), .val (.int vq), .val (.int vM), .val (.int vN), .val (.int vd), .val (.int ve), .val (.int (28 : Int32)), .val (.int (4 : Int32)), .unset, .unset] [(.int (11 : Int32)), (.int (28 : Int32))])) (fun t k => XS.bipush X0.here hx rfl (hb hby at_201) k) ?_
      refine own_st (V := s₁.setTop (mkF m 204 #[.val (.int p1), .val (.int y), .val (.int va), .val (.int vb), .val (.int vc), .val (.int vk), .val (.int vp), .val (.int vq), .val (.int vM), .val (.int vN), .val (.int vd), .val (.int ve), .val (.int (28 : Int32)), .val (.int (4 : Int32)), .unset, .unset] [(.int ((28 : Int32) - (11 : Int32)))])) (fun t k => XS.isub X0.here hx rfl (hb hby at_203) rfl k) ?_
      refine own_st (V := s₁.setTop (mkF m 206 #[.val (.int p1), .val (.int y), .val (.int va), .val (.int vb), .val (.int vc), .val (.int vk), .val (.int vp), .val (.int vq), .val (.int vM), .val (.int vN), .val (.int vd), .val (.int ve), .val (.int (28 : Int32)), .val (.int (4 : Int32)), .val (.int ((28 : Int32) - (11 : Int32))), .unset] [])) (fun t k => XS.istore X0.here hx rfl (hb hby at_204) rfl (l' := #[.val (.int p1), .val (.int y), .val (.int va), .val (.int vb), .val (.int vc), .val (.int vk), .val (.int vp), .val (.int vq), .val (.int vM), .val (.int vN), .val (.int vd), .val (.int ve), .val (.int (28 : Int32)), .val (.int (4 : Int32)), .val (.int ((28 : Int32) - (11 : Int32))), .unset]) rfl k) ?_
      refine own_st (V := s₁.setTop (mkF m 207 #[.val (.int p1), .val (.int y), .val (.int va), .val (.int vb), .val (.int vc), .val (.int vk), .val (.int vp), .val (.int vq), .val (.int vM), .val (.int vN), .val (.int vd), .val (.int ve), .val (.int (28 : Int32)), .val (.int (4 : Int32)), .val (.int ((28 : Int32) - (11 : Int32))), .unset] [(.int y)])) (fun t k => XS.iloadN X0.here hx rfl (hb hby at_206) rfl k) ?_
      obtain ⟨_, _, ⟨T93, L93, k93, n93⟩, -, X93, hSi93, hgr93, ⟨Lc93, hQ93, l93, y93, z93⟩, st93⟩ := Jvm.RoadKit.callSS X0 hx (y := (⟨"com/example/notewright/notewright/Holidays", "goodFriday", "(I)Ljava/time/LocalDate;"⟩ : MethodName)) hown (mvT hZ (hw _ (List.mem_of_getElem? (i := 2) rfl))) (mvT hZ (hw _ (List.mem_of_getElem? (i := 3) rfl))) (mvT hZ (hw _ (List.mem_of_getElem? (i := 4) rfl))) (mvT hZ (hw _ (List.mem_of_getElem? (i := 5) rfl))) (by decide) (backOfS (W := 0) (own_gf l Z a0 hw [] y cy ry cd rd ce re mm iso h0 n0 Z0 Od Wd hy0 hy1) hZ (hw _ (List.mem_of_getElem? (i := 5) rfl)) (hw _ (List.mem_of_getElem? (i := 4) rfl)) (by decide) (by decide)) (g := (mkF m 207 #[.val (.int p1), .val (.int y), .val (.int va), .val (.int vb), .val (.int vc), .val (.int vk), .val (.int vp), .val (.int vq), .val (.int vM), .val (.int vN), .val (.int vd), .val (.int ve), .val (.int (28 : Int32)), .val (.int (4 : Int32)), .val (.int ((28 : Int32) - (11 : Int32))), .unset] [(.int y)])) rfl (by rw [hml]; rfl) (argsL := [(.int y)]) (rest := []) (lenOf own_pd13 rfl) rfl (by show 2 * 0 + _ ≤ _; exact Nat.le_of_eq rfl) (hb hby at_207) (fun _ _ => ⟨rfl, e0, (by decide : 0 + 5 ≤ _), (by decide : 0 + 33 ≤ _)⟩)
      dsimp only [Pt.U, Pt.locs, Pt.cells, Pt.slots] at X93 l93 y93 z93 st93 hQ93
      subst l93 y93 z93
      dsimp only [Pt.U] at hSi93 hgr93
      obtain ⟨d93, r93, mo93, rfl, N93q, K93, Ex93_q, Fq93_0, Fq93_1, Fq93_2, hA93, hB93⟩ := hQ93
      have N93 := Fr.app N0 N93q
      have Z0_93 : n0 ≤ T93.heap.size := Nat.le_trans Z0 K93.1
      obtain ⟨rfl, hrr⟩ := hB93 (by rw [hS]; decide)
      rw [hS] at hrr
      have Od93 := Od.keep K93 all0
      have hZ_93 : Z.Warmed39 (s.setVm T93.vm).vm := State.Warmed39.trans hZ hSi93.1
      have hown_93 : (s.setVm T93.vm).vm.findClass "com/example/notewright/notewright/HolidaysGoodFridayPinLaw" = some m.cls := by rw [show (s.setVm T93.vm).vm = T93.vm from rfl, hSi93.1.alike.findClass]; exact hown
      have X93 : Stand p l e _ (s.setVm T93.vm) m _ below meth c T93 _ _ _ := X93
      have kz_93 : T93.heap.size ≤ T93.heap.size := Nat.le_refl _
      refine own_st (V := T93.setTop (mkF m 210 #[.val (.int p1), .val (.int y), .val (.int va), .val (.int vb), .val (.int vc), .val (.int vk), .val (.int vp), .val (.int vq), .val (.int vM), .val (.int vN), .val (.int vd), .val (.int ve), .val (.int (28 : Int32)), .val (.int (4 : Int32)), .val (.int ((28 : Int32) - (11 : Int32))), .unset] [(.ref d93)])) (fun t k => st93.trans k) ?_
      refine own_st (V := T93.setTop (mkF m 212 #[.val (.int p1), .val (.int y), .val (.int va), .val (.int vb), .val (.int vc), .val (.int vk), .val (.int vp), .val (.int vq), .val (.int vM), .val (.int vN), .val (.int vd), .val (.int ve), .val (.int (28 : Int32)), .val (.int (4 : Int32)), .val (.int ((28 : Int32) - (11 : Int32))), .val (.ref d93)] [])) (fun t k => XS.astore X93.here hx rfl (hb hby at_210) rfl rfl (l' := #[.val (.int p1), .val (.int y), .val (.int va), .val (.int vb), .val (.int vc), .val (.int vk), .val (.int vp), .val (.int vq), .val (.int vM), .val (.int vN), .val (.int vd), .val (.int ve), .val (.int (28 : Int32)), .val (.int (4 : Int32)), .val (.int ((28 : Int32) - (11 : Int32))), .val (.ref d93)]) rfl k) ?_
      refine own_st (V := T93.setTop (mkF m 214 #[.val (.int p1), .val (.int y), .val (.int va), .val (.int vb), .val (.int vc), .val (.int vk), .val (.int vp), .val (.int vq), .val (.int vM), .val (.int vN), .val (.int vd), .val (.int ve), .val (.int (28 : Int32)), .val (.int (4 : Int32)), .val (.int ((28 : Int32) - (11 : Int32))), .val (.ref d93)] [(.ref d93)])) (fun t k => XS.aload X93.here hx rfl (hb hby at_212) rfl rfl k) ?_
      obtain ⟨cq94, kq94, q94a, q94b, q94c⟩ := isOf hZ_93 rfl Ex93_q
      obtain ⟨_, _, ⟨T94, L94, k94, n94⟩, -, X94, ⟨Lc94, hQ94, l94, y94, z94⟩, st94⟩ := X93.virtualBack hx (y := (⟨"java/time/LocalDate", "getYear", "()I"⟩ : MethodName)) (z := (⟨"java/time/LocalDate", "getYear", "()I"⟩ : MethodName)) hown_93 (mvT hZ_93 (hw _ (List.mem_of_getElem? (i := 116) rfl))) (mvT hZ_93 (hw _ (List.mem_of_getElem? (i := 117) rfl))) (notFace_of_selects (args := #[]) (mvT hZ_93 (hw _ (List.mem_of_getElem? (i := 119) rfl)))) (mvT hZ_93 (hw _ (List.mem_of_getElem? (i := 119) rfl))) (mvT hZ_93 (hw _ (List.mem_of_getElem? (i := 118) rfl))) (by decide) (backOf (W := 0) (own_gy l Z a0 hw [] d93 y T93.heap n0 Z0_93 Fq93_0) hZ_93 (hw _ (List.mem_of_getElem? (i := 120) rfl)) (hw _ (List.mem_of_getElem? (i := 10) rfl)) (by decide) (by decide)) q94a q94c (g := (mkF m 214 #[.val (.int p1), .val (.int y), .val (.int va), .val (.int vb), .val (.int vc), .val (.int vk), .val (.int vp), .val (.int vq), .val (.int vM), .val (.int vN), .val (.int vd), .val (.int ve), .val (.int (28 : Int32)), .val (.int (4 : Int32)), .val (.int ((28 : Int32) - (11 : Int32))), .val (.ref d93)] [(.ref d93)])) rfl (by rw [hml]; rfl) (Steps.refl _) (argsL := []) (rest := []) (lenOf own_pd4 rfl) rfl (by show 2 * 0 + _ ≤ _; exact Nat.le_of_eq rfl) (hb hby at_214) (fun _ _ => ⟨rfl, rfl, (by decide : 5 + 0 ≤ _), (by decide : 33 + 0 ≤ _)⟩)
      dsimp only [Pt.U, Pt.locs, Pt.cells, Pt.slots] at X94 l94 y94 z94 st94 hQ94
      subst l94 y94 z94
      obtain ⟨rfl, N94q, e94⟩ := hQ94
      have N94 := Fr.app N93 N94q
      refine own_st (V := T94.setTop (mkF m 217 #[.val (.int p1), .val (.int y), .val (.int va), .val (.int vb), .val (.int vc), .val (.int vk), .val (.int vp), .val (.int vq), .val (.int vM), .val (.int vN), .val (.int vd), .val (.int ve), .val (.int (28 : Int32)), .val (.int (4 : Int32)), .val (.int ((28 : Int32) - (11 : Int32))), .val (.ref d93)] [(.int y)])) (fun t k => st94.trans k) ?_
      refine own_st (V := T94.setTop (mkF m 218 #[.val (.int p1), .val (.int y), .val (.int va), .val (.int vb), .val (.int vc), .val (.int vk), .val (.int vp), .val (.int vq), .val (.int vM), .val (.int vN), .val (.int vd), .val (.int ve), .val (.int (28 : Int32)), .val (.int (4 : Int32)), .val (.int ((28 : Int32) - (11 : Int32))), .val (.ref d93)] [(.int y), (.int y)])) (fun t k => XS.iloadN X94.here hx rfl (hb hby at_217) rfl k) ?_
      refine own_st (V := T94.setTop (mkF m 221 #[.val (.int p1), .val (.int y), .val (.int va), .val (.int vb), .val (.int vc), .val (.int vk), .val (.int vp), .val (.int vq), .val (.int vM), .val (.int vN), .val (.int vd), .val (.int ve), .val (.int (28 : Int32)), .val (.int (4 : Int32)), .val (.int ((28 : Int32) - (11 : Int32))), .val (.ref d93)] [])) (fun t k => XS.icmpNo X94.here hx rfl (hb hby at_218) rfl (teq rfl).2 k) ?_
      refine own_st (V := T94.setTop (mkF m 223 #[.val (.int p1), .val (.int y), .val (.int va), .val (.int vb), .val (.int vc), .val (.int vk), .val (.int vp), .val (.int vq), .val (.int vM), .val (.int vN), .val (.int vd), .val (.int ve), .val (.int (28 : Int32)), .val (.int (4 : Int32)), .val (.int ((28 : Int32) - (11 : Int32))), .val (.ref d93)] [(.ref d93)])) (fun t k => XS.aload X94.here hx rfl (hb hby at_221) rfl rfl k) ?_
      obtain ⟨cq95, kq95, q95a, q95b, q95c⟩ := isOf hZ_93 e94 Ex93_q
      obtain ⟨_, _, ⟨T95, L95, k95, n95⟩, -, X95, ⟨Lc95, hQ95, l95, y95, z95⟩, st95⟩ := X94.virtualBack hx (y := (⟨"java/time/LocalDate", "getMonthValue", "()I"⟩ : MethodName)) (z := (⟨"java/time/LocalDate", "getMonthValue", "()I"⟩ : MethodName)) hown_93 (mvT hZ_93 (hw _ (List.mem_of_getElem? (i := 121) rfl))) (mvT hZ_93 (hw _ (List.mem_of_getElem? (i := 122) rfl))) (notFace_of_selects (args := #[]) (mvT hZ_93 (hw _ (List.mem_of_getElem? (i := 124) rfl)))) (mvT hZ_93 (hw _ (List.mem_of_getElem? (i := 124) rfl))) (mvT hZ_93 (hw _ (List.mem_of_getElem? (i := 123) rfl))) (by decide) (backOf (W := 0) (own_gm l Z a0 hw [] d93 (4 : Int32) T93.heap n0 Z0_93 Fq93_1) hZ_93 (hw _ (List.mem_of_getElem? (i := 125) rfl)) (hw _ (List.mem_of_getElem? (i := 10) rfl)) (by decide) (by decide)) q95a q95c (g := (mkF m 223 #[.val (.int p1), .val (.int y), .val (.int va), .val (.int vb), .val (.int vc), .val (.int vk), .val (.int vp), .val (.int vq), .val (.int vM), .val (.int vN), .val (.int vd), .val (.int ve), .val (.int (28 : Int32)), .val (.int (4 : Int32)), .val (.int ((28 : Int32) - (11 : Int32))), .val (.ref d93)] [(.ref d93)])) rfl (by rw [hml]; rfl) (Steps.refl _) (argsL := []) (rest := []) (lenOf own_pd4 rfl) rfl (by show 2 * 0 + _ ≤ _; exact Nat.le_of_eq rfl) (hb hby at_223) (fun _ _ => ⟨rfl, e94, (by decide : 5 + 0 ≤ _), (by decide : 33 + 0 ≤ _)⟩)
      dsimp only [Pt.U, Pt.locs, Pt.cells, Pt.slots] at X95 l95 y95 z95 st95 hQ95
      subst l95 y95 z95
      obtain ⟨rfl, N95q, e95⟩ := hQ95
      have N95 := Fr.app N94 N95q
      refine own_st (V := T95.setTop (mkF m 226 #[.val (.int p1), .val (.int y), .val (.int va), .val (.int vb), .val (.int vc), .val (.int vk), .val (.int vp), .val (.int vq), .val (.int vM), .val (.int vN), .val (.int vd), .val (.int ve), .val (.int (28 : Int32)), .val (.int (4 : Int32)), .val (.int ((28 : Int32) - (11 : Int32))), .val (.ref d93)] [(.int (4 : Int32))])) (fun t k => st95.trans k) ?_
      refine own_st (V := T95.setTop (mkF m 228 #[.val (.int p1), .val (.int y), .val (.int va), .val (.int vb), .val (.int vc), .val (.int vk), .val (.int vp), .val (.int vq), .val (.int vM), .val (.int vN), .val (.int vd), .val (.int ve), .val (.int (28 : Int32)), .val (.int (4 : Int32)), .val (.int ((28 : Int32) - (11 : Int32))), .val (.ref d93)] [(.int (4 : Int32)), (.int (4 : Int32))])) (fun t k => XS.iload X95.here hx rfl (hb hby at_226) rfl k) ?_
      refine own_st (V := T95.setTop (mkF m 231 #[.val (.int p1), .val (.int y), .val (.int va), .val (.int vb), .val (.int vc), .val (.int vk), .val (.int vp), .val (.int vq), .val (.int vM), .val (.int vN), .val (.int vd), .val (.int ve), .val (.int (28 : Int32)), .val (.int (4 : Int32)), .val (.int ((28 : Int32) - (11 : Int32))), .val (.ref d93)] [])) (fun t k => XS.icmpNo X95.here hx rfl (hb hby at_228) rfl (teq (by decide : (4 : Int32) = (4 : Int32))).2 k) ?_
      refine own_st (V := T95.setTop (mkF m 233 #[.val (.int p1), .val (.int y), .val (.int va), .val (.int vb), .val (.int vc), .val (.int vk), .val (.int vp), .val (.int vq), .val (.int vM), .val (.int vN), .val (.int vd), .val (.int ve), .val (.int (28 : Int32)), .val (.int (4 : Int32)), .val (.int ((28 : Int32) - (11 : Int32))), .val (.ref d93)] [(.ref d93)])) (fun t k => XS.aload X95.here hx rfl (hb hby at_231) rfl rfl k) ?_
      obtain ⟨cq96, kq96, q96a, q96b, q96c⟩ := isOf hZ_93 e95 Ex93_q
      obtain ⟨_, _, ⟨T96, L96, k96, n96⟩, -, X96, ⟨Lc96, hQ96, l96, y96, z96⟩, st96⟩ := X95.virtualBack hx (y := (⟨"java/time/LocalDate", "getDayOfMonth", "()I"⟩ : MethodName)) (z := (⟨"java/time/LocalDate", "getDayOfMonth", "()I"⟩ : MethodName)) hown_93 (mvT hZ_93 (hw _ (List.mem_of_getElem? (i := 126) rfl))) (mvT hZ_93 (hw _ (List.mem_of_getElem? (i := 127) rfl))) (notFace_of_selects (args := #[]) (mvT hZ_93 (hw _ (List.mem_of_getElem? (i := 129) rfl)))) (mvT hZ_93 (hw _ (List.mem_of_getElem? (i := 129) rfl))) (mvT hZ_93 (hw _ (List.mem_of_getElem? (i := 128) rfl))) (by decide) (backOf (W := 0) (own_gd l Z a0 hw [] d93 r93 T93.heap n0 Z0_93 Fq93_2) hZ_93 (hw _ (List.mem_of_getElem? (i := 130) rfl)) (hw _ (List.mem_of_getElem? (i := 10) rfl)) (by decide) (by decide)) q96a q96c (g := (mkF m 233 #[.val (.int p1), .val (.int y), .val (.int va), .val (.int vb), .val (.int vc), .val (.int vk), .val (.int vp), .val (.int vq), .val (.int vM), .val (.int vN), .val (.int vd), .val (.int ve), .val (.int (28 : Int32)), .val (.int (4 : Int32)), .val (.int ((28 : Int32) - (11 : Int32))), .val (.ref d93)] [(.ref d93)])) rfl (by rw [hml]; rfl) (Steps.refl _) (argsL := []) (rest := []) (lenOf own_pd4 rfl) rfl (by show 2 * 0 + _ ≤ _; exact Nat.le_of_eq rfl) (hb hby at_233) (fun _ _ => ⟨rfl, e95, (by decide : 5 + 0 ≤ _), (by decide : 33 + 0 ≤ _)⟩)
      dsimp only [Pt.U, Pt.locs, Pt.cells, Pt.slots] at X96 l96 y96 z96 st96 hQ96
      subst l96 y96 z96
      obtain ⟨rfl, N96q, e96⟩ := hQ96
      have N96 := Fr.app N95 N96q
      refine own_st (V := T96.setTop (mkF m 236 #[.val (.int p1), .val (.int y), .val (.int va), .val (.int vb), .val (.int vc), .val (.int vk), .val (.int vp), .val (.int vq), .val (.int vM), .val (.int vN), .val (.int vd), .val (.int ve), .val (.int (28 : Int32)), .val (.int (4 : Int32)), .val (.int ((28 : Int32) - (11 : Int32))), .val (.ref d93)] [(.int r93)])) (fun t k => st96.trans k) ?_
      refine own_st (V := T96.setTop (mkF m 238 #[.val (.int p1), .val (.int y), .val (.int va), .val (.int vb), .val (.int vc), .val (.int vk), .val (.int vp), .val (.int vq), .val (.int vM), .val (.int vN), .val (.int vd), .val (.int ve), .val (.int (28 : Int32)), .val (.int (4 : Int32)), .val (.int ((28 : Int32) - (11 : Int32))), .val (.ref d93)] [(.int ((28 : Int32) - (11 : Int32))), (.int r93)])) (fun t k => XS.iload X96.here hx rfl (hb hby at_236) rfl k) ?_
      refine own_st (V := T96.setTop (mkF m 241 #[.val (.int p1), .val (.int y), .val (.int va), .val (.int vb), .val (.int vc), .val (.int vk), .val (.int vp), .val (.int vq), .val (.int vM), .val (.int vN), .val (.int vd), .val (.int ve), .val (.int (28 : Int32)), .val (.int (4 : Int32)), .val (.int ((28 : Int32) - (11 : Int32))), .val (.ref d93)] [])) (fun t k => XS.icmpNo X96.here hx rfl (hb hby at_238) rfl (teq (Int32.toInt_inj.mp (by rw [hrr]; decide))).2 k) ?_
      refine own_st (V := T96.setTop (mkF m 242 #[.val (.int p1), .val (.int y), .val (.int va), .val (.int vb), .val (.int vc), .val (.int vk), .val (.int vp), .val (.int vq), .val (.int vM), .val (.int vN), .val (.int vd), .val (.int ve), .val (.int (28 : Int32)), .val (.int (4 : Int32)), .val (.int ((28 : Int32) - (11 : Int32))), .val (.ref d93)] [(.int (1 : Int32))])) (fun t k => XS.iconst X96.here hx rfl (hb hby at_241) k) ?_
      refine own_st (V := T96.setTop (mkF m 246 #[.val (.int p1), .val (.int y), .val (.int va), .val (.int vb), .val (.int vc), .val (.int vk), .val (.int vp), .val (.int vq), .val (.int vM), .val (.int vN), .val (.int vd), .val (.int ve), .val (.int (28 : Int32)), .val (.int (4 : Int32)), .val (.int ((28 : Int32) - (11 : Int32))), .val (.ref d93)] [(.int (1 : Int32))])) (fun t k => XS.goto X96.here hx rfl (pc0 := 242) (pc' := 246) rfl (hb hby at_242) (by decide) (by decide) k) ?_
      exact own_retW (s := s) hSi93 (by rw [e96]; exact kz_93) X96 hx hlk Bd.returns (by decide +kernel) (Or.inl ⟨rfl, by simp, _, rfl⟩) (hb hby at_246) (by decide) (by decide) ⟨rfl, N96⟩
    · refine own_st (V := s₁.setTop (mkF m 142 #[.val (.int p1), .val (.int y), .val (.int va), .val (.int vb), .val (.int vc), .val (.int vk), .val (.int vp), .val (.int vq), .val (.int vM), .val (.int vN), .val (.int vd), .val (.int ve), .val (.int vs), .unset, .unset, .unset] [])) (fun t k => XS.icmpYes X0.here hx rfl (pc0 := 132) (pc' := 142) rfl (hb hby at_132) rfl (feq hcB).2 (by decide) (by decide) k) ?_
      refine own_st (V := s₁.setTop (mkF m 144 #[.val (.int p1), .val (.int y), .val (.int va), .val (.int vb), .val (.int vc), .val (.int vk), .val (.int vp), .val (.int vq), .val (.int vM), .val (.int vN), .val (.int vd), .val (.int ve), .val (.int vs), .unset, .unset, .unset] [(.int vd)])) (fun t k => XS.iload X0.here hx rfl (hb hby at_142) rfl k) ?_
      refine own_st (V := s₁.setTop (mkF m 146 #[.val (.int p1), .val (.int y), .val (.int va), .val (.int vb), .val (.int vc), .val (.int vk), .val (.int vp), .val (.int vq), .val (.int vM), .val (.int vN), .val (.int vd), .val (.int ve), .val (.int vs), .unset, .unset, .unset] [(.int (28 : Int32)), (.int vd)])) (fun t k => XS.bipush X0.here hx rfl (hb hby at_144) k) ?_
      refine own_st (V := s₁.setTop (mkF m 176 #[.val (.int p1), .val (.int y), .val (.int va), .val (.int vb), .val (.int vc), .val (.int vk), .val (.int vp), .val (.int vq), .val (.int vM), .val (.int vN), .val (.int vd), .val (.int ve), .val (.int vs), .unset, .unset, .unset] [])) (fun t k => XS.icmpYes X0.here hx rfl (pc0 := 146) (pc' := 176) rfl (hb hby at_146) rfl (feq (by rw [hcA]; decide)).2 (by decide) (by decide) k) ?_
      have i_hcA : vd.toInt = 29 := own_ieq (by decide) hcA
      have i_hcB : ¬ (ve.toInt = 6) := own_ine (by decide) hcB
      have hS : own_ih y.toInt + own_il y.toInt - 7 * own_im y.toInt = vs.toInt := (LF.2.2 (fun q => i_hcB q.2) (fun q => absurd (q.1.symm.trans i_hcA) (by decide))).trans h_vs.symm
      clear LF
      refine own_st (V := s₁.setTop (mkF m 178 #[.val (.int p1), .val (.int y), .val (.int va), .val (.int vb), .val (.int vc), .val (.int vk), .val (.int vp), .val (.int vq), .val (.int vM), .val (.int vN), .val (.int vd), .val (.int ve), .val (.int vs), .unset, .unset, .unset] [(.int vs)])) (fun t k => XS.iload X0.here hx rfl (hb hby at_176) rfl k) ?_
      refine own_st (V := s₁.setTop (mkF m 180 #[.val (.int p1), .val (.int y), .val (.int va), .val (.int vb), .val (.int vc), .val (.int vk), .val (.int vp), .val (.int vq), .val (.int vM), .val (.int vN), .val (.int vd), .val (.int ve), .val (.int vs), .unset, .unset, .unset] [(.int (11 : Int32)), (.int vs)])) (fun t k => XS.bipush X0.here hx rfl (hb hby at_178) k) ?_
      by_cases hcS : (11 : Int32) < vs
      · refine own_st (V := s₁.setTop (mkF m 196 #[.val (.int p1), .val (.int y), .val (.int va), .val (.int vb), .val (.int vc), .val (.int vk), .val (.int vp), .val (.int vq), .val (.int vM), .val (.int vN), .val (.int vd), .val (.int ve), .val (.int vs), .unset, .unset, .unset] [])) (fun t k => XS.icmpYes X0.here hx rfl (pc0 := 180) (pc' := 196) rfl (hb hby at_180) rfl (tlt hcS).2.2.1 (by decide) (by decide) k) ?_
        refine own_st (V := s₁.setTop (mkF m 197 #[.val (.int p1), .val (.int y), .val (.int va), .val (.int vb), .val (.int vc), .val (.int vk), .val (.int vp), .val (.int vq), .val (.int vM), .val (.int vN), .val (.int vd), .val (.int ve), .val (.int vs), .unset, .unset, .unset] [(.int (4 : Int32))])) (fun t k => XS.iconst X0.here hx rfl (hb hby at_196) k) ?_
        refine own_st (V := s₁.setTop (mkF m 199 #[.val (.int p1), .val (.int y), .val (.int va), .val (.int vb), .val (.int vc), .val (.int vk), .val (.int vp), .val (.int vq), .val (.int vM), .val (.int vN), .val (.int vd), .val (.int ve), .val (.int vs), .val (.int (4 : Int32)), .unset, .unset] [])) (fun t k => XS.istore X0.here hx rfl (hb hby at_197) rfl (l' := #[.val (.int p1), .val (.int y), .val (.int va), .val (.int vb), .val (.int vc), .val (.int vk), .val (.int vp), .val (.int vq), .val (.int vM), .val (.int vN), .val (.int vd), .val (.int ve), .val (.int vs), .val (.int (4 : Int32)), .unset, .unset]) rfl k) ?_
        refine own_st (V := s₁.setTop (mkF m 201 #[.val (.int p1), .val (.int y), .val (.int va), .val (.int vb), .val (.int vc), .val (.int vk), .val (.int vp), .val (.int vq), .val (.int vM), .val (.int vN), .val (.int vd), .val (.int ve), .val (.int vs), .val (.int (4 : Int32)), .unset, .unset] [(.int vs)])) (fun t k => XS.iload X0.here hx rfl (hb hby at_199) rfl k) ?_
        refine own_st (V := s₁.setTop (mkF m 203 #[.val (.int p1), .val (.int y), .val (.int va), .val (.int vb), .val (.int vc), .val (.int vk), .val (.int vp), .val (.int vq), .val (.int vM), .val (.int vN), .val (.int vd), .val (.int ve), .val (.int vs), .val (.int (4 : Int32)), .unset, .unset] [(.int (11 : Int32)), (.int vs)])) (fun t k => XS.bipush X0.here hx rfl (hb hby at_201) k) ?_
        refine own_st (V := s₁.setTop (mkF m 204 #[.val (.int p1), .val (.int y), .val (.int va), .val (.int vb), .val (.int vc), .val (.int vk), .val (.int vp), .val (.int vq), .val (.int vM), .val (.int vN), .val (.int vd), .val (.int ve), .val (.int vs), .val (.int (4 : Int32)), .unset, .unset] [(.int (vs - (11 : Int32)))])) (fun t k => XS.isub X0.here hx rfl (hb hby at_203) rfl k) ?_
        refine own_st (V := s₁.setTop (mkF m 206 #[.val (.int p1), .val (.int y), .val (.int va), .val (.int vb), .val (.int vc), .val (.int vk), .val (.int vp), .val (.int vq), .val (.int vM), .val (.int vN), .val (.int vd), .val (.int ve), .val (.int vs), .val (.int (4 : Int32)), .val (.int (vs - (11 : Int32))), .unset] [])) (fun t k => XS.istore X0.here hx rfl (hb hby at_204) rfl (l' := #[.val (.int p1), .val (.int y), .val (.int va), .val (.int vb), .val (.int vc), .val (.int vk), .val (.int vp), .val (.int vq), .val (.int vM), .val (.int vN), .val (.int vd), .val (.int ve), .val (.int vs), .val (.int (4 : Int32)), .val (.int (vs - (11 : Int32))), .unset]) rfl k) ?_
        have i_S := own_i11 hcS
        refine own_st (V := s₁.setTop (mkF m 207 #[.val (.int p1), .val (.int y), .val (.int va), .val (.int vb), .val (.int vc), .val (.int vk), .val (.int vp), .val (.int vq), .val (.int vM), .val (.int vN), .val (.int vd), .val (.int ve), .val (.int vs), .val (.int (4 : Int32)), .val (.int (vs - (11 : Int32))), .unset] [(.int y)])) (fun t k => XS.iloadN X0.here hx rfl (hb hby at_206) rfl k) ?_
        obtain ⟨_, _, ⟨T97, L97, k97, n97⟩, -, X97, hSi97, hgr97, ⟨Lc97, hQ97, l97, y97, z97⟩, st97⟩ := Jvm.RoadKit.callSS X0 hx (y := (⟨"com/example/notewright/notewright/Holidays", "goodFriday", "(I)Ljava/time/LocalDate;"⟩ : MethodName)) hown (mvT hZ (hw _ (List.mem_of_getElem? (i := 2) rfl))) (mvT hZ (hw _ (List.mem_of_getElem? (i := 3) rfl))) (mvT hZ (hw _ (List.mem_of_getElem? (i := 4) rfl))) (mvT hZ (hw _ (List.mem_of_getElem? (i := 5) rfl))) (by decide) (backOfS (W := 0) (own_gf l Z a0 hw [] y cy ry cd rd ce re mm iso h0 n0 Z0 Od Wd hy0 hy1) hZ (hw _ (List.mem_of_getElem? (i := 5) rfl)) (hw _ (List.mem_of_getElem? (i := 4) rfl)) (by decide) (by decide)) (g := (mkF m 207 #[.val (.int p1), .val (.int y), .val (.int va), .val (.int vb), .val (.int vc), .val (.int vk), .val (.int vp), .val (.int vq), .val (.int vM), .val (.int vN), .val (.int vd), .val (.int ve), .val (.int vs), .val (.int (4 : Int32)), .val (.int (vs - (11 : Int32))), .unset] [(.int y)])) rfl (by rw [hml]; rfl) (argsL := [(.int y)]) (rest := []) (lenOf own_pd13 rfl) rfl (by show 2 * 0 + _ ≤ _; exact Nat.le_of_eq rfl) (hb hby at_207) (fun _ _ => ⟨rfl, e0, (by decide : 0 + 5 ≤ _), (by decide : 0 + 33 ≤ _)⟩)
        dsimp only [Pt.U, Pt.locs, Pt.cells, Pt.slots] at X97 l97 y97 z97 st97 hQ97
        subst l97 y97 z97
        dsimp only [Pt.U] at hSi97 hgr97
        obtain ⟨d97, r97, mo97, rfl, N97q, K97, Ex97_q, Fq97_0, Fq97_1, Fq97_2, hA97, hB97⟩ := hQ97
        have N97 := Fr.app N0 N97q
        have Z0_97 : n0 ≤ T97.heap.size := Nat.le_trans Z0 K97.1
        obtain ⟨rfl, hrr⟩ := hB97 (by rw [hS]; exact i_S)
        rw [hS] at hrr
        have Od97 := Od.keep K97 all0
        have hZ_97 : Z.Warmed39 (s.setVm T97.vm).vm := State.Warmed39.trans hZ hSi97.1
        have hown_97 : (s.setVm T97.vm).vm.findClass "com/example/notewright/notewright/HolidaysGoodFridayPinLaw" = some m.cls := by rw [show (s.setVm T97.vm).vm = T97.vm from rfl, hSi97.1.alike.findClass]; exact hown
        have X97 : Stand p l e _ (s.setVm T97.vm) m _ below meth c T97 _ _ _ := X97
        have kz_97 : T97.heap.size ≤ T97.heap.size := Nat.le_refl _
        refine own_st (V := T97.setTop (mkF m 210 #[.val (.int p1), .val (.int y), .val (.int va), .val (.int vb), .val (.int vc), .val (.int vk), .val (.int vp), .val (.int vq), .val (.int vM), .val (.int vN), .val (.int vd), .val (.int ve), .val (.int vs), .val (.int (4 : Int32)), .val (.int (vs - (11 : Int32))), .unset] [(.ref d97)])) (fun t k => st97.trans k) ?_
        refine own_st (V := T97.setTop (mkF m 212 #[.val (.int p1), .val (.int y), .val (.int va), .val (.int vb), .val (.int vc), .val (.int vk), .val (.int vp), .val (.int vq), .val (.int vM), .val (.int vN), .val (.int vd), .val (.int ve), .val (.int vs), .val (.int (4 : Int32)), .val (.int (vs - (11 : Int32))), .val (.ref d97)] [])) (fun t k => XS.astore X97.here hx rfl (hb hby at_210) rfl rfl (l' := #[.val (.int p1), .val (.int y), .val (.int va), .val (.int vb), .val (.int vc), .val (.int vk), .val (.int vp), .val (.int vq), .val (.int vM), .val (.int vN), .val (.int vd), .val (.int ve), .val (.int vs), .val (.int (4 : Int32)), .val (.int (vs - (11 : Int32))), .val (.ref d97)]) rfl k) ?_
        refine own_st (V := T97.setTop (mkF m 214 #[.val (.int p1), .val (.int y), .val (.int va), .val (.int vb), .val (.int vc), .val (.int vk), .val (.int vp), .val (.int vq), .val (.int vM), .val (.int vN), .val (.int vd), .val (.int ve), .val (.int vs), .val (.int (4 : Int32)), .val (.int (vs - (11 : Int32))), .val (.ref d97)] [(.ref d97)])) (fun t k => XS.aload X97.here hx rfl (hb hby at_212) rfl rfl k) ?_
        obtain ⟨cq98, kq98, q98a, q98b, q98c⟩ := isOf hZ_97 rfl Ex97_q
        obtain ⟨_, _, ⟨T98, L98, k98, n98⟩, -, X98, ⟨Lc98, hQ98, l98, y98, z98⟩, st98⟩ := X97.virtualBack hx (y := (⟨"java/time/LocalDate", "getYear", "()I"⟩ : MethodName)) (z := (⟨"java/time/LocalDate", "getYear", "()I"⟩ : MethodName)) hown_97 (mvT hZ_97 (hw _ (List.mem_of_getElem? (i := 116) rfl))) (mvT hZ_97 (hw _ (List.mem_of_getElem? (i := 117) rfl))) (notFace_of_selects (args := #[]) (mvT hZ_97 (hw _ (List.mem_of_getElem? (i := 119) rfl)))) (mvT hZ_97 (hw _ (List.mem_of_getElem? (i := 119) rfl))) (mvT hZ_97 (hw _ (List.mem_of_getElem? (i := 118) rfl))) (by decide) (backOf (W := 0) (own_gy l Z a0 hw [] d97 y T97.heap n0 Z0_97 Fq97_0) hZ_97 (hw _ (List.mem_of_getElem? (i := 120) rfl)) (hw _ (List.mem_of_getElem? (i := 10) rfl)) (by decide) (by decide)) q98a q98c (g := (mkF m 214 #[.val (.int p1), .val (.int y), .val (.int va), .val (.int vb), .val (.int vc), .val (.int vk), .val (.int vp), .val (.int vq), .val (.int vM), .val (.int vN), .val (.int vd), .val (.int ve), .val (.int vs), .val (.int (4 : Int32)), .val (.int (vs - (11 : Int32))), .val (.ref d97)] [(.ref d97)])) rfl (by rw [hml]; rfl) (Steps.refl _) (argsL := []) (rest := []) (lenOf own_pd4 rfl) rfl (by show 2 * 0 + _ ≤ _; exact Nat.le_of_eq rfl) (hb hby at_214) (fun _ _ => ⟨rfl, rfl, (by decide : 5 + 0 ≤ _), (by decide : 33 + 0 ≤ _)⟩)
        dsimp only [Pt.U, Pt.locs, Pt.cells, Pt.slots] at X98 l98 y98 z98 st98 hQ98
        subst l98 y98 z98
        obtain ⟨rfl, N98q, e98⟩ := hQ98
        have N98 := Fr.app N97 N98q
        refine own_st (V := T98.setTop (mkF m 217 #[.val (.int p1), .val (.int y), .val (.int va), .val (.int vb), .val (.int vc), .val (.int vk), .val (.int vp), .val (.int vq), .val (.int vM), .val (.int vN), .val (.int vd), .val (.int ve), .val (.int vs), .val (.int (4 : Int32)), .val (.int (vs - (11 : Int32))), .val (.ref d97)] [(.int y)])) (fun t k => st98.trans k) ?_
        refine own_st (V := T98.setTop (mkF m 218 #[.val (.int p1), .val (.int y), .val (.int va), .val (.int vb), .val (.int vc), .val (.int vk), .val (.int vp), .val (.int vq), .val (.int vM), .val (.int vN), .val (.int vd), .val (.int ve), .val (.int vs), .val (.int (4 : Int32)), .val (.int (vs - (11 : Int32))), .val (.ref d97)] [(.int y), (.int y)])) (fun t k => XS.iloadN X98.here hx rfl (hb hby at_217) rfl k) ?_
        refine own_st (V := T98.setTop (mkF m 221 #[.val (.int p1), .val (.int y), .val (.int va), .val (.int vb), .val (.int vc), .val (.int vk), .val (.int vp), .val (.int vq), .val (.int vM), .val (.int vN), .val (.int vd), .val (.int ve), .val (.int vs), .val (.int (4 : Int32)), .val (.int (vs - (11 : Int32))), .val (.ref d97)] [])) (fun t k => XS.icmpNo X98.here hx rfl (hb hby at_218) rfl (teq rfl).2 k) ?_
        refine own_st (V := T98.setTop (mkF m 223 #[.val (.int p1), .val (.int y), .val (.int va), .val (.int vb), .val (.int vc), .val (.int vk), .val (.int vp), .val (.int vq), .val (.int vM), .val (.int vN), .val (.int vd), .val (.int ve), .val (.int vs), .val (.int (4 : Int32)), .val (.int (vs - (11 : Int32))), .val (.ref d97)] [(.ref d97)])) (fun t k => XS.aload X98.here hx rfl (hb hby at_221) rfl rfl k) ?_
        obtain ⟨cq99, kq99, q99a, q99b, q99c⟩ := isOf hZ_97 e98 Ex97_q
        obtain ⟨_, _, ⟨T99, L99, k99, n99⟩, -, X99, ⟨Lc99, hQ99, l99, y99, z99⟩, st99⟩ := X98.virtualBack hx (y := (⟨"java/time/LocalDate", "getMonthValue", "()I"⟩ : MethodName)) (z := (⟨"java/time/LocalDate", "getMonthValue", "()I"⟩ : MethodName)) hown_97 (mvT hZ_97 (hw _ (List.mem_of_getElem? (i := 121) rfl))) (mvT hZ_97 (hw _ (List.mem_of_getElem? (i := 122) rfl))) (notFace_of_selects (args := #[]) (mvT hZ_97 (hw _ (List.mem_of_getElem? (i := 124) rfl)))) (mvT hZ_97 (hw _ (List.mem_of_getElem? (i := 124) rfl))) (mvT hZ_97 (hw _ (List.mem_of_getElem? (i := 123) rfl))) (by decide) (backOf (W := 0) (own_gm l Z a0 hw [] d97 (4 : Int32) T97.heap n0 Z0_97 Fq97_1) hZ_97 (hw _ (List.mem_of_getElem? (i := 125) rfl)) (hw _ (List.mem_of_getElem? (i := 10) rfl)) (by decide) (by decide)) q99a q99c (g := (mkF m 223 #[.val (.int p1), .val (.int y), .val (.int va), .val (.int vb), .val (.int vc), .val (.int vk), .val (.int vp), .val (.int vq), .val (.int vM), .val (.int vN), .val (.int vd), .val (.int ve), .val (.int vs), .val (.int (4 : Int32)), .val (.int (vs - (11 : Int32))), .val (.ref d97)] [(.ref d97)])) rfl (by rw [hml]; rfl) (Steps.refl _) (argsL := []) (rest := []) (lenOf own_pd4 rfl) rfl (by show 2 * 0 + _ ≤ _; exact Nat.le_of_eq rfl) (hb hby at_223) (fun _ _ => ⟨rfl, e98, (by decide : 5 + 0 ≤ _), (by decide : 33 + 0 ≤ _)⟩)
        dsimp only [Pt.U, Pt.locs, Pt.cells, Pt.slots] at X99 l99 y99 z99 st99 hQ99
        subst l99 y99 z99
        obtain ⟨rfl, N99q, e99⟩ := hQ99
        have N99 := Fr.app N98 N99q
        refine own_st (V := T99.setTop (mkF m 226 #[.val (.int p1), .val (.int y), .val (.int va), .val (.int vb), .val (.int vc), .val (.int vk), .val (.int vp), .val (.int vq), .val (.int vM), .val (.int vN), .val (.int vd), .val (.int ve), .val (.int vs), .val (.int (4 : Int32)), .val (.int (vs - (11 : Int32))), .val (.ref d97)] [(.int (4 : Int32))])) (fun t k => st99.trans k) ?_
        refine own_st (V := T99.setTop (mkF m 228 #[.val (.int p1), .val (.int y), .val (.int va), .val (.int vb), .val (.int vc), .val (.int vk), .val (.int vp), .val (.int vq), .val (.int vM), .val (.int vN), .val (.int vd), .val (.int ve), .val (.int vs), .val (.int (4 : Int32)), .val (.int (vs - (11 : Int32))), .val (.ref d97)] [(.int (4 : Int32)), (.int (4 : Int32))])) (fun t k => XS.iload X99.here hx rfl (hb hby at_226) rfl k) ?_
        refine own_st (V := T99.setTop (mkF m 231 #[.val (.int p1), .val (.int y), .val (.int va), .val (.int vb), .val (.int vc), .val (.int vk), .val (.int vp), .val (.int vq), .val (.int vM), .val (.int vN), .val (.int vd), .val (.int ve), .val (.int vs), .val (.int (4 : Int32)), .val (.int (vs - (11 : Int32))), .val (.ref d97)] [])) (fun t k => XS.icmpNo X99.here hx rfl (hb hby at_228) rfl (teq (by decide : (4 : Int32) = (4 : Int32))).2 k) ?_
        refine own_st (V := T99.setTop (mkF m 233 #[.val (.int p1), .val (.int y), .val (.int va), .val (.int vb), .val (.int vc), .val (.int vk), .val (.int vp), .val (.int vq), .val (.int vM), .val (.int vN), .val (.int vd), .val (.int ve), .val (.int vs), .val (.int (4 : Int32)), .val (.int (vs - (11 : Int32))), .val (.ref d97)] [(.ref d97)])) (fun t k => XS.aload X99.here hx rfl (hb hby at_231) rfl rfl k) ?_
        obtain ⟨cq100, kq100, q100a, q100b, q100c⟩ := isOf hZ_97 e99 Ex97_q
        obtain ⟨_, _, ⟨T100, L100, k100, n100⟩, -, X100, ⟨Lc100, hQ100, l100, y100, z100⟩, st100⟩ := X99.virtualBack hx (y := (⟨"java/time/LocalDate", "getDayOfMonth", "()I"⟩ : MethodName)) (z := (⟨"java/time/LocalDate", "getDayOfMonth", "()I"⟩ : MethodName)) hown_97 (mvT hZ_97 (hw _ (List.mem_of_getElem? (i := 126) rfl))) (mvT hZ_97 (hw _ (List.mem_of_getElem? (i := 127) rfl))) (notFace_of_selects (args := #[]) (mvT hZ_97 (hw _ (List.mem_of_getElem? (i := 129) rfl)))) (mvT hZ_97 (hw _ (List.mem_of_getElem? (i := 129) rfl))) (mvT hZ_97 (hw _ (List.mem_of_getElem? (i := 128) rfl))) (by decide) (backOf (W := 0) (own_gd l Z a0 hw [] d97 r97 T97.heap n0 Z0_97 Fq97_2) hZ_97 (hw _ (List.mem_of_getElem? (i := 130) rfl)) (hw _ (List.mem_of_getElem? (i := 10) rfl)) (by decide) (by decide)) q100a q100c (g := (mkF m 233 #[.val (.int p1), .val (.int y), .val (.int va), .val (.int vb), .val (.int vc), .val (.int vk), .val (.int vp), .val (.int vq), .val (.int vM), .val (.int vN), .val (.int vd), .val (.int ve), .val (.int vs), .val (.int (4 : Int32)), .val (.int (vs - (11 : Int32))), .val (.ref d97)] [(.ref d97)])) rfl (by rw [hml]; rfl) (Steps.refl _) (argsL := []) (rest := []) (lenOf own_pd4 rfl) rfl (by show 2 * 0 + _ ≤ _; exact Nat.le_of_eq rfl) (hb hby at_233) (fun _ _ => ⟨rfl, e99, (by decide : 5 + 0 ≤ _), (by decide : 33 + 0 ≤ _)⟩)
        dsimp only [Pt.U, Pt.locs, Pt.cells, Pt.slots] at X100 l100 y100 z100 st100 hQ100
        subst l100 y100 z100
        obtain ⟨rfl, N100q, e100⟩ := hQ100
        have N100 := Fr.app N99 N100q
        refine own_st (V := T100.setTop (mkF m 236 #[.val (.int p1), .val (.int y), .val (.int va), .val (.int vb), .val (.int vc), .val (.int vk), .val (.int vp), .val (.int vq), .val (.int vM), .val (.int vN), .val (.int vd), .val (.int ve), .val (.int vs), .val (.int (4 : Int32)), .val (.int (vs - (11 : Int32))), .val (.ref d97)] [(.int r97)])) (fun t k => st100.trans k) ?_
        refine own_st (V := T100.setTop (mkF m 238 #[.val (.int p1), .val (.int y), .val (.int va), .val (.int vb), .val (.int vc), .val (.int vk), .val (.int vp), .val (.int vq), .val (.int vM), .val (.int vN), .val (.int vd), .val (.int ve), .val (.int vs), .val (.int (4 : Int32)), .val (.int (vs - (11 : Int32))), .val (.ref d97)] [(.int (vs - (11 : Int32))), (.int r97)])) (fun t k => XS.iload X100.here hx rfl (hb hby at_236) rfl k) ?_
        refine own_st (V := T100.setTop (mkF m 241 #[.val (.int p1), .val (.int y), .val (.int va), .val (.int vb), .val (.int vc), .val (.int vk), .val (.int vp), .val (.int vq), .val (.int vM), .val (.int vN), .val (.int vd), .val (.int ve), .val (.int vs), .val (.int (4 : Int32)), .val (.int (vs - (11 : Int32))), .val (.ref d97)] [])) (fun t k => XS.icmpNo X100.here hx rfl (hb hby at_238) rfl (teq (Int32.toInt_inj.mp (by rw [hrr, own_d4 vs r_s.1 r_s.2]))).2 k) ?_
        refine own_st (V := T100.setTop (mkF m 242 #[.val (.int p1), .val (.int y), .val (.int va), .val (.int vb), .val (.int vc), .val (.int vk), .val (.int vp), .val (.int vq), .val (.int vM), .val (.int vN), .val (.int vd), .val (.int ve), .val (.int vs), .val (.int (4 : Int32)), .val (.int (vs - (11 : Int32))), .val (.ref d97)] [(.int (1 : Int32))])) (fun t k => XS.iconst X100.here hx rfl (hb hby at_241) k) ?_
        refine own_st (V := T100.setTop (mkF m 246 #[.val (.int p1), .val (.int y), .val (.int va), .val (.int vb), .val (.int vc), .val (.int vk), .val (.int vp), .val (.int vq), .val (.int vM), .val (.int vN), .val (.int vd), .val (.int ve), .val (.int vs), .val (.int (4 : Int32)), .val (.int (vs - (11 : Int32))), .val (.ref d97)] [(.int (1 : Int32))])) (fun t k => XS.goto X100.here hx rfl (pc0 := 242) (pc' := 246) rfl (hb hby at_242) (by decide) (by decide) k) ?_
        exact own_retW (s := s) hSi97 (by rw [e100]; exact kz_97) X100 hx hlk Bd.returns (by decide +kernel) (Or.inl ⟨rfl, by simp, _, rfl⟩) (hb hby at_246) (by decide) (by decide) ⟨rfl, N100⟩
      · refine own_st (V := s₁.setTop (mkF m 183 #[.val (.int p1), .val (.int y), .val (.int va), .val (.int vb), .val (.int vc), .val (.int vk), .val (.int vp), .val (.int vq), .val (.int vM), .val (.int vN), .val (.int vd), .val (.int ve), .val (.int vs), .unset, .unset, .unset] [])) (fun t k => XS.icmpNo X0.here hx rfl (hb hby at_180) rfl (flt hcS).2.2.1 k) ?_
        refine own_st (V := s₁.setTop (mkF m 184 #[.val (.int p1), .val (.int y), .val (.int va), .val (.int vb), .val (.int vc), .val (.int vk), .val (.int vp), .val (.int vq), .val (.int vM), .val (.int vN), .val (.int vd), .val (.int ve), .val (.int vs), .unset, .unset, .unset] [(.int (3 : Int32))])) (fun t k => XS.iconst X0.here hx rfl (hb hby at_183) k) ?_
        refine own_st (V := s₁.setTop (mkF m 186 #[.val (.int p1), .val (.int y), .val (.int va), .val (.int vb), .val (.int vc), .val (.int vk), .val (.int vp), .val (.int vq), .val (.int vM), .val (.int vN), .val (.int vd), .val (.int ve), .val (.int vs), .val (.int (3 : Int32)), .unset, .unset] [])) (fun t k => XS.istore X0.here hx rfl (hb hby at_184) rfl (l' := #[.val (.int p1), .val (.int y), .val (.int va), .val (.int vb), .val (.int vc), .val (.int vk), .val (.int vp), .val (.int vq), .val (.int vM), .val (.int vN), .val (.int vd), .val (.int ve), .val (.int vs), .val (.int (3 : Int32)), .unset, .unset]) rfl k) ?_
        refine own_st (V := s₁.setTop (mkF m 188 #[.val (.int p1), .val (.int y), .val (.int va), .val (.int vb), .val (.int vc), .val (.int vk), .val (.int vp), .val (.int vq), .val (.int vM), .val (.int vN), .val (.int vd), .val (.int ve), .val (.int vs), .val (.int (3 : Int32)), .unset, .unset] [(.int (20 : Int32))])) (fun t k => XS.bipush X0.here hx rfl (hb hby at_186) k) ?_
        refine own_st (V := s₁.setTop (mkF m 190 #[.val (.int p1), .val (.int y), .val (.int va), .val (.int vb), .val (.int vc), .val (.int vk), .val (.int vp), .val (.int vq), .val (.int vM), .val (.int vN), .val (.int vd), .val (.int ve), .val (.int vs), .val (.int (3 : Int32)), .unset, .unset] [(.int vs), (.int (20 : Int32))])) (fun t k => XS.iload X0.here hx rfl (hb hby at_188) rfl k) ?_
        refine own_st (V := s₁.setTop (mkF m 191 #[.val (.int p1), .val (.int y), .val (.int va), .val (.int vb), .val (.int vc), .val (.int vk), .val (.int vp), .val (.int vq), .val (.int vM), .val (.int vN), .val (.int vd), .val (.int ve), .val (.int vs), .val (.int (3 : Int32)), .unset, .unset] [(.int ((20 : Int32) + vs))])) (fun t k => XS.iadd X0.here hx rfl (hb hby at_190) rfl k) ?_
        refine own_st (V := s₁.setTop (mkF m 193 #[.val (.int p1), .val (.int y), .val (.int va), .val (.int vb), .val (.int vc), .val (.int vk), .val (.int vp), .val (.int vq), .val (.int vM), .val (.int vN), .val (.int vd), .val (.int ve), .val (.int vs), .val (.int (3 : Int32)), .val (.int ((20 : Int32) + vs)), .unset] [])) (fun t k => XS.istore X0.here hx rfl (hb hby at_191) rfl (l' := #[.val (.int p1), .val (.int y), .val (.int va), .val (.int vb), .val (.int vc), .val (.int vk), .val (.int vp), .val (.int vq), .val (.int vM), .val (.int vN), .val (.int vd), .val (.int ve), .val (.int vs), .val (.int (3 : Int32)), .val (.int ((20 : Int32) + vs)), .unset]) rfl k) ?_
        refine own_st (V := s₁.setTop (mkF m 206 #[.val (.int p1), .val (.int y), .val (.int va), .val (.int vb), .val (.int vc), .val (.int vk), .val (.int vp), .val (.int vq), .val (.int vM), .val (.int vN), .val (.int vd), .val (.int ve), .val (.int vs), .val (.int (3 : Int32)), .val (.int ((20 : Int32) + vs)), .unset] [])) (fun t k => XS.goto X0.here hx rfl (pc0 := 193) (pc' := 206) rfl (hb hby at_193) (by decide) (by decide) k) ?_
        have i_S := own_n11 hcS
        refine own_st (V := s₁.setTop (mkF m 207 #[.val (.int p1), .val (.int y), .val (.int va), .val (.int vb), .val (.int vc), .val (.int vk), .val (.int vp), .val (.int vq), .val (.int vM), .val (.int vN), .val (.int vd), .val (.int ve), .val (.int vs), .val (.int (3 : Int32)), .val (.int ((20 : Int32) + vs)), .unset] [(.int y)])) (fun t k => XS.iloadN X0.here hx rfl (hb hby at_206) rfl k) ?_
        obtain ⟨_, _, ⟨T101, L101, k101, n101⟩, -, X101, hSi101, hgr101, ⟨Lc101, hQ101, l101, y101, z101⟩, st101⟩ := Jvm.RoadKit.callSS X0 hx (y := (⟨"com/example/notewright/notewright/Holidays", "goodFriday", "(I)Ljava/time/LocalDate;"⟩ : MethodName)) hown (mvT hZ (hw _ (List.mem_of_getElem? (i := 2) rfl))) (mvT hZ (hw _ (List.mem_of_getElem? (i := 3) rfl))) (mvT hZ (hw _ (List.mem_of_getElem? (i := 4) rfl))) (mvT hZ (hw _ (List.mem_of_getElem? (i := 5) rfl))) (by decide) (backOfS (W := 0) (own_gf l Z a0 hw [] y cy ry cd rd ce re mm iso h0 n0 Z0 Od Wd hy0 hy1) hZ (hw _ (List.mem_of_getElem? (i := 5) rfl)) (hw _ (List.mem_of_getElem? (i := 4) rfl)) (by decide) (by decide)) (g := (mkF m 207 #[.val (.int p1), .val (.int y), .val (.int va), .val (.int vb), .val (.int vc), .val (.int vk), .val (.int vp), .val (.int vq), .val (.int vM), .val (.int vN), .val (.int vd), .val (.int ve), .val (.int vs), .val (.int (3 : Int32)), .val (.int ((20 : Int32) + vs)), .unset] [(.int y)])) rfl (by rw [hml]; rfl) (argsL := [(.int y)]) (rest := []) (lenOf own_pd13 rfl) rfl (by show 2 * 0 + _ ≤ _; exact Nat.le_of_eq rfl) (hb hby at_207) (fun _ _ => ⟨rfl, e0, (by decide : 0 + 5 ≤ _), (by decide : 0 + 33 ≤ _)⟩)
        dsimp only [Pt.U, Pt.locs, Pt.cells, Pt.slots] at X101 l101 y101 z101 st101 hQ101
        subst l101 y101 z101
        dsimp only [Pt.U] at hSi101 hgr101
        obtain ⟨d101, r101, mo101, rfl, N101q, K101, Ex101_q, Fq101_0, Fq101_1, Fq101_2, hA101, hB101⟩ := hQ101
        have N101 := Fr.app N0 N101q
        have Z0_101 : n0 ≤ T101.heap.size := Nat.le_trans Z0 K101.1
        obtain ⟨rfl, hrr⟩ := hA101 (by rw [hS]; exact i_S)
        rw [hS] at hrr
        have Od101 := Od.keep K101 all0
        have hZ_101 : Z.Warmed39 (s.setVm T101.vm).vm := State.Warmed39.trans hZ hSi101.1
        have hown_101 : (s.setVm T101.vm).vm.findClass "com/example/notewright/notewright/HolidaysGoodFridayPinLaw" = some m.cls := by rw [show (s.setVm T101.vm).vm = T101.vm from rfl, hSi101.1.alike.findClass]; exact hown
        have X101 : Stand p l e _ (s.setVm T101.vm) m _ below meth c T101 _ _ _ := X101
        have kz_101 : T101.heap.size ≤ T101.heap.size := Nat.le_refl _
        refine own_st (V := T101.setTop (mkF m 210 #[.val (.int p1), .val (.int y), .val (.int va), .val (.int vb), .val (.int vc), .val (.int vk), .val (.int vp), .val (.int vq), .val (.int vM), .val (.int vN), .val (.int vd), .val (.int ve), .val (.int vs), .val (.int (3 : Int32)), .val (.int ((20 : Int32) + vs)), .unset] [(.ref d101)])) (fun t k => st101.trans k) ?_
        refine own_st (V := T101.setTop (mkF m 212 #[.val (.int p1), .val (.int y), .val (.int va), .val (.int vb), .val (.int vc), .val (.int vk), .val (.int vp), .val (.int vq), .val (.int vM), .val (.int vN), .val (.int vd), .val (.int ve), .val (.int vs), .val (.int (3 : Int32)), .val (.int ((20 : Int32) + vs)), .val (.ref d101)] [])) (fun t k => XS.astore X101.here hx rfl (hb hby at_210) rfl rfl (l' := #[.val (.int p1), .val (.int y), .val (.int va), .val (.int vb), .val (.int vc), .val (.int vk), .val (.int vp), .val (.int vq), .val (.int vM), .val (.int vN), .val (.int vd), .val (.int ve), .val (.int vs), .val (.int (3 : Int32)), .val (.int ((20 : Int32) + vs)), .val (.ref d101)]) rfl k) ?_
        refine own_st (V := T101.setTop (mkF m 214 #[.val (.int p1), .val (.int y), .val (.int va), .val (.int vb), .val (.int vc), .val (.int vk), .val (.int vp), .val (.int vq), .val (.int vM), .val (.int vN), .val (.int vd), .val (.int ve), .val (.int vs), .val (.int (3 : Int32)), .val (.int ((20 : Int32) + vs)), .val (.ref d101)] [(.ref d101)])) (fun t k => XS.aload X101.here hx rfl (hb hby at_212) rfl rfl k) ?_
        obtain ⟨cq102, kq102, q102a, q102b, q102c⟩ := isOf hZ_101 rfl Ex101_q
        obtain ⟨_, _, ⟨T102, L102, k102, n102⟩, -, X102, ⟨Lc102, hQ102, l102, y102, z102⟩, st102⟩ := X101.virtualBack hx (y := (⟨"java/time/LocalDate", "getYear", "()I"⟩ : MethodName)) (z := (⟨"java/time/LocalDate", "getYear", "()I"⟩ : MethodName)) hown_101 (mvT hZ_101 (hw _ (List.mem_of_getElem? (i := 116) rfl))) (mvT hZ_101 (hw _ (List.mem_of_getElem? (i := 117) rfl))) (notFace_of_selects (args := #[]) (mvT hZ_101 (hw _ (List.mem_of_getElem? (i := 119) rfl)))) (mvT hZ_101 (hw _ (List.mem_of_getElem? (i := 119) rfl))) (mvT hZ_101 (hw _ (List.mem_of_getElem? (i := 118) rfl))) (by decide) (backOf (W := 0) (own_gy l Z a0 hw [] d101 y T101.heap n0 Z0_101 Fq101_0) hZ_101 (hw _ (List.mem_of_getElem? (i := 120) rfl)) (hw _ (List.mem_of_getElem? (i := 10) rfl)) (by decide) (by decide)) q102a q102c (g := (mkF m 214 #[.val (.int p1), .val (.int y), .val (.int va), .val (.int vb), .val (.int vc), .val (.int vk), .val (.int vp), .val (.int vq), .val (.int vM), .val (.int vN), .val (.int vd), .val (.int ve), .val (.int vs), .val (.int (3 : Int32)), .val (.int ((20 : Int32) + vs)), .val (.ref d101)] [(.ref d101)])) rfl (by rw [hml]; rfl) (Steps.refl _) (argsL := []) (rest := []) (lenOf own_pd4 rfl) rfl (by show 2 * 0 + _ ≤ _; exact Nat.le_of_eq rfl) (hb hby at_214) (fun _ _ => ⟨rfl, rfl, (by decide : 5 + 0 ≤ _), (by decide : 33 + 0 ≤ _)⟩)
        dsimp only [Pt.U, Pt.locs, Pt.cells, Pt.slots] at X102 l102 y102 z102 st102 hQ102
        subst l102 y102 z102
        obtain ⟨rfl, N102q, e102⟩ := hQ102
        have N102 := Fr.app N101 N102q
        refine own_st (V := T102.setTop (mkF m 217 #[.val (.int p1), .val (.int y), .val (.int va), .val (.int vb), .val (.int vc), .val (.int vk), .val (.int vp), .val (.int vq), .val (.int vM), .val (.int vN), .val (.int vd), .val (.int ve), .val (.int vs), .val (.int (3 : Int32)), .val (.int ((20 : Int32) + vs)), .val (.ref d101)] [(.int y)])) (fun t k => st102.trans k) ?_
        refine own_st (V := T102.setTop (mkF m 218 #[.val (.int p1), .val (.int y), .val (.int va), .val (.int vb), .val (.int vc), .val (.int vk), .val (.int vp), .val (.int vq), .val (.int vM), .val (.int vN), .val (.int vd), .val (.int ve), .val (.int vs), .val (.int (3 : Int32)), .val (.int ((20 : Int32) + vs)), .val (.ref d101)] [(.int y), (.int y)])) (fun t k => XS.iloadN X102.here hx rfl (hb hby at_217) rfl k) ?_
        refine own_st (V := T102.setTop (mkF m 221 #[.val (.int p1), .val (.int y), .val (.int va), .val (.int vb), .val (.int vc), .val (.int vk), .val (.int vp), .val (.int vq), .val (.int vM), .val (.int vN), .val (.int vd), .val (.int ve), .val (.int vs), .val (.int (3 : Int32)), .val (.int ((20 : Int32) + vs)), .val (.ref d101)] [])) (fun t k => XS.icmpNo X102.here hx rfl (hb hby at_218) rfl (teq rfl).2 k) ?_
        refine own_st (V := T102.setTop (mkF m 223 #[.val (.int p1), .val (.int y), .val (.int va), .val (.int vb), .val (.int vc), .val (.int vk), .val (.int vp), .val (.int vq), .val (.int vM), .val (.int vN), .val (.int vd), .val (.int ve), .val (.int vs), .val (.int (3 : Int32)), .val (.int ((20 : Int32) + vs)), .val (.ref d101)] [(.ref d101)])) (fun t k => XS.aload X102.here hx rfl (hb hby at_221) rfl rfl k) ?_
        obtain ⟨cq103, kq103, q103a, q103b, q103c⟩ := isOf hZ_101 e102 Ex101_q
        obtain ⟨_, _, ⟨T103, L103, k103, n103⟩, -, X103, ⟨Lc103, hQ103, l103, y103, z103⟩, st103⟩ := X102.virtualBack hx (y := (⟨"java/time/LocalDate", "getMonthValue", "()I"⟩ : MethodName)) (z := (⟨"java/time/LocalDate", "getMonthValue", "()I"⟩ : MethodName)) hown_101 (mvT hZ_101 (hw _ (List.mem_of_getElem? (i := 121) rfl))) (mvT hZ_101 (hw _ (List.mem_of_getElem? (i := 122) rfl))) (notFace_of_selects (args := #[]) (mvT hZ_101 (hw _ (List.mem_of_getElem? (i := 124) rfl)))) (mvT hZ_101 (hw _ (List.mem_of_getElem? (i := 124) rfl))) (mvT hZ_101 (hw _ (List.mem_of_getElem? (i := 123) rfl))) (by decide) (backOf (W := 0) (own_gm l Z a0 hw [] d101 (3 : Int32) T101.heap n0 Z0_101 Fq101_1) hZ_101 (hw _ (List.mem_of_getElem? (i := 125) rfl)) (hw _ (List.mem_of_getElem? (i := 10) rfl)) (by decide) (by decide)) q103a q103c (g := (mkF m 223 #[.val (.int p1), .val (.int y), .val (.int va), .val (.int vb), .val (.int vc), .val (.int vk), .val (.int vp), .val (.int vq), .val (.int vM), .val (.int vN), .val (.int vd), .val (.int ve), .val (.int vs), .val (.int (3 : Int32)), .val (.int ((20 : Int32) + vs)), .val (.ref d101)] [(.ref d101)])) rfl (by rw [hml]; rfl) (Steps.refl _) (argsL := []) (rest := []) (lenOf own_pd4 rfl) rfl (by show 2 * 0 + _ ≤ _; exact Nat.le_of_eq rfl) (hb hby at_223) (fun _ _ => ⟨rfl, e102, (by decide : 5 + 0 ≤ _), (by decide : 33 + 0 ≤ _)⟩)
        dsimp only [Pt.U, Pt.locs, Pt.cells, Pt.slots] at X103 l103 y103 z103 st103 hQ103
        subst l103 y103 z103
        obtain ⟨rfl, N103q, e103⟩ := hQ103
        have N103 := Fr.app N102 N103q
        refine own_st (V := T103.setTop (mkF m 226 #[.val (.int p1), .val (.int y), .val (.int va), .val (.int vb), .val (.int vc), .val (.int vk), .val (.int vp), .val (.int vq), .val (.int vM), .val (.int vN), .val (.int vd), .val (.int ve), .val (.int vs), .val (.int (3 : Int32)), .val (.int ((20 : Int32) + vs)), .val (.ref d101)] [(.int (3 : Int32))])) (fun t k => st103.trans k) ?_
        refine own_st (V := T103.setTop (mkF m 228 #[.val (.int p1), .val (.int y), .val (.int va), .val (.int vb), .val (.int vc), .val (.int vk), .val (.int vp), .val (.int vq), .val (.int vM), .val (.int vN), .val (.int vd), .val (.int ve), .val (.int vs), .val (.int (3 : Int32)), .val (.int ((20 : Int32) + vs)), .val (.ref d101)] [(.int (3 : Int32)), (.int (3 : Int32))])) (fun t k => XS.iload X103.here hx rfl (hb hby at_226) rfl k) ?_
        refine own_st (V := T103.setTop (mkF m 231 #[.val (.int p1), .val (.int y), .val (.int va), .val (.int vb), .val (.int vc), .val (.int vk), .val (.int vp), .val (.int vq), .val (.int vM), .val (.int vN), .val (.int vd), .val (.int ve), .val (.int vs), .val (.int (3 : Int32)), .val (.int ((20 : Int32) + vs)), .val (.ref d101)] [])) (fun t k => XS.icmpNo X103.here hx rfl (hb hby at_228) rfl (teq (by decide : (3 : Int32) = (3 : Int32))).2 k) ?_
        refine own_st (V := T103.setTop (mkF m 233 #[.val (.int p1), .val (.int y), .val (.int va), .val (.int vb), .val (.int vc), .val (.int vk), .val (.int vp), .val (.int vq), .val (.int vM), .val (.int vN), .val (.int vd), .val (.int ve), .val (.int vs), .val (.int (3 : Int32)), .val (.int ((20 : Int32) + vs)), .val (.ref d101)] [(.ref d101)])) (fun t k => XS.aload X103.here hx rfl (hb hby at_231) rfl rfl k) ?_
        obtain ⟨cq104, kq104, q104a, q104b, q104c⟩ := isOf hZ_101 e103 Ex101_q
        obtain ⟨_, _, ⟨T104, L104, k104, n104⟩, -, X104, ⟨Lc104, hQ104, l104, y104, z104⟩, st104⟩ := X103.virtualBack hx (y := (⟨"java/time/LocalDate", "getDayOfMonth", "()I"⟩ : MethodName)) (z := (⟨"java/time/LocalDate", "getDayOfMonth", "()I"⟩ : MethodName)) hown_101 (mvT hZ_101 (hw _ (List.mem_of_getElem? (i := 126) rfl))) (mvT hZ_101 (hw _ (List.mem_of_getElem? (i := 127) rfl))) (notFace_of_selects (args := #[]) (mvT hZ_101 (hw _ (List.mem_of_getElem? (i := 129) rfl)))) (mvT hZ_101 (hw _ (List.mem_of_getElem? (i := 129) rfl))) (mvT hZ_101 (hw _ (List.mem_of_getElem? (i := 128) rfl))) (by decide) (backOf (W := 0) (own_gd l Z a0 hw [] d101 r101 T101.heap n0 Z0_101 Fq101_2) hZ_101 (hw _ (List.mem_of_getElem? (i := 130) rfl)) (hw _ (List.mem_of_getElem? (i := 10) rfl)) (by decide) (by decide)) q104a q104c (g := (mkF m 233 #[.val (.int p1), .val (.int y), .val (.int va), .val (.int vb), .val (.int vc), .val (.int vk), .val (.int vp), .val (.int vq), .val (.int vM), .val (.int vN), .val (.int vd), .val (.int ve), .val (.int vs), .val (.int (3 : Int32)), .val (.int ((20 : Int32) + vs)), .val (.ref d101)] [(.ref d101)])) rfl (by rw [hml]; rfl) (Steps.refl _) (argsL := []) (rest := []) (lenOf own_pd4 rfl) rfl (by show 2 * 0 + _ ≤ _; exact Nat.le_of_eq rfl) (hb hby at_233) (fun _ _ => ⟨rfl, e103, (by decide : 5 + 0 ≤ _), (by decide : 33 + 0 ≤ _)⟩)
        dsimp only [Pt.U, Pt.locs, Pt.cells, Pt.slots] at X104 l104 y104 z104 st104 hQ104
        subst l104 y104 z104
        obtain ⟨rfl, N104q, e104⟩ := hQ104
        have N104 := Fr.app N103 N104q
        refine own_st (V := T104.setTop (mkF m 236 #[.val (.int p1), .val (.int y), .val (.int va), .val (.int vb), .val (.int vc), .val (.int vk), .val (.int vp), .val (.int vq), .val (.int vM), .val (.int vN), .val (.int vd), .val (.int ve), .val (.int vs), .val (.int (3 : Int32)), .val (.int ((20 : Int32) + vs)), .val (.ref d101)] [(.int r101)])) (fun t k => st104.trans k) ?_
        refine own_st (V := T104.setTop (mkF m 238 #[.val (.int p1), .val (.int y), .val (.int va), .val (.int vb), .val (.int vc), .val (.int vk), .val (.int vp), .val (.int vq), .val (.int vM), .val (.int vN), .val (.int vd), .val (.int ve), .val (.int vs), .val (.int (3 : Int32)), .val (.int ((20 : Int32) + vs)), .val (.ref d101)] [(.int ((20 : Int32) + vs)), (.int r101)])) (fun t k => XS.iload X104.here hx rfl (hb hby at_236) rfl k) ?_
        refine own_st (V := T104.setTop (mkF m 241 #[.val (.int p1), .val (.int y), .val (.int va), .val (.int vb), .val (.int vc), .val (.int vk), .val (.int vp), .val (.int vq), .val (.int vM), .val (.int vN), .val (.int vd), .val (.int ve), .val (.int vs), .val (.int (3 : Int32)), .val (.int ((20 : Int32) + vs)), .val (.ref d101)] [])) (fun t k => XS.icmpNo X104.here hx rfl (hb hby at_238) rfl (teq (Int32.toInt_inj.mp (by rw [hrr, own_d3 vs r_s.1 r_s.2]))).2 k) ?_
        refine own_st (V := T104.setTop (mkF m 242 #[.val (.int p1), .val (.int y), .val (.int va), .val (.int vb), .val (.int vc), .val (.int vk), .val (.int vp), .val (.int vq), .val (.int vM), .val (.int vN), .val (.int vd), .val (.int ve), .val (.int vs), .val (.int (3 : Int32)), .val (.int ((20 : Int32) + vs)), .val (.ref d101)] [(.int (1 : Int32))])) (fun t k => XS.iconst X104.here hx rfl (hb hby at_241) k) ?_
        refine own_st (V := T104.setTop (mkF m 246 #[.val (.int p1), .val (.int y), .val (.int va), .val (.int vb), .val (.int vc), .val (.int vk), .val (.int vp), .val (.int vq), .val (.int vM), .val (.int vN), .val (.int vd), .val (.int ve), .val (.int vs), .val (.int (3 : Int32)), .val (.int ((20 : Int32) + vs)), .val (.ref d101)] [(.int (1 : Int32))])) (fun t k => XS.goto X104.here hx rfl (pc0 := 242) (pc' := 246) rfl (hb hby at_242) (by decide) (by decide) k) ?_
        exact own_retW (s := s) hSi101 (by rw [e104]; exact kz_101) X104 hx hlk Bd.returns (by decide +kernel) (Or.inl ⟨rfl, by simp, _, rfl⟩) (hb hby at_246) (by decide) (by decide) ⟨rfl, N104⟩
  · refine own_st (V := s₁.setTop (mkF m 142 #[.val (.int p1), .val (.int y), .val (.int va), .val (.int vb), .val (.int vc), .val (.int vk), .val (.int vp), .val (.int vq), .val (.int vM), .val (.int vN), .val (.int vd), .val (.int ve), .val (.int vs), .unset, .unset, .unset] [])) (fun t k => XS.icmpYes X0.here hx rfl (pc0 := 125) (pc' := 142) rfl (hb hby at_125) rfl (feq hcA).2 (by decide) (by decide) k) ?_
    refine own_st (V := s₁.setTop (mkF m 144 #[.val (.int p1), .val (.int y), .val (.int va), .val (.int vb), .val (.int vc), .val (.int vk), .val (.int vp), .val (.int vq), .val (.int vM), .val (.int vN), .val (.int vd), .val (.int ve), .val (.int vs), .unset, .unset, .unset] [(.int vd)])) (fun t k => XS.iload X0.here hx rfl (hb hby at_142) rfl k) ?_
    refine own_st (V := s₁.setTop (mkF m 146 #[.val (.int p1), .val (.int y), .val (.int va), .val (.int vb), .val (.int vc), .val (.int vk), .val (.int vp), .val (.int vq), .val (.int vM), .val (.int vN), .val (.int vd), .val (.int ve), .val (.int vs), .unset, .unset, .unset] [(.int (28 : Int32)), (.int vd)])) (fun t k => XS.bipush X0.here hx rfl (hb hby at_144) k) ?_
    by_cases hcC : vd = (28 : Int32)
    · refine own_st (V := s₁.setTop (mkF m 149 #[.val (.int p1), .val (.int y), .val (.int va), .val (.int vb), .val (.int vc), .val (.int vk), .val (.int vp), .val (.int vq), .val (.int vM), .val (.int vN), .val (.int vd), .val (.int ve), .val (.int vs), .unset, .unset, .unset] [])) (fun t k => XS.icmpNo X0.here hx rfl (hb hby at_146) rfl (teq hcC).2 k) ?_
      refine own_st (V := s₁.setTop (mkF m 151 #[.val (.int p1), .val (.int y), .val (.int va), .val (.int vb), .val (.int vc), .val (.int vk), .val (.int vp), .val (.int vq), .val (.int vM), .val (.int vN), .val (.int vd), .val (.int ve), .val (.int vs), .unset, .unset, .unset] [(.int ve)])) (fun t k => XS.iload X0.here hx rfl (hb hby at_149) rfl k) ?_
      refine own_st (V := s₁.setTop (mkF m 153 #[.val (.int p1), .val (.int y), .val (.int va), .val (.int vb), .val (.int vc), .val (.int vk), .val (.int vp), .val (.int vq), .val (.int vM), .val (.int vN), .val (.int vd), .val (.int ve), .val (.int vs), .unset, .unset, .unset] [(.int (6 : Int32)), (.int ve)])) (fun t k => XS.bipush X0.here hx rfl (hb hby at_151) k) ?_
      by_cases hcD : ve = (6 : Int32)
      · refine own_st (V := s₁.setTop (mkF m 156 #[.val (.int p1), .val (.int y), .val (.int va), .val (.int vb), .val (.int vc), .val (.int vk), .val (.int vp), .val (.int vq), .val (.int vM), .val (.int vN), .val (.int vd), .val (.int ve), .val (.int vs), .unset, .unset, .unset] [])) (fun t k => XS.icmpNo X0.here hx rfl (hb hby at_153) rfl (teq hcD).2 k) ?_
        refine own_st (V := s₁.setTop (mkF m 158 #[.val (.int p1), .val (.int y), .val (.int va), .val (.int vb), .val (.int vc), .val (.int vk), .val (.int vp), .val (.int vq), .val (.int vM), .val (.int vN), .val (.int vd), .val (.int ve), .val (.int vs), .unset, .unset, .unset] [(.int (11 : Int32))])) (fun t k => XS.bipush X0.here hx rfl (hb hby at_156) k) ?_
        refine own_st (V := s₁.setTop (mkF m 160 #[.val (.int p1), .val (.int y), .val (.int va), .val (.int vb), .val (.int vc), .val (.int vk), .val (.int vp), .val (.int vq), .val (.int vM), .val (.int vN), .val (.int vd), .val (.int ve), .val (.int vs), .unset, .unset, .unset] [(.int vM), (.int (11 : Int32))])) (fun t k => XS.iload X0.here hx rfl (hb hby at_158) rfl k) ?_
        refine own_st (V := s₁.setTop (mkF m 161 #[.val (.int p1), .val (.int y), .val (.int va), .val (.int vb), .val (.int vc), .val (.int vk), .val (.int vp), .val (.int vq), .val (.int vM), .val (.int vN), .val (.int vd), .val (.int ve), .val (.int vs), .unset, .unset, .unset] [(.int ((11 : Int32) * vM))])) (fun t k => XS.imul X0.here hx rfl (hb hby at_160) rfl k) ?_
        refine own_st (V := s₁.setTop (mkF m 163 #[.val (.int p1), .val (.int y), .val (.int va), .val (.int vb), .val (.int vc), .val (.int vk), .val (.int vp), .val (.int vq), .val (.int vM), .val (.int vN), .val (.int vd), .val (.int ve), .val (.int vs), .unset, .unset, .unset] [(.int (11 : Int32)), (.int ((11 : Int32) * vM))])) (fun t k => XS.bipush X0.here hx rfl (hb hby at_161) k) ?_
        refine own_st (V := s₁.setTop (mkF m 164 #[.val (.int p1), .val (.int y), .val (.int va), .val (.int vb), .val (.int vc), .val (.int vk), .val (.int vp), .val (.int vq), .val (.int vM), .val (.int vN), .val (.int vd), .val (.int ve), .val (.int vs), .unset, .unset, .unset] [(.int (((11 : Int32) * vM) + (11 : Int32)))])) (fun t k => XS.iadd X0.here hx rfl (hb hby at_163) rfl k) ?_
        refine own_st (V := s₁.setTop (mkF m 166 #[.val (.int p1), .val (.int y), .val (.int va), .val (.int vb), .val (.int vc), .val (.int vk), .val (.int vp), .val (.int vq), .val (.int vM), .val (.int vN), .val (.int vd), .val (.int ve), .val (.int vs), .unset, .unset, .unset] [(.int (30 : Int32)), (.int (((11 : Int32) * vM) + (11 : Int32)))])) (fun t k => XS.bipush X0.here hx rfl (hb hby at_164) k) ?_
        refine own_st (V := s₁.setTop (mkF m 167 #[.val (.int p1), .val (.int y), .val (.int va), .val (.int vb), .val (.int vc), .val (.int vk), .val (.int vp), .val (.int vq), .val (.int vM), .val (.int vN), .val (.int vd), .val (.int ve), .val (.int vs), .unset, .unset, .unset] [(.int ((((11 : Int32) * vM) + (11 : Int32)) % (30 : Int32)))])) (fun t k => Jvm.RoadKit.iremM X0 hx rfl (hb hby at_166) rfl (by decide) k) ?_
        obtain ⟨m9, g_m9⟩ : ∃ z, z = ((((11 : Int32) * vM) + (11 : Int32)) % (30 : Int32)) := ⟨_, rfl⟩
        rw [← g_m9]
        have h_m9 : m9.toInt = (11 * vM.toInt + 11) % 30 := by rw [g_m9, own_l9 vM (by omega) (by omega)]
        refine own_st (V := s₁.setTop (mkF m 169 #[.val (.int p1), .val (.int y), .val (.int va), .val (.int vb), .val (.int vc), .val (.int vk), .val (.int vp), .val (.int vq), .val (.int vM), .val (.int vN), .val (.int vd), .val (.int ve), .val (.int vs), .unset, .unset, .unset] [(.int (19 : Int32)), (.int m9)])) (fun t k => XS.bipush X0.here hx rfl (hb hby at_167) k) ?_
        by_cases hcM : m9 < (19 : Int32)
        · refine own_st (V := s₁.setTop (mkF m 172 #[.val (.int p1), .val (.int y), .val (.int va), .val (.int vb), .val (.int vc), .val (.int vk), .val (.int vp), .val (.int vq), .val (.int vM), .val (.int vN), .val (.int vd), .val (.int ve), .val (.int vs), .unset, .unset, .unset] [])) (fun t k => XS.icmpNo X0.here hx rfl (hb hby at_169) rfl (tlt hcM).2.1 k) ?_
          refine own_st (V := s₁.setTop (mkF m 174 #[.val (.int p1), .val (.int y), .val (.int va), .val (.int vb), .val (.int vc), .val (.int vk), .val (.int vp), .val (.int vq), .val (.int vM), .val (.int vN), .val (.int vd), .val (.int ve), .val (.int vs), .unset, .unset, .unset] [(.int (27 : Int32))])) (fun t k => XS.bipush X0.here hx rfl (hb hby at_172) k) ?_
          refine own_st (V := s₁.setTop (mkF m 176 #[.val (.int p1), .val (.int y), .val (.int va), .val (.int vb), .val (.int vc), .val (.int vk), .val (.int vp), .val (.int vq), .val (.int vM), .val (.int vN), .val (.int vd), .val (.int ve), .val (.int (27 : Int32)), .unset, .unset, .unset] [])) (fun t k => XS.istore X0.here hx rfl (hb hby at_174) rfl (l' := #[.val (.int p1), .val (.int y), .val (.int va), .val (.int vb), .val (.int vc), .val (.int vk), .val (.int vp), .val (.int vq), .val (.int vM), .val (.int vN), .val (.int vd), .val (.int ve), .val (.int (27 : Int32)), .unset, .unset, .unset]) rfl k) ?_
          have i_hcA : ¬ (vd.toInt = 29) := own_ine (by decide) hcA
          have i_hcC : vd.toInt = 28 := own_ieq (by decide) hcC
          have i_hcD : ve.toInt = 6 := own_ieq (by decide) hcD
          have i_M : m9.toInt < 19 := own_i19 hcM
          have hS : own_ih y.toInt + own_il y.toInt - 7 * own_im y.toInt = 27 := LF.2.1 ⟨i_hcC, i_hcD, (by rw [← h_m9]; exact i_M)⟩
          clear LF
          refine own_st (V := s₁.setTop (mkF m 178 #[.val (.int p1), .val (.int y), .val (.int va), .val (.int vb), .val (.int vc), .val (.int vk), .val (.int vp), .val (.int vq), .val (.int vM), .val (.int vN), .val (.int vd), .val (.int ve), .val (.int (27 : Int32)), .unset, .unset, .unset] [(.int (27 : Int32))])) (fun t k => XS.iload X0.here hx rfl (hb hby at_176) rfl k) ?_
          refine own_st (V := s₁.setTop (mkF m 180 #[.val (.int p1), .val (.int y), .val (.int va), .val (.int vb), .val (.int vc), .val (.int vk), .val (.int vp), .val (.int vq), .val (.int vM), .val (.int vN), .val (.int vd), .val (.int ve), .val (.int (27 : Int32)), .unset, .unset, .unset] [(.int (11 : Int32)), (.int (27 : Int32))])) (fun t k => XS.bipush X0.here hx rfl (hb hby at_178) k) ?_
          refine own_st (V := s₁.setTop (mkF m 196 #[.val (.int p1), .val (.int y), .val (.int va), .val (.int vb), .val (.int vc), .val (.int vk), .val (.int vp), .val (.int vq), .val (.int vM), .val (.int vN), .val (.int vd), .val (.int ve), .val (.int (27 : Int32)), .unset, .unset, .unset] [])) (fun t k => XS.icmpYes X0.here hx rfl (pc0 := 180) (pc' := 196) rfl (hb hby at_180) rfl (tlt (by decide : (11 : Int32) < (27 : Int32))).2.2.1 (by decide) (by decide) k) ?_
          refine own_st (V := s₁.setTop (mkF m 197 #[.val (.int p1), .val (.int y), .val (.int va), .val (.int vb), .val (.int vc), .val (.int vk), .val (.int vp), .val (.int vq), .val (.int vM), .val (.int vN), .val (.int vd), .val (.int ve), .val (.int (27 : Int32)), .unset, .unset, .unset] [(.int (4 : Int32))])) (fun t k => XS.iconst X0.here hx rfl (hb hby at_196) k) ?_
          refine own_st (V := s₁.setTop (mkF m 199 #[.val (.int p1), .val (.int y), .val (.int va), .val (.int vb), .val (.int vc), .val (.int vk), .val (.int vp), .val (.int vq), .val (.int vM), .val (.int vN), .val (.int vd), .val (.int ve), .val (.int (27 : Int32)), .val (.int (4 : Int32)), .unset, .unset] [])) (fun t k => XS.istore X0.here hx rfl (hb hby at_197) rfl (l' := #[.val (.int p1), .val (.int y), .val (.int va), .val (.int vb), .val (.int vc), .val (.int vk), .val (.int vp), .val (.int vq), .val (.int vM), .val (.int vN), .val (.int vd), .val (.int ve), .val (.int (27 : Int32)), .val (.int (4 : Int32)), .unset, .unset]) rfl k) ?_
          refine own_st (V := s₁.setTop (mkF m 201 #[.val (.int p1), .val (.int y), .val (.int va), .val (.int vb), .val (.int vc), .val (.int vk), .val (.int vp), .val (.int vq), .val (.int vM), .val (.int vN), .val (.int vd), .val (.int ve), .val (.int (27 : Int32)), .val (.int (4 : Int32)), .unset, .unset] [(.int (27 : Int32))])) (fun t k => XS.iload X0.here hx rfl (hb hby at_199) rfl k) ?_
          refine own_st (V := s₁.setTop (mkF m 203 #[.val (.int p1), .val (.int y), .val (.int va), .val (.int vb), .val (.int vc), .val (.int vk), .val (.int vp), .val (.int vq), .val (.int vM), .val (.int vN), .val (.int vd), .val (.int ve), .val (.int (27 : Int32)), .val (.int (4 : Int32)), .unset, .unset] [(.int (11 : Int32)), (.int (27 : Int32))])) (fun t k => XS.bipush X0.here hx rfl (hb hby at_201) k) ?_
          refine own_st (V := s₁.setTop (mkF m 204 #[.val (.int p1), .val (.int y), .val (.int va), .val (.int vb), .val (.int vc), .val (.int vk), .val (.int vp), .val (.int vq), .val (.int vM), .val (.int vN), .val (.int vd), .val (.int ve), .val (.int (27 : Int32)), .val (.int (4 : Int32)), .unset, .unset] [(.int ((27 : Int32) - (11 : Int32)))])) (fun t k => XS.isub X0.here hx rfl (hb hby at_203) rfl k) ?_
          refine own_st (V := s₁.setTop (mkF m 206 #[.val (.int p1), .val (.int y), .val (.int va), .val (.int vb), .val (.int vc), .val (.int vk), .val (.int vp), .val (.int vq), .val (.int vM), .val (.int vN), .val (.int vd), .val (.int ve), .val (.int (27 : Int32)), .val (.int (4 : Int32)), .val (.int ((27 : Int32) - (11 : Int32))), .unset] [])) (fun t k => XS.istore X0.here hx rfl (hb hby at_204) rfl (l' := #[.val (.int p1), .val (.int y), .val (.int va), .val (.int vb), .val (.int vc), .val (.int vk), .val (.int vp), .val (.int vq), .val (.int vM), .val (.int vN), .val (.int vd), .val (.int ve), .val (.int (27 : Int32)), .val (.int (4 : Int32)), .val (.int ((27 : Int32) - (11 : Int32))), .unset]) rfl k) ?_
          refine own_st (V := s₁.setTop (mkF m 207 #[.val (.int p1), .val (.int y), .val (.int va), .val (.int vb), .val (.int vc), .val (.int vk), .val (.int vp), .val (.int vq), .val (.int vM), .val (.int vN), .val (.int vd), .val (.int ve), .val (.int (27 : Int32)), .val (.int (4 : Int32)), .val (.int ((27 : Int32) - (11 : Int32))), .unset] [(.int y)])) (fun t k => XS.iloadN X0.here hx rfl (hb hby at_206) rfl k) ?_
          obtain ⟨_, _, ⟨T105, L105, k105, n105⟩, -, X105, hSi105, hgr105, ⟨Lc105, hQ105, l105, y105, z105⟩, st105⟩ := Jvm.RoadKit.callSS X0 hx (y := (⟨"com/example/notewright/notewright/Holidays", "goodFriday", "(I)Ljava/time/LocalDate;"⟩ : MethodName)) hown (mvT hZ (hw _ (List.mem_of_getElem? (i := 2) rfl))) (mvT hZ (hw _ (List.mem_of_getElem? (i := 3) rfl))) (mvT hZ (hw _ (List.mem_of_getElem? (i := 4) rfl))) (mvT hZ (hw _ (List.mem_of_getElem? (i := 5) rfl))) (by decide) (backOfS (W := 0) (own_gf l Z a0 hw [] y cy ry cd rd ce re mm iso h0 n0 Z0 Od Wd hy0 hy1) hZ (hw _ (List.mem_of_getElem? (i := 5) rfl)) (hw _ (List.mem_of_getElem? (i := 4) rfl)) (by decide) (by decide)) (g := (mkF m 207 #[.val (.int p1), .val (.int y), .val (.int va), .val (.int vb), .val (.int vc), .val (.int vk), .val (.int vp), .val (.int vq), .val (.int vM), .val (.int vN), .val (.int vd), .val (.int ve), .val (.int (27 : Int32)), .val (.int (4 : Int32)), .val (.int ((27 : Int32) - (11 : Int32))), .unset] [(.int y)])) rfl (by rw [hml]; rfl) (argsL := [(.int y)]) (rest := []) (lenOf own_pd13 rfl) rfl (by show 2 * 0 + _ ≤ _; exact Nat.le_of_eq rfl) (hb hby at_207) (fun _ _ => ⟨rfl, e0, (by decide : 0 + 5 ≤ _), (by decide : 0 + 33 ≤ _)⟩)
          dsimp only [Pt.U, Pt.locs, Pt.cells, Pt.slots] at X105 l105 y105 z105 st105 hQ105
          subst l105 y105 z105
          dsimp only [Pt.U] at hSi105 hgr105
          obtain ⟨d105, r105, mo105, rfl, N105q, K105, Ex105_q, Fq105_0, Fq105_1, Fq105_2, hA105, hB105⟩ := hQ105
          have N105 := Fr.app N0 N105q
          have Z0_105 : n0 ≤ T105.heap.size := Nat.le_trans Z0 K105.1
          obtain ⟨rfl, hrr⟩ := hB105 (by rw [hS]; decide)
          rw [hS] at hrr
          have Od105 := Od.keep K105 all0
          have hZ_105 : Z.Warmed39 (s.setVm T105.vm).vm := State.Warmed39.trans hZ hSi105.1
          have hown_105 : (s.setVm T105.vm).vm.findClass "com/example/notewright/notewright/HolidaysGoodFridayPinLaw" = some m.cls := by rw [show (s.setVm T105.vm).vm = T105.vm from rfl, hSi105.1.alike.findClass]; exact hown
          have X105 : Stand p l e _ (s.setVm T105.vm) m _ below meth c T105 _ _ _ := X105
          have kz_105 : T105.heap.size ≤ T105.heap.size := Nat.le_refl _
          refine own_st (V := T105.setTop (mkF m 210 #[.val (.int p1), .val (.int y), .val (.int va), .val (.int vb), .val (.int vc), .val (.int vk), .val (.int vp), .val (.int vq), .val (.int vM), .val (.int vN), .val (.int vd), .val (.int ve), .val (.int (27 : Int32)), .val (.int (4 : Int32)), .val (.int ((27 : Int32) - (11 : Int32))), .unset] [(.ref d105)])) (fun t k => st105.trans k) ?_
          refine own_st (V := T105.setTop (mkF m 212 #[.val (.int p1), .val (.int y), .val (.int va), .val (.int vb), .val (.int vc), .val (.int vk), .val (.int vp), .val (.int vq), .val (.int vM), .val (.int vN), .val (.int vd), .val (.int ve), .val (.int (27 : Int32)), .val (.int (4 : Int32)), .val (.int ((27 : Int32) - (11 : Int32))), .val (.ref d105)] [])) (fun t k => XS.astore X105.here hx rfl (hb hby at_210) rfl rfl (l' := #[.val (.int p1), .val (.int y), .val (.int va), .val (.int vb), .val (.int vc), .val (.int vk), .val (.int vp), .val (.int vq), .val (.int vM), .val (.int vN), .val (.int vd), .val (.int ve), .val (.int (27 : Int32)), .val (.int (4 : Int32)), .val (.int ((27 : Int32) - (11 : Int32))), .val (.ref d105)]) rfl k) ?_
          refine own_st (V := T105.setTop (mkF m 214 #[.val (.int p1), .val (.int y), .val (.int va), .val (.int vb), .val (.int vc), .val (.int vk), .val (.int vp), .val (.int vq), .val (.int vM), .val (.int vN), .val (.int vd), .val (.int ve), .val (.int (27 : Int32)), .val (.int (4 : Int32)), .val (.int ((27 : Int32) - (11 : Int32))), .val (.ref d105)] [(.ref d105)])) (fun t k => XS.aload X105.here hx rfl (hb hby at_212) rfl rfl k) ?_
          obtain ⟨cq106, kq106, q106a, q106b, q106c⟩ := isOf hZ_105 rfl Ex105_q
          obtain ⟨_, _, ⟨T106, L106, k106, n106⟩, -, X106, ⟨Lc106, hQ106, l106, y106, z106⟩, st106⟩ := X105.virtualBack hx (y := (⟨"java/time/LocalDate", "getYear", "()I"⟩ : MethodName)) (z := (⟨"java/time/LocalDate", "getYear", "()I"⟩ : MethodName)) hown_105 (mvT hZ_105 (hw _ (List.mem_of_getElem? (i := 116) rfl))) (mvT hZ_105 (hw _ (List.mem_of_getElem? (i := 117) rfl))) (notFace_of_selects (args := #[]) (mvT hZ_105 (hw _ (List.mem_of_getElem? (i := 119) rfl)))) (mvT hZ_105 (hw _ (List.mem_of_getElem? (i := 119) rfl))) (mvT hZ_105 (hw _ (List.mem_of_getElem? (i := 118) rfl))) (by decide) (backOf (W := 0) (own_gy l Z a0 hw [] d105 y T105.heap n0 Z0_105 Fq105_0) hZ_105 (hw _ (List.mem_of_getElem? (i := 120) rfl)) (hw _ (List.mem_of_getElem? (i := 10) rfl)) (by decide) (by decide)) q106a q106c (g := (mkF m 214 #[.val (.int p1), .val (.int y), .val (.int va), .val (.int vb), .val (.int vc), .val (.int vk), .val (.int vp), .val (.int vq), .val (.int vM), .val (.int vN), .val (.int vd), .val (.int ve), .val (.int (27 : Int32)), .val (.int (4 : Int32)), .val (.int ((27 : Int32) - (11 : Int32))), .val (.ref d105)] [(.ref d105)])) rfl (by rw [hml]; rfl) (Steps.refl _) (argsL := []) (rest := []) (lenOf own_pd4 rfl) rfl (by show 2 * 0 + _ ≤ _; exact Nat.le_of_eq rfl) (hb hby at_214) (fun _ _ => ⟨rfl, rfl, (by decide : 5 + 0 ≤ _), (by decide : 33 + 0 ≤ _)⟩)
          dsimp only [Pt.U, Pt.locs, Pt.cells, Pt.slots] at X106 l106 y106 z106 st106 hQ106
          subst l106 y106 z106
          obtain ⟨rfl, N106q, e106⟩ := hQ106
          have N106 := Fr.app N105 N106q
          refine own_st (V := T106.setTop (mkF m 217 #[.val (.int p1), .val (.int y), .val (.int va), .val (.int vb), .val (.int vc), .val (.int vk), .val (.int vp), .val (.int vq), .val (.int vM), .val (.int vN), .val (.int vd), .val (.int ve), .val (.int (27 : Int32)), .val (.int (4 : Int32)), .val (.int ((27 : Int32) - (11 : Int32))), .val (.ref d105)] [(.int y)])) (fun t k => st106.trans k) ?_
          refine own_st (V := T106.setTop (mkF m 218 #[.val (.int p1), .val (.int y), .val (.int va), .val (.int vb), .val (.int vc), .val (.int vk), .val (.int vp), .val (.int vq), .val (.int vM), .val (.int vN), .val (.int vd), .val (.int ve), .val (.int (27 : Int32)), .val (.int (4 : Int32)), .val (.int ((27 : Int32) - (11 : Int32))), .val (.ref d105)] [(.int y), (.int y)])) (fun t k => XS.iloadN X106.here hx rfl (hb hby at_217) rfl k) ?_
          refine own_st (V := T106.setTop (mkF m 221 #[.val (.int p1), .val (.int y), .val (.int va), .val (.int vb), .val (.int vc), .val (.int vk), .val (.int vp), .val (.int vq), .val (.int vM), .val (.int vN), .val (.int vd), .val (.int ve), .val (.int (27 : Int32)), .val (.int (4 : Int32)), .val (.int ((27 : Int32) - (11 : Int32))), .val (.ref d105)] [])) (fun t k => XS.icmpNo X106.here hx rfl (hb hby at_218) rfl (teq rfl).2 k) ?_
          refine own_st (V := T106.setTop (mkF m 223 #[.val (.int p1), .val (.int y), .val (.int va), .val (.int vb), .val (.int vc), .val (.int vk), .val (.int vp), .val (.int vq), .val (.int vM), .val (.int vN), .val (.int vd), .val (.int ve), .val (.int (27 : Int32)), .val (.int (4 : Int32)), .val (.int ((27 : Int32) - (11 : Int32))), .val (.ref d105)] [(.ref d105)])) (fun t k => XS.aload X106.here hx rfl (hb hby at_221) rfl rfl k) ?_
          obtain ⟨cq107, kq107, q107a, q107b, q107c⟩ := isOf hZ_105 e106 Ex105_q
          obtain ⟨_, _, ⟨T107, L107, k107, n107⟩, -, X107, ⟨Lc107, hQ107, l107, y107, z107⟩, st107⟩ := X106.virtualBack hx (y := (⟨"java/time/LocalDate", "getMonthValue", "()I"⟩ : MethodName)) (z := (⟨"java/time/LocalDate", "getMonthValue", "()I"⟩ : MethodName)) hown_105 (mvT hZ_105 (hw _ (List.mem_of_getElem? (i := 121) rfl))) (mvT hZ_105 (hw _ (List.mem_of_getElem? (i := 122) rfl))) (notFace_of_selects (args := #[]) (mvT hZ_105 (hw _ (List.mem_of_getElem? (i := 124) rfl)))) (mvT hZ_105 (hw _ (List.mem_of_getElem? (i := 124) rfl))) (mvT hZ_105 (hw _ (List.mem_of_getElem? (i := 123) rfl))) (by decide) (backOf (W := 0) (own_gm l Z a0 hw [] d105 (4 : Int32) T105.heap n0 Z0_105 Fq105_1) hZ_105 (hw _ (List.mem_of_getElem? (i := 125) rfl)) (hw _ (List.mem_of_getElem? (i := 10) rfl)) (by decide) (by decide)) q107a q107c (g := (mkF m 223 #[.val (.int p1), .val (.int y), .val (.int va), .val (.int vb), .val (.int vc), .val (.int vk), .val (.int vp), .val (.int vq), .val (.int vM), .val (.int vN), .val (.int vd), .val (.int ve), .val (.int (27 : Int32)), .val (.int (4 : Int32)), .val (.int ((27 : Int32) - (11 : Int32))), .val (.ref d105)] [(.ref d105)])) rfl (by rw [hml]; rfl) (Steps.refl _) (argsL := []) (rest := []) (lenOf own_pd4 rfl) rfl (by show 2 * 0 + _ ≤ _; exact Nat.le_of_eq rfl) (hb hby at_223) (fun _ _ => ⟨rfl, e106, (by decide : 5 + 0 ≤ _), (by decide : 33 + 0 ≤ _)⟩)
          dsimp only [Pt.U, Pt.locs, Pt.cells, Pt.slots] at X107 l107 y107 z107 st107 hQ107
          subst l107 y107 z107
          obtain ⟨rfl, N107q, e107⟩ := hQ107
          have N107 := Fr.app N106 N107q
          refine own_st (V := T107.setTop (mkF m 226 #[.val (.int p1), .val (.int y), .val (.int va), .val (.int vb), .val (.int vc), .val (.int vk), .val (.int vp), .val (.int vq), .val (.int vM), .val (.int vN), .val (.int vd), .val (.int ve), .val (.int (27 : Int32)), .val (.int (4 : Int32)), .val (.int ((27 : Int32) - (11 : Int32))), .val (.ref d105)] [(.int (4 : Int32))])) (fun t k => st107.trans k) ?_
          refine own_st (V := T107.setTop (mkF m 228 #[.val (.int p1), .val (.int y), .val (.int va), .val (.int vb), .val (.int vc), .val (.int vk), .val (.int vp), .val (.int vq), .val (.int vM), .val (.int vN), .val (.int vd), .val (.int ve), .val (.int (27 : Int32)), .val (.int (4 : Int32)), .val (.int ((27 : Int32) - (11 : Int32))), .val (.ref d105)] [(.int (4 : Int32)), (.int (4 : Int32))])) (fun t k => XS.iload X107.here hx rfl (hb hby at_226) rfl k) ?_
          refine own_st (V := T107.setTop (mkF m 231 #[.val (.int p1), .val (.int y), .val (.int va), .val (.int vb), .val (.int vc), .val (.int vk), .val (.int vp), .val (.int vq), .val (.int vM), .val (.int vN), .val (.int vd), .val (.int ve), .val (.int (27 : Int32)), .val (.int (4 : Int32)), .val (.int ((27 : Int32) - (11 : Int32))), .val (.ref d105)] [])) (fun t k => XS.icmpNo X107.here hx rfl (hb hby at_228) rfl (teq (by decide : (4 : Int32) = (4 : Int32))).2 k) ?_
          refine own_st (V := T107.setTop (mkF m 233 #[.val (.int p1), .val (.int y), .val (.int va), .val (.int vb), .val (.int vc), .val (.int vk), .val (.int vp), .val (.int vq), .val (.int vM), .val (.int vN), .val (.int vd), .val (.int ve), .val (.int (27 : Int32)), .val (.int (4 : Int32)), .val (.int ((27 : Int32) - (11 : Int32))), .val (.ref d105)] [(.ref d105)])) (fun t k => XS.aload X107.here hx rfl (hb hby at_231) rfl rfl k) ?_
          obtain ⟨cq108, kq108, q108a, q108b, q108c⟩ := isOf hZ_105 e107 Ex105_q
          obtain ⟨_, _, ⟨T108, L108, k108, n108⟩, -, X108, ⟨Lc108, hQ108, l108, y108, z108⟩, st108⟩ := X107.virtualBack hx (y := (⟨"java/time/LocalDate", "getDayOfMonth", "()I"⟩ : MethodName)) (z := (⟨"java/time/LocalDate", "getDayOfMonth", "()I"⟩ : MethodName)) hown_105 (mvT hZ_105 (hw _ (List.mem_of_getElem? (i := 126) rfl))) (mvT hZ_105 (hw _ (List.mem_of_getElem? (i := 127) rfl))) (notFace_of_selects (args := #[]) (mvT hZ_105 (hw _ (List.mem_of_getElem? (i := 129) rfl)))) (mvT hZ_105 (hw _ (List.mem_of_getElem? (i := 129) rfl))) (mvT hZ_105 (hw _ (List.mem_of_getElem? (i := 128) rfl))) (by decide) (backOf (W := 0) (own_gd l Z a0 hw [] d105 r105 T105.heap n0 Z0_105 Fq105_2) hZ_105 (hw _ (List.mem_of_getElem? (i := 130) rfl)) (hw _ (List.mem_of_getElem? (i := 10) rfl)) (by decide) (by decide)) q108a q108c (g := (mkF m 233 #[.val (.int p1), .val (.int y), .val (.int va), .val (.int vb), .val (.int vc), .val (.int vk), .val (.int vp), .val (.int vq), .val (.int vM), .val (.int vN), .val (.int vd), .val (.int ve), .val (.int (27 : Int32)), .val (.int (4 : Int32)), .val (.int ((27 : Int32) - (11 : Int32))), .val (.ref d105)] [(.ref d105)])) rfl (by rw [hml]; rfl) (Steps.refl _) (argsL := []) (rest := []) (lenOf own_pd4 rfl) rfl (by show 2 * 0 + _ ≤ _; exact Nat.le_of_eq rfl) (hb hby at_233) (fun _ _ => ⟨rfl, e107, (by decide : 5 + 0 ≤ _), (by decide : 33 + 0 ≤ _)⟩)
          dsimp only [Pt.U, Pt.locs, Pt.cells, Pt.slots] at X108 l108 y108 z108 st108 hQ108
          subst l108 y108 z108
          obtain ⟨rfl, N108q, e108⟩ := hQ108
          have N108 := Fr.app N107 N108q
          refine own_st (V := T108.setTop (mkF m 236 #[.val (.int p1), .val (.int y), .val (.int va), .val (.int vb), .val (.int vc), .val (.int vk), .val (.int vp), .val (.int vq), .val (.int vM), .val (.int vN), .val (.int vd), .val (.int ve), .val (.int (27 : Int32)), .val (.int (4 : Int32)), .val (.int ((27 : Int32) - (11 : Int32))), .val (.ref d105)] [(.int r105)])) (fun t k => st108.trans k) ?_
          refine own_st (V := T108.setTop (mkF m 238 #[.val (.int p1), .val (.int y), .val (.int va), .val (.int vb), .val (.int vc), .val (.int vk), .val (.int vp), .val (.int vq), .val (.int vM), .val (.int vN), .val (.int vd), .val (.int ve), .val (.int (27 : Int32)), .val (.int (4 : Int32)), .val (.int ((27 : Int32) - (11 : Int32))), .val (.ref d105)] [(.int ((27 : Int32) - (11 : Int32))), (.int r105)])) (fun t k => XS.iload X108.here hx rfl (hb hby at_236) rfl k) ?_
          refine own_st (V := T108.setTop (mkF m 241 #[.val (.int p1), .val (.int y), .val (.int va), .val (.int vb), .val (.int vc), .val (.int vk), .val (.int vp), .val (.int vq), .val (.int vM), .val (.int vN), .val (.int vd), .val (.int ve), .val (.int (27 : Int32)), .val (.int (4 : Int32)), .val (.int ((27 : Int32) - (11 : Int32))), .val (.ref d105)] [])) (fun t k => XS.icmpNo X108.here hx rfl (hb hby at_238) rfl (teq (Int32.toInt_inj.mp (by rw [hrr]; decide))).2 k) ?_
          refine own_st (V := T108.setTop (mkF m 242 #[.val (.int p1), .val (.int y), .val (.int va), .val (.int vb), .val (.int vc), .val (.int vk), .val (.int vp), .val (.int vq), .val (.int vM), .val (.int vN), .val (.int vd), .val (.int ve), .val (.int (27 : Int32)), .val (.int (4 : Int32)), .val (.int ((27 : Int32) - (11 : Int32))), .val (.ref d105)] [(.int (1 : Int32))])) (fun t k => XS.iconst X108.here hx rfl (hb hby at_241) k) ?_
          refine own_st (V := T108.setTop (mkF m 246 #[.val (.int p1), .val (.int y), .val (.int va), .val (.int vb), .val (.int vc), .val (.int vk), .val (.int vp), .val (.int vq), .val (.int vM), .val (.int vN), .val (.int vd), .val (.int ve), .val (.int (27 : Int32)), .val (.int (4 : Int32)), .val (.int ((27 : Int32) - (11 : Int32))), .val (.ref d105)] [(.int (1 : Int32))])) (fun t k => XS.goto X108.here hx rfl (pc0 := 242) (pc' := 246) rfl (hb hby at_242) (by decide) (by decide) k) ?_
          exact own_retW (s := s) hSi105 (by rw [e108]; exact kz_105) X108 hx hlk Bd.returns (by decide +kernel) (Or.inl ⟨rfl, by simp, _, rfl⟩) (hb hby at_246) (by decide) (by decide) ⟨rfl, N108⟩
        · refine own_st (V := s₁.setTop (mkF m 176 #[.val (.int p1), .val (.int y), .val (.int va), .val (.int vb), .val (.int vc), .val (.int vk), .val (.int vp), .val (.int vq), .val (.int vM), .val (.int vN), .val (.int vd), .val (.int ve), .val (.int vs), .unset, .unset, .unset] [])) (fun t k => XS.icmpYes X0.here hx rfl (pc0 := 169) (pc' := 176) rfl (hb hby at_169) rfl (flt hcM).2.1 (by decide) (by decide) k) ?_
          have i_hcA : ¬ (vd.toInt = 29) := own_ine (by decide) hcA
          have i_hcC : vd.toInt = 28 := own_ieq (by decide) hcC
          have i_hcD : ve.toInt = 6 := own_ieq (by decide) hcD
          have i_M : ¬ (m9.toInt < 19) := own_n19 hcM
          have hS : own_ih y.toInt + own_il y.toInt - 7 * own_im y.toInt = vs.toInt := (LF.2.2 (fun q => i_hcA q.1) (fun q => i_M (by rw [h_m9]; exact q.2.2))).trans h_vs.symm
          clear LF
          refine own_st (V := s₁.setTop (mkF m 178 #[.val (.int p1), .val (.int y), .val (.int va), .val (.int vb), .val (.int vc), .val (.int vk), .val (.int vp), .val (.int vq), .val (.int vM), .val (.int vN), .val (.int vd), .val (.int ve), .val (.int vs), .unset, .unset, .unset] [(.int vs)])) (fun t k => XS.iload X0.here hx rfl (hb hby at_176) rfl k) ?_
          refine own_st (V := s₁.setTop (mkF m 180 #[.val (.int p1), .val (.int y), .val (.int va), .val (.int vb), .val (.int vc), .val (.int vk), .val (.int vp), .val (.int vq), .val (.int vM), .val (.int vN), .val (.int vd), .val (.int ve), .val (.int vs), .unset, .unset, .unset] [(.int (11 : Int32)), (.int vs)])) (fun t k => XS.bipush X0.here hx rfl (hb hby at_178) k) ?_
          by_cases hcS : (11 : Int32) < vs
          · refine own_st (V := s₁.setTop (mkF m 196 #[.val (.int p1), .val (.int y), .val (.int va), .val (.int vb), .val (.int vc), .val (.int vk), .val (.int vp), .val (.int vq), .val (.int vM), .val (.int vN), .val (.int vd), .val (.int ve), .val (.int vs), .unset, .unset, .unset] [])) (fun t k => XS.icmpYes X0.here hx rfl (pc0 := 180) (pc' := 196) rfl (hb hby at_180) rfl (tlt hcS).2.2.1 (by decide) (by decide) k) ?_
            refine own_st (V := s₁.setTop (mkF m 197 #[.val (.int p1), .val (.int y), .val (.int va), .val (.int vb), .val (.int vc), .val (.int vk), .val (.int vp), .val (.int vq), .val (.int vM), .val (.int vN), .val (.int vd), .val (.int ve), .val (.int vs), .unset, .unset, .unset] [(.int (4 : Int32))])) (fun t k => XS.iconst X0.here hx rfl (hb hby at_196) k) ?_
            refine own_st (V := s₁.setTop (mkF m 199 #[.val (.int p1), .val (.int y), .val (.int va), .val (.int vb), .val (.int vc), .val (.int vk), .val (.int vp), .val (.int vq), .val (.int vM), .val (.int vN), .val (.int vd), .val (.int ve), .val (.int vs), .val (.int (4 : Int32)), .unset, .unset] [])) (fun t k => XS.istore X0.here hx rfl (hb hby at_197) rfl (l' := #[.val (.int p1), .val (.int y), .val (.int va), .val (.int vb), .val (.int vc), .val (.int vk), .val (.int vp), .val (.int vq), .val (.int vM), .val (.int vN), .val (.int vd), .val (.int ve), .val (.int vs), .val (.int (4 : Int32)), .unset, .unset]) rfl k) ?_
            refine own_st (V := s₁.setTop (mkF m 201 #[.val (.int p1), .val (.int y), .val (.int va), .val (.int vb), .val (.int vc), .val (.int vk), .val (.int vp), .val (.int vq), .val (.int vM), .val (.int vN), .val (.int vd), .val (.int ve), .val (.int vs), .val (.int (4 : Int32)), .unset, .unset] [(.int vs)])) (fun t k => XS.iload X0.here hx rfl (hb hby at_199) rfl k) ?_
            refine own_st (V := s₁.setTop (mkF m 203 #[.val (.int p1), .val (.int y), .val (.int va), .val (.int vb), .val (.int vc), .val (.int vk), .val (.int vp), .val (.int vq), .val (.int vM), .val (.int vN), .val (.int vd), .val (.int ve), .val (.int vs), .val (.int (4 : Int32)), .unset, .unset] [(.int (11 : Int32)), (.int vs)])) (fun t k => XS.bipush X0.here hx rfl (hb hby at_201) k) ?_
            refine own_st (V := s₁.setTop (mkF m 204 #[.val (.int p1), .val (.int y), .val (.int va), .val (.int vb), .val (.int vc), .val (.int vk), .val (.int vp), .val (.int vq), .val (.int vM), .val (.int vN), .val (.int vd), .val (.int ve), .val (.int vs), .val (.int (4 : Int32)), .unset, .unset] [(.int (vs - (11 : Int32)))])) (fun t k => XS.isub X0.here hx rfl (hb hby at_203) rfl k) ?_
            refine own_st (V := s₁.setTop (mkF m 206 #[.val (.int p1), .val (.int y), .val (.int va), .val (.int vb), .val (.int vc), .val (.int vk), .val (.int vp), .val (.int vq), .val (.int vM), .val (.int vN), .val (.int vd), .val (.int ve), .val (.int vs), .val (.int (4 : Int32)), .val (.int (vs - (11 : Int32))), .unset] [])) (fun t k => XS.istore X0.here hx rfl (hb hby at_204) rfl (l' := #[.val (.int p1), .val (.int y), .val (.int va), .val (.int vb), .val (.int vc), .val (.int vk), .val (.int vp), .val (.int vq), .val (.int vM), .val (.int vN), .val (.int vd), .val (.int ve), .val (.int vs), .val (.int (4 : Int32)), .val (.int (vs - (11 : Int32))), .unset]) rfl k) ?_
            have i_S := own_i11 hcS
            refine own_st (V := s₁.setTop (mkF m 207 #[.val (.int p1), .val (.int y), .val (.int va), .val (.int vb), .val (.int vc), .val (.int vk), .val (.int vp), .val (.int vq), .val (.int vM), .val (.int vN), .val (.int vd), .val (.int ve), .val (.int vs), .val (.int (4 : Int32)), .val (.int (vs - (11 : Int32))), .unset] [(.int y)])) (fun t k => XS.iloadN X0.here hx rfl (hb hby at_206) rfl k) ?_
            obtain ⟨_, _, ⟨T109, L109, k109, n109⟩, -, X109, hSi109, hgr109, ⟨Lc109, hQ109, l109, y109, z109⟩, st109⟩ := Jvm.RoadKit.callSS X0 hx (y := (⟨"com/example/notewright/notewright/Holidays", "goodFriday", "(I)Ljava/time/LocalDate;"⟩ : MethodName)) hown (mvT hZ (hw _ (List.mem_of_getElem? (i := 2) rfl))) (mvT hZ (hw _ (List.mem_of_getElem? (i := 3) rfl))) (mvT hZ (hw _ (List.mem_of_getElem? (i := 4) rfl))) (mvT hZ (hw _ (List.mem_of_getElem? (i := 5) rfl))) (by decide) (backOfS (W := 0) (own_gf l Z a0 hw [] y cy ry cd rd ce re mm iso h0 n0 Z0 Od Wd hy0 hy1) hZ (hw _ (List.mem_of_getElem? (i := 5) rfl)) (hw _ (List.mem_of_getElem? (i := 4) rfl)) (by decide) (by decide)) (g := (mkF m 207 #[.val (.int p1), .val (.int y), .val (.int va), .val (.int vb), .val (.int vc), .val (.int vk), .val (.int vp), .val (.int vq), .val (.int vM), .val (.int vN), .val (.int vd), .val (.int ve), .val (.int vs), .val (.int (4 : Int32)), .val (.int (vs - (11 : Int32))), .unset] [(.int y)])) rfl (by rw [hml]; rfl) (argsL := [(.int y)]) (rest := []) (lenOf own_pd13 rfl) rfl (by show 2 * 0 + _ ≤ _; exact Nat.le_of_eq rfl) (hb hby at_207) (fun _ _ => ⟨rfl, e0, (by decide : 0 + 5 ≤ _), (by decide : 0 + 33 ≤ _)⟩)
            dsimp only [Pt.U, Pt.locs, Pt.cells, Pt.slots] at X109 l109 y109 z109 st109 hQ109
            subst l109 y109 z109
            dsimp only [Pt.U] at hSi109 hgr109
            obtain ⟨d109, r109, mo109, rfl, N109q, K109, Ex109_q, Fq109_0, Fq109_1, Fq109_2, hA109, hB109⟩ := hQ109
            have N109 := Fr.app N0 N109q
            have Z0_109 : n0 ≤ T109.heap.size := Nat.le_trans Z0 K109.1
            obtain ⟨rfl, hrr⟩ := hB109 (by rw [hS]; exact i_S)
            rw [hS] at hrr
            have Od109 := Od.keep K109 all0
            have hZ_109 : Z.Warmed39 (s.setVm T109.vm).vm := State.Warmed39.trans hZ hSi109.1
            have hown_109 : (s.setVm T109.vm).vm.findClass "com/example/notewright/notewright/HolidaysGoodFridayPinLaw" = some m.cls := by rw [show (s.setVm T109.vm).vm = T109.vm from rfl, hSi109.1.alike.findClass]; exact hown
            have X109 : Stand p l e _ (s.setVm T109.vm) m _ below meth c T109 _ _ _ := X109
            have kz_109 : T109.heap.size ≤ T109.heap.size := Nat.le_refl _
            refine own_st (V := T109.setTop (mkF m 210 #[.val (.int p1), .val (.int y), .val (.int va), .val (.int vb), .val (.int vc), .val (.int vk), .val (.int vp), .val (.int vq), .val (.int vM), .val (.int vN), .val (.int vd), .val (.int ve), .val (.int vs), .val (.int (4 : Int32)), .val (.int (vs - (11 : Int32))), .unset] [(.ref d109)])) (fun t k => st109.trans k) ?_
            refine own_st (V := T109.setTop (mkF m 212 #[.val (.int p1), .val (.int y), .val (.int va), .val (.int vb), .val (.int vc), .val (.int vk), .val (.int vp), .val (.int vq), .val (.int vM), .val (.int vN), .val (.int vd), .val (.int ve), .val (.int vs), .val (.int (4 : Int32)), .val (.int (vs - (11 : Int32))), .val (.ref d109)] [])) (fun t k => XS.astore X109.here hx rfl (hb hby at_210) rfl rfl (l' := #[.val (.int p1), .val (.int y), .val (.int va), .val (.int vb), .val (.int vc), .val (.int vk), .val (.int vp), .val (.int vq), .val (.int vM), .val (.int vN), .val (.int vd), .val (.int ve), .val (.int vs), .val (.int (4 : Int32)), .val (.int (vs - (11 : Int32))), .val (.ref d109)]) rfl k) ?_
            refine own_st (V := T109.setTop (mkF m 214 #[.val (.int p1), .val (.int y), .val (.int va), .val (.int vb), .val (.int vc), .val (.int vk), .val (.int vp), .val (.int vq), .val (.int vM), .val (.int vN), .val (.int vd), .val (.int ve), .val (.int vs), .val (.int (4 : Int32)), .val (.int (vs - (11 : Int32))), .val (.ref d109)] [(.ref d109)])) (fun t k => XS.aload X109.here hx rfl (hb hby at_212) rfl rfl k) ?_
            obtain ⟨cq110, kq110, q110a, q110b, q110c⟩ := isOf hZ_109 rfl Ex109_q
            obtain ⟨_, _, ⟨T110, L110, k110, n110⟩, -, X110, ⟨Lc110, hQ110, l110, y110, z110⟩, st110⟩ := X109.virtualBack hx (y := (⟨"java/time/LocalDate", "getYear", "()I"⟩ : MethodName)) (z := (⟨"java/time/LocalDate", "getYear", "()I"⟩ : MethodName)) hown_109 (mvT hZ_109 (hw _ (List.mem_of_getElem? (i := 116) rfl))) (mvT hZ_109 (hw _ (List.mem_of_getElem? (i := 117) rfl))) (notFace_of_selects (args := #[]) (mvT hZ_109 (hw _ (List.mem_of_getElem? (i := 119) rfl)))) (mvT hZ_109 (hw _ (List.mem_of_getElem? (i := 119) rfl))) (mvT hZ_109 (hw _ (List.mem_of_getElem? (i := 118) rfl))) (by decide) (backOf (W := 0) (own_gy l Z a0 hw [] d109 y T109.heap n0 Z0_109 Fq109_0) hZ_109 (hw _ (List.mem_of_getElem? (i := 120) rfl)) (hw _ (List.mem_of_getElem? (i := 10) rfl)) (by decide) (by decide)) q110a q110c (g := (mkF m 214 #[.val (.int p1), .val (.int y), .val (.int va), .val (.int vb), .val (.int vc), .val (.int vk), .val (.int vp), .val (.int vq), .val (.int vM), .val (.int vN), .val (.int vd), .val (.int ve), .val (.int vs), .val (.int (4 : Int32)), .val (.int (vs - (11 : Int32))), .val (.ref d109)] [(.ref d109)])) rfl (by rw [hml]; rfl) (Steps.refl _) (argsL := []) (rest := []) (lenOf own_pd4 rfl) rfl (by show 2 * 0 + _ ≤ _; exact Nat.le_of_eq rfl) (hb hby at_214) (fun _ _ => ⟨rfl, rfl, (by decide : 5 + 0 ≤ _), (by decide : 33 + 0 ≤ _)⟩)
            dsimp only [Pt.U, Pt.locs, Pt.cells, Pt.slots] at X110 l110 y110 z110 st110 hQ110
            subst l110 y110 z110
            obtain ⟨rfl, N110q, e110⟩ := hQ110
            have N110 := Fr.app N109 N110q
            refine own_st (V := T110.setTop (mkF m 217 #[.val (.int p1), .val (.int y), .val (.int va), .val (.int vb), .val (.int vc), .val (.int vk), .val (.int vp), .val (.int vq), .val (.int vM), .val (.int vN), .val (.int vd), .val (.int ve), .val (.int vs), .val (.int (4 : Int32)), .val (.int (vs - (11 : Int32))), .val (.ref d109)] [(.int y)])) (fun t k => st110.trans k) ?_
            refine own_st (V := T110.setTop (mkF m 218 #[.val (.int p1), .val (.int y), .val (.int va), .val (.int vb), .val (.int vc), .val (.int vk), .val (.int vp), .val (.int vq), .val (.int vM), .val (.int vN), .val (.int vd), .val (.int ve), .val (.int vs), .val (.int (4 : Int32)), .val (.int (vs - (11 : Int32))), .val (.ref d109)] [(.int y), (.int y)])) (fun t k => XS.iloadN X110.here hx rfl (hb hby at_217) rfl k) ?_
            refine own_st (V := T110.setTop (mkF m 221 #[.val (.int p1), .val (.int y), .val (.int va), .val (.int vb), .val (.int vc), .val (.int vk), .val (.int vp), .val (.int vq), .val (.int vM), .val (.int vN), .val (.int vd), .val (.int ve), .val (.int vs), .val (.int (4 : Int32)), .val (.int (vs - (11 : Int32))), .val (.ref d109)] [])) (fun t k => XS.icmpNo X110.here hx rfl (hb hby at_218) rfl (teq rfl).2 k) ?_
            refine own_st (V := T110.setTop (mkF m 223 #[.val (.int p1), .val (.int y), .val (.int va), .val (.int vb), .val (.int vc), .val (.int vk), .val (.int vp), .val (.int vq), .val (.int vM), .val (.int vN), .val (.int vd), .val (.int ve), .val (.int vs), .val (.int (4 : Int32)), .val (.int (vs - (11 : Int32))), .val (.ref d109)] [(.ref d109)])) (fun t k => XS.aload X110.here hx rfl (hb hby at_221) rfl rfl k) ?_
            obtain ⟨cq111, kq111, q111a, q111b, q111c⟩ := isOf hZ_109 e110 Ex109_q
            obtain ⟨_, _, ⟨T111, L111, k111, n111⟩, -, X111, ⟨Lc111, hQ111, l111, y111, z111⟩, st111⟩ := X110.virtualBack hx (y := (⟨"java/time/LocalDate", "getMonthValue", "()I"⟩ : MethodName)) (z := (⟨"java/time/LocalDate", "getMonthValue", "()I"⟩ : MethodName)) hown_109 (mvT hZ_109 (hw _ (List.mem_of_getElem? (i := 121) rfl))) (mvT hZ_109 (hw _ (List.mem_of_getElem? (i := 122) rfl))) (notFace_of_selects (args := #[]) (mvT hZ_109 (hw _ (List.mem_of_getElem? (i := 124) rfl)))) (mvT hZ_109 (hw _ (List.mem_of_getElem? (i := 124) rfl))) (mvT hZ_109 (hw _ (List.mem_of_getElem? (i := 123) rfl))) (by decide) (backOf (W := 0) (own_gm l Z a0 hw [] d109 (4 : Int32) T109.heap n0 Z0_109 Fq109_1) hZ_109 (hw _ (List.mem_of_getElem? (i := 125) rfl)) (hw _ (List.mem_of_getElem? (i := 10) rfl)) (by decide) (by decide)) q111a q111c (g := (mkF m 223 #[.val (.int p1), .val (.int y), .val (.int va), .val (.int vb), .val (.int vc), .val (.int vk), .val (.int vp), .val (.int vq), .val (.int vM), .val (.int vN), .val (.int vd), .val (.int ve), .val (.int vs), .val (.int (4 : Int32)), .val (.int (vs - (11 : Int32))), .val (.ref d109)] [(.ref d109)])) rfl (by rw [hml]; rfl) (Steps.refl _) (argsL := []) (rest := []) (lenOf own_pd4 rfl) rfl (by show 2 * 0 + _ ≤ _; exact Nat.le_of_eq rfl) (hb hby at_223) (fun _ _ => ⟨rfl, e110, (by decide : 5 + 0 ≤ _), (by decide : 33 + 0 ≤ _)⟩)
            dsimp only [Pt.U, Pt.locs, Pt.cells, Pt.slots] at X111 l111 y111 z111 st111 hQ111
            subst l111 y111 z111
            obtain ⟨rfl, N111q, e111⟩ := hQ111
            have N111 := Fr.app N110 N111q
            refine own_st (V := T111.setTop (mkF m 226 #[.val (.int p1), .val (.int y), .val (.int va), .val (.int vb), .val (.int vc), .val (.int vk), .val (.int vp), .val (.int vq), .val (.int vM), .val (.int vN), .val (.int vd), .val (.int ve), .val (.int vs), .val (.int (4 : Int32)), .val (.int (vs - (11 : Int32))), .val (.ref d109)] [(.int (4 : Int32))])) (fun t k => st111.trans k) ?_
            refine own_st (V := T111.setTop (mkF m 228 #[.val (.int p1), .val (.int y), .val (.int va), .val (.int vb), .val (.int vc), .val (.int vk), .val (.int vp), .val (.int vq), .val (.int vM), .val (.int vN), .val (.int vd), .val (.int ve), .val (.int vs), .val (.int (4 : Int32)), .val (.int (vs - (11 : Int32))), .val (.ref d109)] [(.int (4 : Int32)), (.int (4 : Int32))])) (fun t k => XS.iload X111.here hx rfl (hb hby at_226) rfl k) ?_
            refine own_st (V := T111.setTop (mkF m 231 #[.val (.int p1), .val (.int y), .val (.int va), .val (.int vb), .val (.int vc), .val (.int vk), .val (.int vp), .val (.int vq), .val (.int vM), .val (.int vN), .val (.int vd), .val (.int ve), .val (.int vs), .val (.int (4 : Int32)), .val (.int (vs - (11 : Int32))), .val (.ref d109)] [])) (fun t k => XS.icmpNo X111.here hx rfl (hb hby at_228) rfl (teq (by decide : (4 : Int32) = (4 : Int32))).2 k) ?_
            refine own_st (V := T111.setTop (mkF m 233 #[.val (.int p1), .val (.int y), .val (.int va), .val (.int vb), .val (.int vc), .val (.int vk), .val (.int vp), .val (.int vq), .val (.int vM), .val (.int vN), .val (.int vd), .val (.int ve), .val (.int vs), .val (.int (4 : Int32)), .val (.int (vs - (11 : Int32))), .val (.ref d109)] [(.ref d109)])) (fun t k => XS.aload X111.here hx rfl (hb hby at_231) rfl rfl k) ?_
            obtain ⟨cq112, kq112, q112a, q112b, q112c⟩ := isOf hZ_109 e111 Ex109_q
            obtain ⟨_, _, ⟨T112, L112, k112, n112⟩, -, X112, ⟨Lc112, hQ112, l112, y112, z112⟩, st112⟩ := X111.virtualBack hx (y := (⟨"java/time/LocalDate", "getDayOfMonth", "()I"⟩ : MethodName)) (z := (⟨"java/time/LocalDate", "getDayOfMonth", "()I"⟩ : MethodName)) hown_109 (mvT hZ_109 (hw _ (List.mem_of_getElem? (i := 126) rfl))) (mvT hZ_109 (hw _ (List.mem_of_getElem? (i := 127) rfl))) (notFace_of_selects (args := #[]) (mvT hZ_109 (hw _ (List.mem_of_getElem? (i := 129) rfl)))) (mvT hZ_109 (hw _ (List.mem_of_getElem? (i := 129) rfl))) (mvT hZ_109 (hw _ (List.mem_of_getElem? (i := 128) rfl))) (by decide) (backOf (W := 0) (own_gd l Z a0 hw [] d109 r109 T109.heap n0 Z0_109 Fq109_2) hZ_109 (hw _ (List.mem_of_getElem? (i := 130) rfl)) (hw _ (List.mem_of_getElem? (i := 10) rfl)) (by decide) (by decide)) q112a q112c (g := (mkF m 233 #[.val (.int p1), .val (.int y), .val (.int va), .val (.int vb), .val (.int vc), .val (.int vk), .val (.int vp), .val (.int vq), .val (.int vM), .val (.int vN), .val (.int vd), .val (.int ve), .val (.int vs), .val (.int (4 : Int32)), .val (.int (vs - (11 : Int32))), .val (.ref d109)] [(.ref d109)])) rfl (by rw [hml]; rfl) (Steps.refl _) (argsL := []) (rest := []) (lenOf own_pd4 rfl) rfl (by show 2 * 0 + _ ≤ _; exact Nat.le_of_eq rfl) (hb hby at_233) (fun _ _ => ⟨rfl, e111, (by decide : 5 + 0 ≤ _), (by decide : 33 + 0 ≤ _)⟩)
            dsimp only [Pt.U, Pt.locs, Pt.cells, Pt.slots] at X112 l112 y112 z112 st112 hQ112
            subst l112 y112 z112
            obtain ⟨rfl, N112q, e112⟩ := hQ112
            have N112 := Fr.app N111 N112q
            refine own_st (V := T112.setTop (mkF m 236 #[.val (.int p1), .val (.int y), .val (.int va), .val (.int vb), .val (.int vc), .val (.int vk), .val (.int vp), .val (.int vq), .val (.int vM), .val (.int vN), .val (.int vd), .val (.int ve), .val (.int vs), .val (.int (4 : Int32)), .val (.int (vs - (11 : Int32))), .val (.ref d109)] [(.int r109)])) (fun t k => st112.trans k) ?_
            refine own_st (V := T112.setTop (mkF m 238 #[.val (.int p1), .val (.int y), .val (.int va), .val (.int vb), .val (.int vc), .val (.int vk), .val (.int vp), .val (.int vq), .val (.int vM), .val (.int vN), .val (.int vd), .val (.int ve), .val (.int vs), .val (.int (4 : Int32)), .val (.int (vs - (11 : Int32))), .val (.ref d109)] [(.int (vs - (11 : Int32))), (.int r109)])) (fun t k => XS.iload X112.here hx rfl (hb hby at_236) rfl k) ?_
            refine own_st (V := T112.setTop (mkF m 241 #[.val (.int p1), .val (.int y), .val (.int va), .val (.int vb), .val (.int vc), .val (.int vk), .val (.int vp), .val (.int vq), .val (.int vM), .val (.int vN), .val (.int vd), .val (.int ve), .val (.int vs), .val (.int (4 : Int32)), .val (.int (vs - (11 : Int32))), .val (.ref d109)] [])) (fun t k => XS.icmpNo X112.here hx rfl (hb hby at_238) rfl (teq (Int32.toInt_inj.mp (by rw [hrr, own_d4 vs r_s.1 r_s.2]))).2 k) ?_
            refine own_st (V := T112.setTop (mkF m 242 #[.val (.int p1), .val (.int y), .val (.int va), .val (.int vb), .val (.int vc), .val (.int vk), .val (.int vp), .val (.int vq), .val (.int vM), .val (.int vN), .val (.int vd), .val (.int ve), .val (.int vs), .val (.int (4 : Int32)), .val (.int (vs - (11 : Int32))), .val (.ref d109)] [(.int (1 : Int32))])) (fun t k => XS.iconst X112.here hx rfl (hb hby at_241) k) ?_
            refine own_st (V := T112.setTop (mkF m 246 #[.val (.int p1), .val (.int y), .val (.int va), .val (.int vb), .val (.int vc), .val (.int vk), .val (.int vp), .val (.int vq), .val (.int vM), .val (.int vN), .val (.int vd), .val (.int ve), .val (.int vs), .val (.int (4 : Int32)), .val (.int (vs - (11 : Int32))), .val (.ref d109)] [(.int (1 : Int32))])) (fun t k => XS.goto X112.here hx rfl (pc0 := 242) (pc' := 246) rfl (hb hby at_242) (by decide) (by decide) k) ?_
            exact own_retW (s := s) hSi109 (by rw [e112]; exact kz_109) X112 hx hlk Bd.returns (by decide +kernel) (Or.inl ⟨rfl, by simp, _, rfl⟩) (hb hby at_246) (by decide) (by decide) ⟨rfl, N112⟩
          · refine own_st (V := s₁.setTop (mkF m 183 #[.val (.int p1), .val (.int y), .val (.int va), .val (.int vb), .val (.int vc), .val (.int vk), .val (.int vp), .val (.int vq), .val (.int vM), .val (.int vN), .val (.int vd), .val (.int ve), .val (.int vs), .unset, .unset, .unset] [])) (fun t k => XS.icmpNo X0.here hx rfl (hb hby at_180) rfl (flt hcS).2.2.1 k) ?_
            refine own_st (V := s₁.setTop (mkF m 184 #[.val (.int p1), .val (.int y), .val (.int va), .val (.int vb), .val (.int vc), .val (.int vk), .val (.int vp), .val (.int vq), .val (.int vM), .val (.int vN), .val (.int vd), .val (.int ve), .val (.int vs), .unset, .unset, .unset] [(.int (3 : Int32))])) (fun t k => XS.iconst X0.here hx rfl (hb hby at_183) k) ?_
            refine own_st (V := s₁.setTop (mkF m 186 #[.val (.int p1), .val (.int y), .val (.int va), .val (.int vb), .val (.int vc), .val (.int vk), .val (.int vp), .val (.int vq), .val (.int vM), .val (.int vN), .val (.int vd), .val (.int ve), .val (.int vs), .val (.int (3 : Int32)), .unset, .unset] [])) (fun t k => XS.istore X0.here hx rfl (hb hby at_184) rfl (l' := #[.val (.int p1), .val (.int y), .val (.int va), .val (.int vb), .val (.int vc), .val (.int vk), .val (.int vp), .val (.int vq), .val (.int vM), .val (.int vN), .val (.int vd), .val (.int ve), .val (.int vs), .val (.int (3 : Int32)), .unset, .unset]) rfl k) ?_
            refine own_st (V := s₁.setTop (mkF m 188 #[.val (.int p1), .val (.int y), .val (.int va), .val (.int vb), .val (.int vc), .val (.int vk), .val (.int vp), .val (.int vq), .val (.int vM), .val (.int vN), .val (.int vd), .val (.int ve), .val (.int vs), .val (.int (3 : Int32)), .unset, .unset] [(.int (20 : Int32))])) (fun t k => XS.bipush X0.here hx rfl (hb hby at_186) k) ?_
            refine own_st (V := s₁.setTop (mkF m 190 #[.val (.int p1), .val (.int y), .val (.int va), .val (.int vb), .val (.int vc), .val (.int vk), .val (.int vp), .val (.int vq), .val (.int vM), .val (.int vN), .val (.int vd), .val (.int ve), .val (.int vs), .val (.int (3 : Int32)), .unset, .unset] [(.int vs), (.int (20 : Int32))])) (fun t k => XS.iload X0.here hx rfl (hb hby at_188) rfl k) ?_
            refine own_st (V := s₁.setTop (mkF m 191 #[.val (.int p1), .val (.int y), .val (.int va), .val (.int vb), .val (.int vc), .val (.int vk), .val (.int vp), .val (.int vq), .val (.int vM), .val (.int vN), .val (.int vd), .val (.int ve), .val (.int vs), .val (.int (3 : Int32)), .unset, .unset] [(.int ((20 : Int32) + vs))])) (fun t k => XS.iadd X0.here hx rfl (hb hby at_190) rfl k) ?_
            refine own_st (V := s₁.setTop (mkF m 193 #[.val (.int p1), .val (.int y), .val (.int va), .val (.int vb), .val (.int vc), .val (.int vk), .val (.int vp), .val (.int vq), .val (.int vM), .val (.int vN), .val (.int vd), .val (.int ve), .val (.int vs), .val (.int (3 : Int32)), .val (.int ((20 : Int32) + vs)), .unset] [])) (fun t k => XS.istore X0.here hx rfl (hb hby at_191) rfl (l' := #[.val (.int p1), .val (.int y), .val (.int va), .val (.int vb), .val (.int vc), .val (.int vk), .val (.int vp), .val (.int vq), .val (.int vM), .val (.int vN), .val (.int vd), .val (.int ve), .val (.int vs), .val (.int (3 : Int32)), .val (.int ((20 : Int32) + vs)), .unset]) rfl k) ?_
            refine own_st (V := s₁.setTop (mkF m 206 #[.val (.int p1), .val (.int y), .val (.int va), .val (.int vb), .val (.int vc), .val (.int vk), .val (.int vp), .val (.int vq), .val (.int vM), .val (.int vN), .val (.int vd), .val (.int ve), .val (.int vs), .val (.int (3 : Int32)), .val (.int ((20 : Int32) + vs)), .unset] [])) (fun t k => XS.goto X0.here hx rfl (pc0 := 193) (pc' := 206) rfl (hb hby at_193) (by decide) (by decide) k) ?_
            have i_S := own_n11 hcS
            refine own_st (V := s₁.setTop (mkF m 207 #[.val (.int p1), .val (.int y), .val (.int va), .val (.int vb), .val (.int vc), .val (.int vk), .val (.int vp), .val (.int vq), .val (.int vM), .val (.int vN), .val (.int vd), .val (.int ve), .val (.int vs), .val (.int (3 : Int32)), .val (.int ((20 : Int32) + vs)), .unset] [(.int y)])) (fun t k => XS.iloadN X0.here hx rfl (hb hby at_206) rfl k) ?_
            obtain ⟨_, _, ⟨T113, L113, k113, n113⟩, -, X113, hSi113, hgr113, ⟨Lc113, hQ113, l113, y113, z113⟩, st113⟩ := Jvm.RoadKit.callSS X0 hx (y := (⟨"com/example/notewright/notewright/Holidays", "goodFriday", "(I)Ljava/time/LocalDate;"⟩ : MethodName)) hown (mvT hZ (hw _ (List.mem_of_getElem? (i := 2) rfl))) (mvT hZ (hw _ (List.mem_of_getElem? (i := 3) rfl))) (mvT hZ (hw _ (List.mem_of_getElem? (i := 4) rfl))) (mvT hZ (hw _ (List.mem_of_getElem? (i := 5) rfl))) (by decide) (backOfS (W := 0) (own_gf l Z a0 hw [] y cy ry cd rd ce re mm iso h0 n0 Z0 Od Wd hy0 hy1) hZ (hw _ (List.mem_of_getElem? (i := 5) rfl)) (hw _ (List.mem_of_getElem? (i := 4) rfl)) (by decide) (by decide)) (g := (mkF m 207 #[.val (.int p1), .val (.int y), .val (.int va), .val (.int vb), .val (.int vc), .val (.int vk), .val (.int vp), .val (.int vq), .val (.int vM), .val (.int vN), .val (.int vd), .val (.int ve), .val (.int vs), .val (.int (3 : Int32)), .val (.int ((20 : Int32) + vs)), .unset] [(.int y)])) rfl (by rw [hml]; rfl) (argsL := [(.int y)]) (rest := []) (lenOf own_pd13 rfl) rfl (by show 2 * 0 + _ ≤ _; exact Nat.le_of_eq rfl) (hb hby at_207) (fun _ _ => ⟨rfl, e0, (by decide : 0 + 5 ≤ _), (by decide : 0 + 33 ≤ _)⟩)
            dsimp only [Pt.U, Pt.locs, Pt.cells, Pt.slots] at X113 l113 y113 z113 st113 hQ113
            subst l113 y113 z113
            dsimp only [Pt.U] at hSi113 hgr113
            obtain ⟨d113, r113, mo113, rfl, N113q, K113, Ex113_q, Fq113_0, Fq113_1, Fq113_2, hA113, hB113⟩ := hQ113
            have N113 := Fr.app N0 N113q
            have Z0_113 : n0 ≤ T113.heap.size := Nat.le_trans Z0 K113.1
            obtain ⟨rfl, hrr⟩ := hA113 (by rw [hS]; exact i_S)
            rw [hS] at hrr
            have Od113 := Od.keep K113 all0
            have hZ_113 : Z.Warmed39 (s.setVm T113.vm).vm := State.Warmed39.trans hZ hSi113.1
            have hown_113 : (s.setVm T113.vm).vm.findClass "com/example/notewright/notewright/HolidaysGoodFridayPinLaw" = some m.cls := by rw [show (s.setVm T113.vm).vm = T113.vm from rfl, hSi113.1.alike.findClass]; exact hown
            have X113 : Stand p l e _ (s.setVm T113.vm) m _ below meth c T113 _ _ _ := X113
            have kz_113 : T113.heap.size ≤ T113.heap.size := Nat.le_refl _
            refine own_st (V := T113.setTop (mkF m 210 #[.val (.int p1), .val (.int y), .val (.int va), .val (.int vb), .val (.int vc), .val (.int vk), .val (.int vp), .val (.int vq), .val (.int vM), .val (.int vN), .val (.int vd), .val (.int ve), .val (.int vs), .val (.int (3 : Int32)), .val (.int ((20 : Int32) + vs)), .unset] [(.ref d113)])) (fun t k => st113.trans k) ?_
            refine own_st (V := T113.setTop (mkF m 212 #[.val (.int p1), .val (.int y), .val (.int va), .val (.int vb), .val (.int vc), .val (.int vk), .val (.int vp), .val (.int vq), .val (.int vM), .val (.int vN), .val (.int vd), .val (.int ve), .val (.int vs), .val (.int (3 : Int32)), .val (.int ((20 : Int32) + vs)), .val (.ref d113)] [])) (fun t k => XS.astore X113.here hx rfl (hb hby at_210) rfl rfl (l' := #[.val (.int p1), .val (.int y), .val (.int va), .val (.int vb), .val (.int vc), .val (.int vk), .val (.int vp), .val (.int vq), .val (.int vM), .val (.int vN), .val (.int vd), .val (.int ve), .val (.int vs), .val (.int (3 : Int32)), .val (.int ((20 : Int32) + vs)), .val (.ref d113)]) rfl k) ?_
            refine own_st (V := T113.setTop (mkF m 214 #[.val (.int p1), .val (.int y), .val (.int va), .val (.int vb), .val (.int vc), .val (.int vk), .val (.int vp), .val (.int vq), .val (.int vM), .val (.int vN), .val (.int vd), .val (.int ve), .val (.int vs), .val (.int (3 : Int32)), .val (.int ((20 : Int32) + vs)), .val (.ref d113)] [(.ref d113)])) (fun t k => XS.aload X113.here hx rfl (hb hby at_212) rfl rfl k) ?_
            obtain ⟨cq114, kq114, q114a, q114b, q114c⟩ := isOf hZ_113 rfl Ex113_q
            obtain ⟨_, _, ⟨T114, L114, k114, n114⟩, -, X114, ⟨Lc114, hQ114, l114, y114, z114⟩, st114⟩ := X113.virtualBack hx (y := (⟨"java/time/LocalDate", "getYear", "()I"⟩ : MethodName)) (z := (⟨"java/time/LocalDate", "getYear", "()I"⟩ : MethodName)) hown_113 (mvT hZ_113 (hw _ (List.mem_of_getElem? (i := 116) rfl))) (mvT hZ_113 (hw _ (List.mem_of_getElem? (i := 117) rfl))) (notFace_of_selects (args := #[]) (mvT hZ_113 (hw _ (List.mem_of_getElem? (i := 119) rfl)))) (mvT hZ_113 (hw _ (List.mem_of_getElem? (i := 119) rfl))) (mvT hZ_113 (hw _ (List.mem_of_getElem? (i := 118) rfl))) (by decide) (backOf (W := 0) (own_gy l Z a0 hw [] d113 y T113.heap n0 Z0_113 Fq113_0) hZ_113 (hw _ (List.mem_of_getElem? (i := 120) rfl)) (hw _ (List.mem_of_getElem? (i := 10) rfl)) (by decide) (by decide)) q114a q114c (g := (mkF m 214 #[.val (.int p1), .val (.int y), .val (.int va), .val (.int vb), .val (.int vc), .val (.int vk), .val (.int vp), .val (.int vq), .val (.int vM), .val (.int vN), .val (.int vd), .val (.int ve), .val (.int vs), .val (.int (3 : Int32)), .val (.int ((20 : Int32) + vs)), .val (.ref d113)] [(.ref d113)])) rfl (by rw [hml]; rfl) (Steps.refl _) (argsL := []) (rest := []) (lenOf own_pd4 rfl) rfl (by show 2 * 0 + _ ≤ _; exact Nat.le_of_eq rfl) (hb hby at_214) (fun _ _ => ⟨rfl, rfl, (by decide : 5 + 0 ≤ _), (by decide : 33 + 0 ≤ _)⟩)
            dsimp only [Pt.U, Pt.locs, Pt.cells, Pt.slots] at X114 l114 y114 z114 st114 hQ114
            subst l114 y114 z114
            obtain ⟨rfl, N114q, e114⟩ := hQ114
            have N114 := Fr.app N113 N114q
            refine own_st (V := T114.setTop (mkF m 217 #[.val (.int p1), .val (.int y), .val (.int va), .val (.int vb), .val (.int vc), .val (.int vk), .val (.int vp), .val (.int vq), .val (.int vM), .val (.int vN), .val (.int vd), .val (.int ve), .val (.int vs), .val (.int (3 : Int32)), .val (.int ((20 : Int32) + vs)), .val (.ref d113)] [(.int y)])) (fun t k => st114.trans k) ?_
            refine own_st (V := T114.setTop (mkF m 218 #[.val (.int p1), .val (.int y), .val (.int va), .val (.int vb), .val (.int vc), .val (.int vk), .val (.int vp), .val (.int vq), .val (.int vM), .val (.int vN), .val (.int vd), .val (.int ve), .val (.int vs), .val (.int (3 : Int32)), .val (.int ((20 : Int32) + vs)), .val (.ref d113)] [(.int y), (.int y)])) (fun t k => XS.iloadN X114.here hx rfl (hb hby at_217) rfl k) ?_
            refine own_st (V := T114.setTop (mkF m 221 #[.val (.int p1), .val (.int y), .val (.int va), .val (.int vb), .val (.int vc), .val (.int vk), .val (.int vp), .val (.int vq), .val (.int vM), .val (.int vN), .val (.int vd), .val (.int ve), .val (.int vs), .val (.int (3 : Int32)), .val (.int ((20 : Int32) + vs)), .val (.ref d113)] [])) (fun t k => XS.icmpNo X114.here hx rfl (hb hby at_218) rfl (teq rfl).2 k) ?_
            refine own_st (V := T114.setTop (mkF m 223 #[.val (.int p1), .val (.int y), .val (.int va), .val (.int vb), .val (.int vc), .val (.int vk), .val (.int vp), .val (.int vq), .val (.int vM), .val (.int vN), .val (.int vd), .val (.int ve), .val (.int vs), .val (.int (3 : Int32)), .val (.int ((20 : Int32) + vs)), .val (.ref d113)] [(.ref d113)])) (fun t k => XS.aload X114.here hx rfl (hb hby at_221) rfl rfl k) ?_
            obtain ⟨cq115, kq115, q115a, q115b, q115c⟩ := isOf hZ_113 e114 Ex113_q
            obtain ⟨_, _, ⟨T115, L115, k115, n115⟩, -, X115, ⟨Lc115, hQ115, l115, y115, z115⟩, st115⟩ := X114.virtualBack hx (y := (⟨"java/time/LocalDate", "getMonthValue", "()I"⟩ : MethodName)) (z := (⟨"java/time/LocalDate", "getMonthValue", "()I"⟩ : MethodName)) hown_113 (mvT hZ_113 (hw _ (List.mem_of_getElem? (i := 121) rfl))) (mvT hZ_113 (hw _ (List.mem_of_getElem? (i := 122) rfl))) (notFace_of_selects (args := #[]) (mvT hZ_113 (hw _ (List.mem_of_getElem? (i := 124) rfl)))) (mvT hZ_113 (hw _ (List.mem_of_getElem? (i := 124) rfl))) (mvT hZ_113 (hw _ (List.mem_of_getElem? (i := 123) rfl))) (by decide) (backOf (W := 0) (own_gm l Z a0 hw [] d113 (3 : Int32) T113.heap n0 Z0_113 Fq113_1) hZ_113 (hw _ (List.mem_of_getElem? (i := 125) rfl)) (hw _ (List.mem_of_getElem? (i := 10) rfl)) (by decide) (by decide)) q115a q115c (g := (mkF m 223 #[.val (.int p1), .val (.int y), .val (.int va), .val (.int vb), .val (.int vc), .val (.int vk), .val (.int vp), .val (.int vq), .val (.int vM), .val (.int vN), .val (.int vd), .val (.int ve), .val (.int vs), .val (.int (3 : Int32)), .val (.int ((20 : Int32) + vs)), .val (.ref d113)] [(.ref d113)])) rfl (by rw [hml]; rfl) (Steps.refl _) (argsL := []) (rest := []) (lenOf own_pd4 rfl) rfl (by show 2 * 0 + _ ≤ _; exact Nat.le_of_eq rfl) (hb hby at_223) (fun _ _ => ⟨rfl, e114, (by decide : 5 + 0 ≤ _), (by decide : 33 + 0 ≤ _)⟩)
            dsimp only [Pt.U, Pt.locs, Pt.cells, Pt.slots] at X115 l115 y115 z115 st115 hQ115
            subst l115 y115 z115
            obtain ⟨rfl, N115q, e115⟩ := hQ115
            have N115 := Fr.app N114 N115q
            refine own_st (V := T115.setTop (mkF m 226 #[.val (.int p1), .val (.int y), .val (.int va), .val (.int vb), .val (.int vc), .val (.int vk), .val (.int vp), .val (.int vq), .val (.int vM), .val (.int vN), .val (.int vd), .val (.int ve), .val (.int vs), .val (.int (3 : Int32)), .val (.int ((20 : Int32) + vs)), .val (.ref d113)] [(.int (3 : Int32))])) (fun t k => st115.trans k) ?_
            refine own_st (V := T115.setTop (mkF m 228 #[.val (.int p1), .val (.int y), .val (.int va), .val (.int vb), .val (.int vc), .val (.int vk), .val (.int vp), .val (.int vq), .val (.int vM), .val (.int vN), .val (.int vd), .val (.int ve), .val (.int vs), .val (.int (3 : Int32)), .val (.int ((20 : Int32) + vs)), .val (.ref d113)] [(.int (3 : Int32)), (.int (3 : Int32))])) (fun t k => XS.iload X115.here hx rfl (hb hby at_226) rfl k) ?_
            refine own_st (V := T115.setTop (mkF m 231 #[.val (.int p1), .val (.int y), .val (.int va), .val (.int vb), .val (.int vc), .val (.int vk), .val (.int vp), .val (.int vq), .val (.int vM), .val (.int vN), .val (.int vd), .val (.int ve), .val (.int vs), .val (.int (3 : Int32)), .val (.int ((20 : Int32) + vs)), .val (.ref d113)] [])) (fun t k => XS.icmpNo X115.here hx rfl (hb hby at_228) rfl (teq (by decide : (3 : Int32) = (3 : Int32))).2 k) ?_
            refine own_st (V := T115.setTop (mkF m 233 #[.val (.int p1), .val (.int y), .val (.int va), .val (.int vb), .val (.int vc), .val (.int vk), .val (.int vp), .val (.int vq), .val (.int vM), .val (.int vN), .val (.int vd), .val (.int ve), .val (.int vs), .val (.int (3 : Int32)), .val (.int ((20 : Int32) + vs)), .val (.ref d113)] [(.ref d113)])) (fun t k => XS.aload X115.here hx rfl (hb hby at_231) rfl rfl k) ?_
            obtain ⟨cq116, kq116, q116a, q116b, q116c⟩ := isOf hZ_113 e115 Ex113_q
            obtain ⟨_, _, ⟨T116, L116, k116, n116⟩, -, X116, ⟨Lc116, hQ116, l116, y116, z116⟩, st116⟩ := X115.virtualBack hx (y := (⟨"java/time/LocalDate", "getDayOfMonth", "()I"⟩ : MethodName)) (z := (⟨"java/time/LocalDate", "getDayOfMonth", "()I"⟩ : MethodName)) hown_113 (mvT hZ_113 (hw _ (List.mem_of_getElem? (i := 126) rfl))) (mvT hZ_113 (hw _ (List.mem_of_getElem? (i := 127) rfl))) (notFace_of_selects (args := #[]) (mvT hZ_113 (hw _ (List.mem_of_getElem? (i := 129) rfl)))) (mvT hZ_113 (hw _ (List.mem_of_getElem? (i := 129) rfl))) (mvT hZ_113 (hw _ (List.mem_of_getElem? (i := 128) rfl))) (by decide) (backOf (W := 0) (own_gd l Z a0 hw [] d113 r113 T113.heap n0 Z0_113 Fq113_2) hZ_113 (hw _ (List.mem_of_getElem? (i := 130) rfl)) (hw _ (List.mem_of_getElem? (i := 10) rfl)) (by decide) (by decide)) q116a q116c (g := (mkF m 233 #[.val (.int p1), .val (.int y), .val (.int va), .val (.int vb), .val (.int vc), .val (.int vk), .val (.int vp), .val (.int vq), .val (.int vM), .val (.int vN), .val (.int vd), .val (.int ve), .val (.int vs), .val (.int (3 : Int32)), .val (.int ((20 : Int32) + vs)), .val (.ref d113)] [(.ref d113)])) rfl (by rw [hml]; rfl) (Steps.refl _) (argsL := []) (rest := []) (lenOf own_pd4 rfl) rfl (by show 2 * 0 + _ ≤ _; exact Nat.le_of_eq rfl) (hb hby at_233) (fun _ _ => ⟨rfl, e115, (by decide : 5 + 0 ≤ _), (by decide : 33 + 0 ≤ _)⟩)
            dsimp only [Pt.U, Pt.locs, Pt.cells, Pt.slots] at X116 l116 y116 z116 st116 hQ116
            subst l116 y116 z116
            obtain ⟨rfl, N116q, e116⟩ := hQ116
            have N116 := Fr.app N115 N116q
            refine own_st (V := T116.setTop (mkF m 236 #[.val (.int p1), .val (.int y), .val (.int va), .val (.int vb), .val (.int vc), .val (.int vk), .val (.int vp), .val (.int vq), .val (.int vM), .val (.int vN), .val (.int vd), .val (.int ve), .val (.int vs), .val (.int (3 : Int32)), .val (.int ((20 : Int32) + vs)), .val (.ref d113)] [(.int r113)])) (fun t k => st116.trans k) ?_
            refine own_st (V := T116.setTop (mkF m 238 #[.val (.int p1), .val (.int y), .val (.int va), .val (.int vb), .val (.int vc), .val (.int vk), .val (.int vp), .val (.int vq), .val (.int vM), .val (.int vN), .val (.int vd), .val (.int ve), .val (.int vs), .val (.int (3 : Int32)), .val (.int ((20 : Int32) + vs)), .val (.ref d113)] [(.int ((20 : Int32) + vs)), (.int r113)])) (fun t k => XS.iload X116.here hx rfl (hb hby at_236) rfl k) ?_
            refine own_st (V := T116.setTop (mkF m 241 #[.val (.int p1), .val (.int y), .val (.int va), .val (.int vb), .val (.int vc), .val (.int vk), .val (.int vp), .val (.int vq), .val (.int vM), .val (.int vN), .val (.int vd), .val (.int ve), .val (.int vs), .val (.int (3 : Int32)), .val (.int ((20 : Int32) + vs)), .val (.ref d113)] [])) (fun t k => XS.icmpNo X116.here hx rfl (hb hby at_238) rfl (teq (Int32.toInt_inj.mp (by rw [hrr, own_d3 vs r_s.1 r_s.2]))).2 k) ?_
            refine own_st (V := T116.setTop (mkF m 242 #[.val (.int p1), .val (.int y), .val (.int va), .val (.int vb), .val (.int vc), .val (.int vk), .val (.int vp), .val (.int vq), .val (.int vM), .val (.int vN), .val (.int vd), .val (.int ve), .val (.int vs), .val (.int (3 : Int32)), .val (.int ((20 : Int32) + vs)), .val (.ref d113)] [(.int (1 : Int32))])) (fun t k => XS.iconst X116.here hx rfl (hb hby at_241) k) ?_
            refine own_st (V := T116.setTop (mkF m 246 #[.val (.int p1), .val (.int y), .val (.int va), .val (.int vb), .val (.int vc), .val (.int vk), .val (.int vp), .val (.int vq), .val (.int vM), .val (.int vN), .val (.int vd), .val (.int ve), .val (.int vs), .val (.int (3 : Int32)), .val (.int ((20 : Int32) + vs)), .val (.ref d113)] [(.int (1 : Int32))])) (fun t k => XS.goto X116.here hx rfl (pc0 := 242) (pc' := 246) rfl (hb hby at_242) (by decide) (by decide) k) ?_
            exact own_retW (s := s) hSi113 (by rw [e116]; exact kz_113) X116 hx hlk Bd.returns (by decide +kernel) (Or.inl ⟨rfl, by simp, _, rfl⟩) (hb hby at_246) (by decide) (by decide) ⟨rfl, N116⟩
      · refine own_st (V := s₁.setTop (mkF m 176 #[.val (.int p1), .val (.int y), .val (.int va), .val (.int vb), .val (.int vc), .val (.int vk), .val (.int vp), .val (.int vq), .val (.int vM), .val (.int vN), .val (.int vd), .val (.int ve), .val (.int vs), .unset, .unset, .unset] [])) (fun t k => XS.icmpYes X0.here hx rfl (pc0 := 153) (pc' := 176) rfl (hb hby at_153) rfl (feq hcD).2 (by decide) (by decide) k) ?_
        have i_hcA : ¬ (vd.toInt = 29) := own_ine (by decide) hcA
        have i_hcC : vd.toInt = 28 := own_ieq (by decide) hcC
        have i_hcD : ¬ (ve.toInt = 6) := own_ine (by decide) hcD
        have hS : own_ih y.toInt + own_il y.toInt - 7 * own_im y.toInt = vs.toInt := (LF.2.2 (fun q => i_hcA q.1) (fun q => i_hcD q.2.1)).trans h_vs.symm
        clear LF
        refine own_st (V := s₁.setTop (mkF m 178 #[.val (.int p1), .val (.int y), .val (.int va), .val (.int vb), .val (.int vc), .val (.int vk), .val (.int vp), .val (.int vq), .val (.int vM), .val (.int vN), .val (.int vd), .val (.int ve), .val (.int vs), .unset, .unset, .unset] [(.int vs)])) (fun t k => XS.iload X0.here hx rfl (hb hby at_176) rfl k) ?_
        refine own_st (V := s₁.setTop (mkF m 180 #[.val (.int p1), .val (.int y), .val (.int va), .val (.int vb), .val (.int vc), .val (.int vk), .val (.int vp), .val (.int vq), .val (.int vM), .val (.int vN), .val (.int vd), .val (.int ve), .val (.int vs), .unset, .unset, .unset] [(.int (11 : Int32)), (.int vs)])) (fun t k => XS.bipush X0.here hx rfl (hb hby at_178) k) ?_
        by_cases hcS : (11 : Int32) < vs
        · refine own_st (V := s₁.setTop (mkF m 196 #[.val (.int p1), .val (.int y), .val (.int va), .val (.int vb), .val (.int vc), .val (.int vk), .val (.int vp), .val (.int vq), .val (.int vM), .val (.int vN), .val (.int vd), .val (.int ve), .val (.int vs), .unset, .unset, .unset] [])) (fun t k => XS.icmpYes X0.here hx rfl (pc0 := 180) (pc' := 196) rfl (hb hby at_180) rfl (tlt hcS).2.2.1 (by decide) (by decide) k) ?_
          refine own_st (V := s₁.setTop (mkF m 197 #[.val (.int p1), .val (.int y), .val (.int va), .val (.int vb), .val (.int vc), .val (.int vk), .val (.int vp), .val (.int vq), .val (.int vM), .val (.int vN), .val (.int vd), .val (.int ve), .val (.int vs), .unset, .unset, .unset] [(.int (4 : Int32))])) (fun t k => XS.iconst X0.here hx rfl (hb hby at_196) k) ?_
          refine own_st (V := s₁.setTop (mkF m 199 #[.val (.int p1), .val (.int y), .val (.int va), .val (.int vb), .val (.int vc), .val (.int vk), .val (.int vp), .val (.int vq), .val (.int vM), .val (.int vN), .val (.int vd), .val (.int ve), .val (.int vs), .val (.int (4 : Int32)), .unset, .unset] [])) (fun t k => XS.istore X0.here hx rfl (hb hby at_197) rfl (l' := #[.val (.int p1), .val (.int y), .val (.int va), .val (.int vb), .val (.int vc), .val (.int vk), .val (.int vp), .val (.int vq), .val (.int vM), .val (.int vN), .val (.int vd), .val (.int ve), .val (.int vs), .val (.int (4 : Int32)), .unset, .unset]) rfl k) ?_
          refine own_st (V := s₁.setTop (mkF m 201 #[.val (.int p1), .val (.int y), .val (.int va), .val (.int vb), .val (.int vc), .val (.int vk), .val (.int vp), .val (.int vq), .val (.int vM), .val (.int vN), .val (.int vd), .val (.int ve), .val (.int vs), .val (.int (4 : Int32)), .unset, .unset] [(.int vs)])) (fun t k => XS.iload X0.here hx rfl (hb hby at_199) rfl k) ?_
          refine own_st (V := s₁.setTop (mkF m 203 #[.val (.int p1), .val (.int y), .val (.int va), .val (.int vb), .val (.int vc), .val (.int vk), .val (.int vp), .val (.int vq), .val (.int vM), .val (.int vN), .val (.int vd), .val (.int ve), .val (.int vs), .val (.int (4 : Int32)), .unset, .unset] [(.int (11 : Int32)), (.int vs)])) (fun t k => XS.bipush X0.here hx rfl (hb hby at_201) k) ?_
          refine own_st (V := s₁.setTop (mkF m 204 #[.val (.int p1), .val (.int y), .val (.int va), .val (.int vb), .val (.int vc), .val (.int vk), .val (.int vp), .val (.int vq), .val (.int vM), .val (.int vN), .val (.int vd), .val (.int ve), .val (.int vs), .val (.int (4 : Int32)), .unset, .unset] [(.int (vs - (11 : Int32)))])) (fun t k => XS.isub X0.here hx rfl (hb hby at_203) rfl k) ?_
          refine own_st (V := s₁.setTop (mkF m 206 #[.val (.int p1), .val (.int y), .val (.int va), .val (.int vb), .val (.int vc), .val (.int vk), .val (.int vp), .val (.int vq), .val (.int vM), .val (.int vN), .val (.int vd), .val (.int ve), .val (.int vs), .val (.int (4 : Int32)), .val (.int (vs - (11 : Int32))), .unset] [])) (fun t k => XS.istore X0.here hx rfl (hb hby at_204) rfl (l' := #[.val (.int p1), .val (.int y), .val (.int va), .val (.int vb), .val (.int vc), .val (.int vk), .val (.int vp), .val (.int vq), .val (.int vM), .val (.int vN), .val (.int vd), .val (.int ve), .val (.int vs), .val (.int (4 : Int32)), .val (.int (vs - (11 : Int32))), .unset]) rfl k) ?_
          have i_S := own_i11 hcS
          refine own_st (V := s₁.setTop (mkF m 207 #[.val (.int p1), .val (.int y), .val (.int va), .val (.int vb), .val (.int vc), .val (.int vk), .val (.int vp), .val (.int vq), .val (.int vM), .val (.int vN), .val (.int vd), .val (.int ve), .val (.int vs), .val (.int (4 : Int32)), .val (.int (vs - (11 : Int32))), .unset] [(.int y)])) (fun t k => XS.iloadN X0.here hx rfl (hb hby at_206) rfl k) ?_
          obtain ⟨_, _, ⟨T117, L117, k117, n117⟩, -, X117, hSi117, hgr117, ⟨Lc117, hQ117, l117, y117, z117⟩, st117⟩ := Jvm.RoadKit.callSS X0 hx (y := (⟨"com/example/notewright/notewright/Holidays", "goodFriday", "(I)Ljava/time/LocalDate;"⟩ : MethodName)) hown (mvT hZ (hw _ (List.mem_of_getElem? (i := 2) rfl))) (mvT hZ (hw _ (List.mem_of_getElem? (i := 3) rfl))) (mvT hZ (hw _ (List.mem_of_getElem? (i := 4) rfl))) (mvT hZ (hw _ (List.mem_of_getElem? (i := 5) rfl))) (by decide) (backOfS (W := 0) (own_gf l Z a0 hw [] y cy ry cd rd ce re mm iso h0 n0 Z0 Od Wd hy0 hy1) hZ (hw _ (List.mem_of_getElem? (i := 5) rfl)) (hw _ (List.mem_of_getElem? (i := 4) rfl)) (by decide) (by decide)) (g := (mkF m 207 #[.val (.int p1), .val (.int y), .val (.int va), .val (.int vb), .val (.int vc), .val (.int vk), .val (.int vp), .val (.int vq), .val (.int vM), .val (.int vN), .val (.int vd), .val (.int ve), .val (.int vs), .val (.int (4 : Int32)), .val (.int (vs - (11 : Int32))), .unset] [(.int y)])) rfl (by rw [hml]; rfl) (argsL := [(.int y)]) (rest := []) (lenOf own_pd13 rfl) rfl (by show 2 * 0 + _ ≤ _; exact Nat.le_of_eq rfl) (hb hby at_207) (fun _ _ => ⟨rfl, e0, (by decide : 0 + 5 ≤ _), (by decide : 0 + 33 ≤ _)⟩)
          dsimp only [Pt.U, Pt.locs, Pt.cells, Pt.slots] at X117 l117 y117 z117 st117 hQ117
          subst l117 y117 z117
          dsimp only [Pt.U] at hSi117 hgr117
          obtain ⟨d117, r117, mo117, rfl, N117q, K117, Ex117_q, Fq117_0, Fq117_1, Fq117_2, hA117, hB117⟩ := hQ117
          have N117 := Fr.app N0 N117q
          have Z0_117 : n0 ≤ T117.heap.size := Nat.le_trans Z0 K117.1
          obtain ⟨rfl, hrr⟩ := hB117 (by rw [hS]; exact i_S)
          rw [hS] at hrr
          have Od117 := Od.keep K117 all0
          have hZ_117 : Z.Warmed39 (s.setVm T117.vm).vm := State.Warmed39.trans hZ hSi117.1
          have hown_117 : (s.setVm T117.vm).vm.findClass "com/example/notewright/notewright/HolidaysGoodFridayPinLaw" = some m.cls := by rw [show (s.setVm T117.vm).vm = T117.vm from rfl, hSi117.1.alike.findClass]; exact hown
          have X117 : Stand p l e _ (s.setVm T117.vm) m _ below meth c T117 _ _ _ := X117
          have kz_117 : T117.heap.size ≤ T117.heap.size := Nat.le_refl _
          refine own_st (V := T117.setTop (mkF m 210 #[.val (.int p1), .val (.int y), .val (.int va), .val (.int vb), .val (.int vc), .val (.int vk), .val (.int vp), .val (.int vq), .val (.int vM), .val (.int vN), .val (.int vd), .val (.int ve), .val (.int vs), .val (.int (4 : Int32)), .val (.int (vs - (11 : Int32))), .unset] [(.ref d117)])) (fun t k => st117.trans k) ?_
          refine own_st (V := T117.setTop (mkF m 212 #[.val (.int p1), .val (.int y), .val (.int va), .val (.int vb), .val (.int vc), .val (.int vk), .val (.int vp), .val (.int vq), .val (.int vM), .val (.int vN), .val (.int vd), .val (.int ve), .val (.int vs), .val (.int (4 : Int32)), .val (.int (vs - (11 : Int32))), .val (.ref d117)] [])) (fun t k => XS.astore X117.here hx rfl (hb hby at_210) rfl rfl (l' := #[.val (.int p1), .val (.int y), .val (.int va), .val (.int vb), .val (.int vc), .val (.int vk), .val (.int vp), .val (.int vq), .val (.int vM), .val (.int vN), .val (.int vd), .val (.int ve), .val (.int vs), .val (.int (4 : Int32)), .val (.int (vs - (11 : Int32))), .val (.ref d117)]) rfl k) ?_
          refine own_st (V := T117.setTop (mkF m 214 #[.val (.int p1), .val (.int y), .val (.int va), .val (.int vb), .val (.int vc), .val (.int vk), .val (.int vp), .val (.int vq), .val (.int vM), .val (.int vN), .val (.int vd), .val (.int ve), .val (.int vs), .val (.int (4 : Int32)), .val (.int (vs - (11 : Int32))), .val (.ref d117)] [(.ref d117)])) (fun t k => XS.aload X117.here hx rfl (hb hby at_212) rfl rfl k) ?_
          obtain ⟨cq118, kq118, q118a, q118b, q118c⟩ := isOf hZ_117 rfl Ex117_q
          obtain ⟨_, _, ⟨T118, L118, k118, n118⟩, -, X118, ⟨Lc118, hQ118, l118, y118, z118⟩, st118⟩ := X117.virtualBack hx (y := (⟨"java/time/LocalDate", "getYear", "()I"⟩ : MethodName)) (z := (⟨"java/time/LocalDate", "getYear", "()I"⟩ : MethodName)) hown_117 (mvT hZ_117 (hw _ (List.mem_of_getElem? (i := 116) rfl))) (mvT hZ_117 (hw _ (List.mem_of_getElem? (i := 117) rfl))) (notFace_of_selects (args := #[]) (mvT hZ_117 (hw _ (List.mem_of_getElem? (i := 119) rfl)))) (mvT hZ_117 (hw _ (List.mem_of_getElem? (i := 119) rfl))) (mvT hZ_117 (hw _ (List.mem_of_getElem? (i := 118) rfl))) (by decide) (backOf (W := 0) (own_gy l Z a0 hw [] d117 y T117.heap n0 Z0_117 Fq117_0) hZ_117 (hw _ (List.mem_of_getElem? (i := 120) rfl)) (hw _ (List.mem_of_getElem? (i := 10) rfl)) (by decide) (by decide)) q118a q118c (g := (mkF m 214 #[.val (.int p1), .val (.int y), .val (.int va), .val (.int vb), .val (.int vc), .val (.int vk), .val (.int vp), .val (.int vq), .val (.int vM), .val (.int vN), .val (.int vd), .val (.int ve), .val (.int vs), .val (.int (4 : Int32)), .val (.int (vs - (11 : Int32))), .val (.ref d117)] [(.ref d117)])) rfl (by rw [hml]; rfl) (Steps.refl _) (argsL := []) (rest := []) (lenOf own_pd4 rfl) rfl (by show 2 * 0 + _ ≤ _; exact Nat.le_of_eq rfl) (hb hby at_214) (fun _ _ => ⟨rfl, rfl, (by decide : 5 + 0 ≤ _), (by decide : 33 + 0 ≤ _)⟩)
          dsimp only [Pt.U, Pt.locs, Pt.cells, Pt.slots] at X118 l118 y118 z118 st118 hQ118
          subst l118 y118 z118
          obtain ⟨rfl, N118q, e118⟩ := hQ118
          have N118 := Fr.app N117 N118q
          refine own_st (V := T118.setTop (mkF m 217 #[.val (.int p1), .val (.int y), .val (.int va), .val (.int vb), .val (.int vc), .val (.int vk), .val (.int vp), .val (.int vq), .val (.int vM), .val (.int vN), .val (.int vd), .val (.int ve), .val (.int vs), .val (.int (4 : Int32)), .val (.int (vs - (11 : Int32))), .val (.ref d117)] [(.int y)])) (fun t k => st118.trans k) ?_
          refine own_st (V := T118.setTop (mkF m 218 #[.val (.int p1), .val (.int y), .val (.int va), .val (.int vb), .val (.int vc), .val (.int vk), .val (.int vp), .val (.int vq), .val (.int vM), .val (.int vN), .val (.int vd), .val (.int ve), .val (.int vs), .val (.int (4 : Int32)), .val (.int (vs - (11 : Int32))), .val (.ref d117)] [(.int y), (.int y)])) (fun t k => XS.iloadN X118.here hx rfl (hb hby at_217) rfl k) ?_
          refine own_st (V := T118.setTop (mkF m 221 #[.val (.int p1), .val (.int y), .val (.int va), .val (.int vb), .val (.int vc), .val (.int vk), .val (.int vp), .val (.int vq), .val (.int vM), .val (.int vN), .val (.int vd), .val (.int ve), .val (.int vs), .val (.int (4 : Int32)), .val (.int (vs - (11 : Int32))), .val (.ref d117)] [])) (fun t k => XS.icmpNo X118.here hx rfl (hb hby at_218) rfl (teq rfl).2 k) ?_
          refine own_st (V := T118.setTop (mkF m 223 #[.val (.int p1), .val (.int y), .val (.int va), .val (.int vb), .val (.int vc), .val (.int vk), .val (.int vp), .val (.int vq), .val (.int vM), .val (.int vN), .val (.int vd), .val (.int ve), .val (.int vs), .val (.int (4 : Int32)), .val (.int (vs - (11 : Int32))), .val (.ref d117)] [(.ref d117)])) (fun t k => XS.aload X118.here hx rfl (hb hby at_221) rfl rfl k) ?_
          obtain ⟨cq119, kq119, q119a, q119b, q119c⟩ := isOf hZ_117 e118 Ex117_q
          obtain ⟨_, _, ⟨T119, L119, k119, n119⟩, -, X119, ⟨Lc119, hQ119, l119, y119, z119⟩, st119⟩ := X118.virtualBack hx (y := (⟨"java/time/LocalDate", "getMonthValue", "()I"⟩ : MethodName)) (z := (⟨"java/time/LocalDate", "getMonthValue", "()I"⟩ : MethodName)) hown_117 (mvT hZ_117 (hw _ (List.mem_of_getElem? (i := 121) rfl))) (mvT hZ_117 (hw _ (List.mem_of_getElem? (i := 122) rfl))) (notFace_of_selects (args := #[]) (mvT hZ_117 (hw _ (List.mem_of_getElem? (i := 124) rfl)))) (mvT hZ_117 (hw _ (List.mem_of_getElem? (i := 124) rfl))) (mvT hZ_117 (hw _ (List.mem_of_getElem? (i := 123) rfl))) (by decide) (backOf (W := 0) (own_gm l Z a0 hw [] d117 (4 : Int32) T117.heap n0 Z0_117 Fq117_1) hZ_117 (hw _ (List.mem_of_getElem? (i := 125) rfl)) (hw _ (List.mem_of_getElem? (i := 10) rfl)) (by decide) (by decide)) q119a q119c (g := (mkF m 223 #[.val (.int p1), .val (.int y), .val (.int va), .val (.int vb), .val (.int vc), .val (.int vk), .val (.int vp), .val (.int vq), .val (.int vM), .val (.int vN), .val (.int vd), .val (.int ve), .val (.int vs), .val (.int (4 : Int32)), .val (.int (vs - (11 : Int32))), .val (.ref d117)] [(.ref d117)])) rfl (by rw [hml]; rfl) (Steps.refl _) (argsL := []) (rest := []) (lenOf own_pd4 rfl) rfl (by show 2 * 0 + _ ≤ _; exact Nat.le_of_eq rfl) (hb hby at_223) (fun _ _ => ⟨rfl, e118, (by decide : 5 + 0 ≤ _), (by decide : 33 + 0 ≤ _)⟩)
          dsimp only [Pt.U, Pt.locs, Pt.cells, Pt.slots] at X119 l119 y119 z119 st119 hQ119
          subst l119 y119 z119
          obtain ⟨rfl, N119q, e119⟩ := hQ119
          have N119 := Fr.app N118 N119q
          refine own_st (V := T119.setTop (mkF m 226 #[.val (.int p1), .val (.int y), .val (.int va), .val (.int vb), .val (.int vc), .val (.int vk), .val (.int vp), .val (.int vq), .val (.int vM), .val (.int vN), .val (.int vd), .val (.int ve), .val (.int vs), .val (.int (4 : Int32)), .val (.int (vs - (11 : Int32))), .val (.ref d117)] [(.int (4 : Int32))])) (fun t k => st119.trans k) ?_
          refine own_st (V := T119.setTop (mkF m 228 #[.val (.int p1), .val (.int y), .val (.int va), .val (.int vb), .val (.int vc), .val (.int vk), .val (.int vp), .val (.int vq), .val (.int vM), .val (.int vN), .val (.int vd), .val (.int ve), .val (.int vs), .val (.int (4 : Int32)), .val (.int (vs - (11 : Int32))), .val (.ref d117)] [(.int (4 : Int32)), (.int (4 : Int32))])) (fun t k => XS.iload X119.here hx rfl (hb hby at_226) rfl k) ?_
          refine own_st (V := T119.setTop (mkF m 231 #[.val (.int p1), .val (.int y), .val (.int va), .val (.int vb), .val (.int vc), .val (.int vk), .val (.int vp), .val (.int vq), .val (.int vM), .val (.int vN), .val (.int vd), .val (.int ve), .val (.int vs), .val (.int (4 : Int32)), .val (.int (vs - (11 : Int32))), .val (.ref d117)] [])) (fun t k => XS.icmpNo X119.here hx rfl (hb hby at_228) rfl (teq (by decide : (4 : Int32) = (4 : Int32))).2 k) ?_
          refine own_st (V := T119.setTop (mkF m 233 #[.val (.int p1), .val (.int y), .val (.int va), .val (.int vb), .val (.int vc), .val (.int vk), .val (.int vp), .val (.int vq), .val (.int vM), .val (.int vN), .val (.int vd), .val (.int ve), .val (.int vs), .val (.int (4 : Int32)), .val (.int (vs - (11 : Int32))), .val (.ref d117)] [(.ref d117)])) (fun t k => XS.aload X119.here hx rfl (hb hby at_231) rfl rfl k) ?_
          obtain ⟨cq120, kq120, q120a, q120b, q120c⟩ := isOf hZ_117 e119 Ex117_q
          obtain ⟨_, _, ⟨T120, L120, k120, n120⟩, -, X120, ⟨Lc120, hQ120, l120, y120, z120⟩, st120⟩ := X119.virtualBack hx (y := (⟨"java/time/LocalDate", "getDayOfMonth", "()I"⟩ : MethodName)) (z := (⟨"java/time/LocalDate", "getDayOfMonth", "()I"⟩ : MethodName)) hown_117 (mvT hZ_117 (hw _ (List.mem_of_getElem? (i := 126) rfl))) (mvT hZ_117 (hw _ (List.mem_of_getElem? (i := 127) rfl))) (notFace_of_selects (args := #[]) (mvT hZ_117 (hw _ (List.mem_of_getElem? (i := 129) rfl)))) (mvT hZ_117 (hw _ (List.mem_of_getElem? (i := 129) rfl))) (mvT hZ_117 (hw _ (List.mem_of_getElem? (i := 128) rfl))) (by decide) (backOf (W := 0) (own_gd l Z a0 hw [] d117 r117 T117.heap n0 Z0_117 Fq117_2) hZ_117 (hw _ (List.mem_of_getElem? (i := 130) rfl)) (hw _ (List.mem_of_getElem? (i := 10) rfl)) (by decide) (by decide)) q120a q120c (g := (mkF m 233 #[.val (.int p1), .val (.int y), .val (.int va), .val (.int vb), .val (.int vc), .val (.int vk), .val (.int vp), .val (.int vq), .val (.int vM), .val (.int vN), .val (.int vd), .val (.int ve), .val (.int vs), .val (.int (4 : Int32)), .val (.int (vs - (11 : Int32))), .val (.ref d117)] [(.ref d117)])) rfl (by rw [hml]; rfl) (Steps.refl _) (argsL := []) (rest := []) (lenOf own_pd4 rfl) rfl (by show 2 * 0 + _ ≤ _; exact Nat.le_of_eq rfl) (hb hby at_233) (fun _ _ => ⟨rfl, e119, (by decide : 5 + 0 ≤ _), (by decide : 33 + 0 ≤ _)⟩)
          dsimp only [Pt.U, Pt.locs, Pt.cells, Pt.slots] at X120 l120 y120 z120 st120 hQ120
          subst l120 y120 z120
          obtain ⟨rfl, N120q, e120⟩ := hQ120
          have N120 := Fr.app N119 N120q
          refine own_st (V := T120.setTop (mkF m 236 #[.val (.int p1), .val (.int y), .val (.int va), .val (.int vb), .val (.int vc), .val (.int vk), .val (.int vp), .val (.int vq), .val (.int vM), .val (.int vN), .val (.int vd), .val (.int ve), .val (.int vs), .val (.int (4 : Int32)), .val (.int (vs - (11 : Int32))), .val (.ref d117)] [(.int r117)])) (fun t k => st120.trans k) ?_
          refine own_st (V := T120.setTop (mkF m 238 #[.val (.int p1), .val (.int y), .val (.int va), .val (.int vb), .val (.int vc), .val (.int vk), .val (.int vp), .val (.int vq), .val (.int vM), .val (.int vN), .val (.int vd), .val (.int ve), .val (.int vs), .val (.int (4 : Int32)), .val (.int (vs - (11 : Int32))), .val (.ref d117)] [(.int (vs - (11 : Int32))), (.int r117)])) (fun t k => XS.iload X120.here hx rfl (hb hby at_236) rfl k) ?_
          refine own_st (V := T120.setTop (mkF m 241 #[.val (.int p1), .val (.int y), .val (.int va), .val (.int vb), .val (.int vc), .val (.int vk), .val (.int vp), .val (.int vq), .val (.int vM), .val (.int vN), .val (.int vd), .val (.int ve), .val (.int vs), .val (.int (4 : Int32)), .val (.int (vs - (11 : Int32))), .val (.ref d117)] [])) (fun t k => XS.icmpNo X120.here hx rfl (hb hby at_238) rfl (teq (Int32.toInt_inj.mp (by rw [hrr, own_d4 vs r_s.1 r_s.2]))).2 k) ?_
          refine own_st (V := T120.setTop (mkF m 242 #[.val (.int p1), .val (.int y), .val (.int va), .val (.int vb), .val (.int vc), .val (.int vk), .val (.int vp), .val (.int vq), .val (.int vM), .val (.int vN), .val (.int vd), .val (.int ve), .val (.int vs), .val (.int (4 : Int32)), .val (.int (vs - (11 : Int32))), .val (.ref d117)] [(.int (1 : Int32))])) (fun t k => XS.iconst X120.here hx rfl (hb hby at_241) k) ?_
          refine own_st (V := T120.setTop (mkF m 246 #[.val (.int p1), .val (.int y), .val (.int va), .val (.int vb), .val (.int vc), .val (.int vk), .val (.int vp), .val (.int vq), .val (.int vM), .val (.int vN), .val (.int vd), .val (.int ve), .val (.int vs), .val (.int (4 : Int32)), .val (.int (vs - (11 : Int32))), .val (.ref d117)] [(.int (1 : Int32))])) (fun t k => XS.goto X120.here hx rfl (pc0 := 242) (pc' := 246) rfl (hb hby at_242) (by decide) (by decide) k) ?_
          exact own_retW (s := s) hSi117 (by rw [e120]; exact kz_117) X120 hx hlk Bd.returns (by decide +kernel) (Or.inl ⟨rfl, by simp, _, rfl⟩) (hb hby at_246) (by decide) (by decide) ⟨rfl, N120⟩
        · refine own_st (V := s₁.setTop (mkF m 183 #[.val (.int p1), .val (.int y), .val (.int va), .val (.int vb), .val (.int vc), .val (.int vk), .val (.int vp), .val (.int vq), .val (.int vM), .val (.int vN), .val (.int vd), .val (.int ve), .val (.int vs), .unset, .unset, .unset] [])) (fun t k => XS.icmpNo X0.here hx rfl (hb hby at_180) rfl (flt hcS).2.2.1 k) ?_
          refine own_st (V := s₁.setTop (mkF m 184 #[.val (.int p1), .val (.int y), .val (.int va), .val (.int vb), .val (.int vc), .val (.int vk), .val (.int vp), .val (.int vq), .val (.int vM), .val (.int vN), .val (.int vd), .val (.int ve), .val (.int vs), .unset, .unset, .unset] [(.int (3 : Int32))])) (fun t k => XS.iconst X0.here hx rfl (hb hby at_183) k) ?_
          refine own_st (V := s₁.setTop (mkF m 186 #[.val (.int p1), .val (.int y), .val (.int va), .val (.int vb), .val (.int vc), .val (.int vk), .val (.int vp), .val (.int vq), .val (.int vM), .val (.int vN), .val (.int vd), .val (.int ve), .val (.int vs), .val (.int (3 : Int32)), .unset, .unset] [])) (fun t k => XS.istore X0.here hx rfl (hb hby at_184) rfl (l' := #[.val (.int p1), .val (.int y), .val (.int va), .val (.int vb), .val (.int vc), .val (.int vk), .val (.int vp), .val (.int vq), .val (.int vM), .val (.int vN), .val (.int vd), .val (.int ve), .val (.int vs), .val (.int (3 : Int32)), .unset, .unset]) rfl k) ?_
          refine own_st (V := s₁.setTop (mkF m 188 #[.val (.int p1), .val (.int y), .val (.int va), .val (.int vb), .val (.int vc), .val (.int vk), .val (.int vp), .val (.int vq), .val (.int vM), .val (.int vN), .val (.int vd), .val (.int ve), .val (.int vs), .val (.int (3 : Int32)), .unset, .unset] [(.int (20 : Int32))])) (fun t k => XS.bipush X0.here hx rfl (hb hby at_186) k) ?_
          refine own_st (V := s₁.setTop (mkF m 190 #[.val (.int p1), .val (.int y), .val (.int va), .val (.int vb), .val (.int vc), .val (.int vk), .val (.int vp), .val (.int vq), .val (.int vM), .val (.int vN), .val (.int vd), .val (.int ve), .val (.int vs), .val (.int (3 : Int32)), .unset, .unset] [(.int vs), (.int (20 : Int32))])) (fun t k => XS.iload X0.here hx rfl (hb hby at_188) rfl k) ?_
          refine own_st (V := s₁.setTop (mkF m 191 #[.val (.int p1), .val (.int y), .val (.int va), .val (.int vb), .val (.int vc), .val (.int vk), .val (.int vp), .val (.int vq), .val (.int vM), .val (.int vN), .val (.int vd), .val (.int ve), .val (.int vs), .val (.int (3 : Int32)), .unset, .unset] [(.int ((20 : Int32) + vs))])) (fun t k => XS.iadd X0.here hx rfl (hb hby at_190) rfl k) ?_
          refine own_st (V := s₁.setTop (mkF m 193 #[.val (.int p1), .val (.int y), .val (.int va), .val (.int vb), .val (.int vc), .val (.int vk), .val (.int vp), .val (.int vq), .val (.int vM), .val (.int vN), .val (.int vd), .val (.int ve), .val (.int vs), .val (.int (3 : Int32)), .val (.int ((20 : Int32) + vs)), .unset] [])) (fun t k => XS.istore X0.here hx rfl (hb hby at_191) rfl (l' := #[.val (.int p1), .val (.int y), .val (.int va), .val (.int vb), .val (.int vc), .val (.int vk), .val (.int vp), .val (.int vq), .val (.int vM), .val (.int vN), .val (.int vd), .val (.int ve), .val (.int vs), .val (.int (3 : Int32)), .val (.int ((20 : Int32) + vs)), .unset]) rfl k) ?_
          refine own_st (V := s₁.setTop (mkF m 206 #[.val (.int p1), .val (.int y), .val (.int va), .val (.int vb), .val (.int vc), .val (.int vk), .val (.int vp), .val (.int vq), .val (.int vM), .val (.int vN), .val (.int vd), .val (.int ve), .val (.int vs), .val (.int (3 : Int32)), .val (.int ((20 : Int32) + vs)), .unset] [])) (fun t k => XS.goto X0.here hx rfl (pc0 := 193) (pc' := 206) rfl (hb hby at_193) (by decide) (by decide) k) ?_
          have i_S := own_n11 hcS
          refine own_st (V := s₁.setTop (mkF m 207 #[.val (.int p1), .val (.int y), .val (.int va), .val (.int vb), .val (.int vc), .val (.int vk), .val (.int vp), .val (.int vq), .val (.int vM), .val (.int vN), .val (.int vd), .val (.int ve), .val (.int vs), .val (.int (3 : Int32)), .val (.int ((20 : Int32) + vs)), .unset] [(.int y)])) (fun t k => XS.iloadN X0.here hx rfl (hb hby at_206) rfl k) ?_
          obtain ⟨_, _, ⟨T121, L121, k121, n121⟩, -, X121, hSi121, hgr121, ⟨Lc121, hQ121, l121, y121, z121⟩, st121⟩ := Jvm.RoadKit.callSS X0 hx (y := (⟨"com/example/notewright/notewright/Holidays", "goodFriday", "(I)Ljava/time/LocalDate;"⟩ : MethodName)) hown (mvT hZ (hw _ (List.mem_of_getElem? (i := 2) rfl))) (mvT hZ (hw _ (List.mem_of_getElem? (i := 3) rfl))) (mvT hZ (hw _ (List.mem_of_getElem? (i := 4) rfl))) (mvT hZ (hw _ (List.mem_of_getElem? (i := 5) rfl))) (by decide) (backOfS (W := 0) (own_gf l Z a0 hw [] y cy ry cd rd ce re mm iso h0 n0 Z0 Od Wd hy0 hy1) hZ (hw _ (List.mem_of_getElem? (i := 5) rfl)) (hw _ (List.mem_of_getElem? (i := 4) rfl)) (by decide) (by decide)) (g := (mkF m 207 #[.val (.int p1), .val (.int y), .val (.int va), .val (.int vb), .val (.int vc), .val (.int vk), .val (.int vp), .val (.int vq), .val (.int vM), .val (.int vN), .val (.int vd), .val (.int ve), .val (.int vs), .val (.int (3 : Int32)), .val (.int ((20 : Int32) + vs)), .unset] [(.int y)])) rfl (by rw [hml]; rfl) (argsL := [(.int y)]) (rest := []) (lenOf own_pd13 rfl) rfl (by show 2 * 0 + _ ≤ _; exact Nat.le_of_eq rfl) (hb hby at_207) (fun _ _ => ⟨rfl, e0, (by decide : 0 + 5 ≤ _), (by decide : 0 + 33 ≤ _)⟩)
          dsimp only [Pt.U, Pt.locs, Pt.cells, Pt.slots] at X121 l121 y121 z121 st121 hQ121
          subst l121 y121 z121
          dsimp only [Pt.U] at hSi121 hgr121
          obtain ⟨d121, r121, mo121, rfl, N121q, K121, Ex121_q, Fq121_0, Fq121_1, Fq121_2, hA121, hB121⟩ := hQ121
          have N121 := Fr.app N0 N121q
          have Z0_121 : n0 ≤ T121.heap.size := Nat.le_trans Z0 K121.1
          obtain ⟨rfl, hrr⟩ := hA121 (by rw [hS]; exact i_S)
          rw [hS] at hrr
          have Od121 := Od.keep K121 all0
          have hZ_121 : Z.Warmed39 (s.setVm T121.vm).vm := State.Warmed39.trans hZ hSi121.1
          have hown_121 : (s.setVm T121.vm).vm.findClass "com/example/notewright/notewright/HolidaysGoodFridayPinLaw" = some m.cls := by rw [show (s.setVm T121.vm).vm = T121.vm from rfl, hSi121.1.alike.findClass]; exact hown
          have X121 : Stand p l e _ (s.setVm T121.vm) m _ below meth c T121 _ _ _ := X121
          have kz_121 : T121.heap.size ≤ T121.heap.size := Nat.le_refl _
          refine own_st (V := T121.setTop (mkF m 210 #[.val (.int p1), .val (.int y), .val (.int va), .val (.int vb), .val (.int vc), .val (.int vk), .val (.int vp), .val (.int vq), .val (.int vM), .val (.int vN), .val (.int vd), .val (.int ve), .val (.int vs), .val (.int (3 : Int32)), .val (.int ((20 : Int32) + vs)), .unset] [(.ref d121)])) (fun t k => st121.trans k) ?_
          refine own_st (V := T121.setTop (mkF m 212 #[.val (.int p1), .val (.int y), .val (.int va), .val (.int vb), .val (.int vc), .val (.int vk), .val (.int vp), .val (.int vq), .val (.int vM), .val (.int vN), .val (.int vd), .val (.int ve), .val (.int vs), .val (.int (3 : Int32)), .val (.int ((20 : Int32) + vs)), .val (.ref d121)] [])) (fun t k => XS.astore X121.here hx rfl (hb hby at_210) rfl rfl (l' := #[.val (.int p1), .val (.int y), .val (.int va), .val (.int vb), .val (.int vc), .val (.int vk), .val (.int vp), .val (.int vq), .val (.int vM), .val (.int vN), .val (.int vd), .val (.int ve), .val (.int vs), .val (.int (3 : Int32)), .val (.int ((20 : Int32) + vs)), .val (.ref d121)]) rfl k) ?_
          refine own_st (V := T121.setTop (mkF m 214 #[.val (.int p1), .val (.int y), .val (.int va), .val (.int vb), .val (.int vc), .val (.int vk), .val (.int vp), .val (.int vq), .val (.int vM), .val (.int vN), .val (.int vd), .val (.int ve), .val (.int vs), .val (.int (3 : Int32)), .val (.int ((20 : Int32) + vs)), .val (.ref d121)] [(.ref d121)])) (fun t k => XS.aload X121.here hx rfl (hb hby at_212) rfl rfl k) ?_
          obtain ⟨cq122, kq122, q122a, q122b, q122c⟩ := isOf hZ_121 rfl Ex121_q
          obtain ⟨_, _, ⟨T122, L122, k122, n122⟩, -, X122, ⟨Lc122, hQ122, l122, y122, z122⟩, st122⟩ := X121.virtualBack hx (y := (⟨"java/time/LocalDate", "getYear", "()I"⟩ : MethodName)) (z := (⟨"java/time/LocalDate", "getYear", "()I"⟩ : MethodName)) hown_121 (mvT hZ_121 (hw _ (List.mem_of_getElem? (i := 116) rfl))) (mvT hZ_121 (hw _ (List.mem_of_getElem? (i := 117) rfl))) (notFace_of_selects (args := #[]) (mvT hZ_121 (hw _ (List.mem_of_getElem? (i := 119) rfl)))) (mvT hZ_121 (hw _ (List.mem_of_getElem? (i := 119) rfl))) (mvT hZ_121 (hw _ (List.mem_of_getElem? (i := 118) rfl))) (by decide) (backOf (W := 0) (own_gy l Z a0 hw [] d121 y T121.heap n0 Z0_121 Fq121_0) hZ_121 (hw _ (List.mem_of_getElem? (i := 120) rfl)) (hw _ (List.mem_of_getElem? (i := 10) rfl)) (by decide) (by decide)) q122a q122c (g := (mkF m 214 #[.val (.int p1), .val (.int y), .val (.int va), .val (.int vb), .val (.int vc), .val (.int vk), .val (.int vp), .val (.int vq), .val (.int vM), .val (.int vN), .val (.int vd), .val (.int ve), .val (.int vs), .val (.int (3 : Int32)), .val (.int ((20 : Int32) + vs)), .val (.ref d121)] [(.ref d121)])) rfl (by rw [hml]; rfl) (Steps.refl _) (argsL := []) (rest := []) (lenOf own_pd4 rfl) rfl (by show 2 * 0 + _ ≤ _; exact Nat.le_of_eq rfl) (hb hby at_214) (fun _ _ => ⟨rfl, rfl, (by decide : 5 + 0 ≤ _), (by decide : 33 + 0 ≤ _)⟩)
          dsimp only [Pt.U, Pt.locs, Pt.cells, Pt.slots] at X122 l122 y122 z122 st122 hQ122
          subst l122 y122 z122
          obtain ⟨rfl, N122q, e122⟩ := hQ122
          have N122 := Fr.app N121 N122q
          refine own_st (V := T122.setTop (mkF m 217 #[.val (.int p1), .val (.int y), .val (.int va), .val (.int vb), .val (.int vc), .val (.int vk), .val (.int vp), .val (.int vq), .val (.int vM), .val (.int vN), .val (.int vd), .val (.int ve), .val (.int vs), .val (.int (3 : Int32)), .val (.int ((20 : Int32) + vs)), .val (.ref d121)] [(.int y)])) (fun t k => st122.trans k) ?_
          refine own_st (V := T122.setTop (mkF m 218 #[.val (.int p1), .val (.int y), .val (.int va), .val (.int vb), .val (.int vc), .val (.int vk), .val (.int vp), .val (.int vq), .val (.int vM), .val (.int vN), .val (.int vd), .val (.int ve), .val (.int vs), .val (.int (3 : Int32)), .val (.int ((20 : Int32) + vs)), .val (.ref d121)] [(.int y), (.int y)])) (fun t k => XS.iloadN X122.here hx rfl (hb hby at_217) rfl k) ?_
          refine own_st (V := T122.setTop (mkF m 221 #[.val (.int p1), .val (.int y), .val (.int va), .val (.int vb), .val (.int vc), .val (.int vk), .val (.int vp), .val (.int vq), .val (.int vM), .val (.int vN), .val (.int vd), .val (.int ve), .val (.int vs), .val (.int (3 : Int32)), .val (.int ((20 : Int32) + vs)), .val (.ref d121)] [])) (fun t k => XS.icmpNo X122.here hx rfl (hb hby at_218) rfl (teq rfl).2 k) ?_
          refine own_st (V := T122.setTop (mkF m 223 #[.val (.int p1), .val (.int y), .val (.int va), .val (.int vb), .val (.int vc), .val (.int vk), .val (.int vp), .val (.int vq), .val (.int vM), .val (.int vN), .val (.int vd), .val (.int ve), .val (.int vs), .val (.int (3 : Int32)), .val (.int ((20 : Int32) + vs)), .val (.ref d121)] [(.ref d121)])) (fun t k => XS.aload X122.here hx rfl (hb hby at_221) rfl rfl k) ?_
          obtain ⟨cq123, kq123, q123a, q123b, q123c⟩ := isOf hZ_121 e122 Ex121_q
          obtain ⟨_, _, ⟨T123, L123, k123, n123⟩, -, X123, ⟨Lc123, hQ123, l123, y123, z123⟩, st123⟩ := X122.virtualBack hx (y := (⟨"java/time/LocalDate", "getMonthValue", "()I"⟩ : MethodName)) (z := (⟨"java/time/LocalDate", "getMonthValue", "()I"⟩ : MethodName)) hown_121 (mvT hZ_121 (hw _ (List.mem_of_getElem? (i := 121) rfl))) (mvT hZ_121 (hw _ (List.mem_of_getElem? (i := 122) rfl))) (notFace_of_selects (args := #[]) (mvT hZ_121 (hw _ (List.mem_of_getElem? (i := 124) rfl)))) (mvT hZ_121 (hw _ (List.mem_of_getElem? (i := 124) rfl))) (mvT hZ_121 (hw _ (List.mem_of_getElem? (i := 123) rfl))) (by decide) (backOf (W := 0) (own_gm l Z a0 hw [] d121 (3 : Int32) T121.heap n0 Z0_121 Fq121_1) hZ_121 (hw _ (List.mem_of_getElem? (i := 125) rfl)) (hw _ (List.mem_of_getElem? (i := 10) rfl)) (by decide) (by decide)) q123a q123c (g := (mkF m 223 #[.val (.int p1), .val (.int y), .val (.int va), .val (.int vb), .val (.int vc), .val (.int vk), .val (.int vp), .val (.int vq), .val (.int vM), .val (.int vN), .val (.int vd), .val (.int ve), .val (.int vs), .val (.int (3 : Int32)), .val (.int ((20 : Int32) + vs)), .val (.ref d121)] [(.ref d121)])) rfl (by rw [hml]; rfl) (Steps.refl _) (argsL := []) (rest := []) (lenOf own_pd4 rfl) rfl (by show 2 * 0 + _ ≤ _; exact Nat.le_of_eq rfl) (hb hby at_223) (fun _ _ => ⟨rfl, e122, (by decide : 5 + 0 ≤ _), (by decide : 33 + 0 ≤ _)⟩)
          dsimp only [Pt.U, Pt.locs, Pt.cells, Pt.slots] at X123 l123 y123 z123 st123 hQ123
          subst l123 y123 z123
          obtain ⟨rfl, N123q, e123⟩ := hQ123
          have N123 := Fr.app N122 N123q
          refine own_st (V := T123.setTop (mkF m 226 #[.val (.int p1), .val (.int y), .val (.int va), .val (.int vb), .val (.int vc), .val (.int vk), .val (.int vp), .val (.int vq), .val (.int vM), .val (.int vN), .val (.int vd), .val (.int ve), .val (.int vs), .val (.int (3 : Int32)), .val (.int ((20 : Int32) + vs)), .val (.ref d121)] [(.int (3 : Int32))])) (fun t k => st123.trans k) ?_
          refine own_st (V := T123.setTop (mkF m 228 #[.val (.int p1), .val (.int y), .val (.int va), .val (.int vb), .val (.int vc), .val (.int vk), .val (.int vp), .val (.int vq), .val (.int vM), .val (.int vN), .val (.int vd), .val (.int ve), .val (.int vs), .val (.int (3 : Int32)), .val (.int ((20 : Int32) + vs)), .val (.ref d121)] [(.int (3 : Int32)), (.int (3 : Int32))])) (fun t k => XS.iload X123.here hx rfl (hb hby at_226) rfl k) ?_
          refine own_st (V := T123.setTop (mkF m 231 #[.val (.int p1), .val (.int y), .val (.int va), .val (.int vb), .val (.int vc), .val (.int vk), .val (.int vp), .val (.int vq), .val (.int vM), .val (.int vN), .val (.int vd), .val (.int ve), .val (.int vs), .val (.int (3 : Int32)), .val (.int ((20 : Int32) + vs)), .val (.ref d121)] [])) (fun t k => XS.icmpNo X123.here hx rfl (hb hby at_228) rfl (teq (by decide : (3 : Int32) = (3 : Int32))).2 k) ?_
          refine own_st (V := T123.setTop (mkF m 233 #[.val (.int p1), .val (.int y), .val (.int va), .val (.int vb), .val (.int vc), .val (.int vk), .val (.int vp), .val (.int vq), .val (.int vM), .val (.int vN), .val (.int vd), .val (.int ve), .val (.int vs), .val (.int (3 : Int32)), .val (.int ((20 : Int32) + vs)), .val (.ref d121)] [(.ref d121)])) (fun t k => XS.aload X123.here hx rfl (hb hby at_231) rfl rfl k) ?_
          obtain ⟨cq124, kq124, q124a, q124b, q124c⟩ := isOf hZ_121 e123 Ex121_q
          obtain ⟨_, _, ⟨T124, L124, k124, n124⟩, -, X124, ⟨Lc124, hQ124, l124, y124, z124⟩, st124⟩ := X123.virtualBack hx (y := (⟨"java/time/LocalDate", "getDayOfMonth", "()I"⟩ : MethodName)) (z := (⟨"java/time/LocalDate", "getDayOfMonth", "()I"⟩ : MethodName)) hown_121 (mvT hZ_121 (hw _ (List.mem_of_getElem? (i := 126) rfl))) (mvT hZ_121 (hw _ (List.mem_of_getElem? (i := 127) rfl))) (notFace_of_selects (args := #[]) (mvT hZ_121 (hw _ (List.mem_of_getElem? (i := 129) rfl)))) (mvT hZ_121 (hw _ (List.mem_of_getElem? (i := 129) rfl))) (mvT hZ_121 (hw _ (List.mem_of_getElem? (i := 128) rfl))) (by decide) (backOf (W := 0) (own_gd l Z a0 hw [] d121 r121 T121.heap n0 Z0_121 Fq121_2) hZ_121 (hw _ (List.mem_of_getElem? (i := 130) rfl)) (hw _ (List.mem_of_getElem? (i := 10) rfl)) (by decide) (by decide)) q124a q124c (g := (mkF m 233 #[.val (.int p1), .val (.int y), .val (.int va), .val (.int vb), .val (.int vc), .val (.int vk), .val (.int vp), .val (.int vq), .val (.int vM), .val (.int vN), .val (.int vd), .val (.int ve), .val (.int vs), .val (.int (3 : Int32)), .val (.int ((20 : Int32) + vs)), .val (.ref d121)] [(.ref d121)])) rfl (by rw [hml]; rfl) (Steps.refl _) (argsL := []) (rest := []) (lenOf own_pd4 rfl) rfl (by show 2 * 0 + _ ≤ _; exact Nat.le_of_eq rfl) (hb hby at_233) (fun _ _ => ⟨rfl, e123, (by decide : 5 + 0 ≤ _), (by decide : 33 + 0 ≤ _)⟩)
          dsimp only [Pt.U, Pt.locs, Pt.cells, Pt.slots] at X124 l124 y124 z124 st124 hQ124
          subst l124 y124 z124
          obtain ⟨rfl, N124q, e124⟩ := hQ124
          have N124 := Fr.app N123 N124q
          refine own_st (V := T124.setTop (mkF m 236 #[.val (.int p1), .val (.int y), .val (.int va), .val (.int vb), .val (.int vc), .val (.int vk), .val (.int vp), .val (.int vq), .val (.int vM), .val (.int vN), .val (.int vd), .val (.int ve), .val (.int vs), .val (.int (3 : Int32)), .val (.int ((20 : Int32) + vs)), .val (.ref d121)] [(.int r121)])) (fun t k => st124.trans k) ?_
          refine own_st (V := T124.setTop (mkF m 238 #[.val (.int p1), .val (.int y), .val (.int va), .val (.int vb), .val (.int vc), .val (.int vk), .val (.int vp), .val (.int vq), .val (.int vM), .val (.int vN), .val (.int vd), .val (.int ve), .val (.int vs), .val (.int (3 : Int32)), .val (.int ((20 : Int32) + vs)), .val (.ref d121)] [(.int ((20 : Int32) + vs)), (.int r121)])) (fun t k => XS.iload X124.here hx rfl (hb hby at_236) rfl k) ?_
          refine own_st (V := T124.setTop (mkF m 241 #[.val (.int p1), .val (.int y), .val (.int va), .val (.int vb), .val (.int vc), .val (.int vk), .val (.int vp), .val (.int vq), .val (.int vM), .val (.int vN), .val (.int vd), .val (.int ve), .val (.int vs), .val (.int (3 : Int32)), .val (.int ((20 : Int32) + vs)), .val (.ref d121)] [])) (fun t k => XS.icmpNo X124.here hx rfl (hb hby at_238) rfl (teq (Int32.toInt_inj.mp (by rw [hrr, own_d3 vs r_s.1 r_s.2]))).2 k) ?_
          refine own_st (V := T124.setTop (mkF m 242 #[.val (.int p1), .val (.int y), .val (.int va), .val (.int vb), .val (.int vc), .val (.int vk), .val (.int vp), .val (.int vq), .val (.int vM), .val (.int vN), .val (.int vd), .val (.int ve), .val (.int vs), .val (.int (3 : Int32)), .val (.int ((20 : Int32) + vs)), .val (.ref d121)] [(.int (1 : Int32))])) (fun t k => XS.iconst X124.here hx rfl (hb hby at_241) k) ?_
          refine own_st (V := T124.setTop (mkF m 246 #[.val (.int p1), .val (.int y), .val (.int va), .val (.int vb), .val (.int vc), .val (.int vk), .val (.int vp), .val (.int vq), .val (.int vM), .val (.int vN), .val (.int vd), .val (.int ve), .val (.int vs), .val (.int (3 : Int32)), .val (.int ((20 : Int32) + vs)), .val (.ref d121)] [(.int (1 : Int32))])) (fun t k => XS.goto X124.here hx rfl (pc0 := 242) (pc' := 246) rfl (hb hby at_242) (by decide) (by decide) k) ?_
          exact own_retW (s := s) hSi121 (by rw [e124]; exact kz_121) X124 hx hlk Bd.returns (by decide +kernel) (Or.inl ⟨rfl, by simp, _, rfl⟩) (hb hby at_246) (by decide) (by decide) ⟨rfl, N124⟩
    · refine own_st (V := s₁.setTop (mkF m 176 #[.val (.int p1), .val (.int y), .val (.int va), .val (.int vb), .val (.int vc), .val (.int vk), .val (.int vp), .val (.int vq), .val (.int vM), .val (.int vN), .val (.int vd), .val (.int ve), .val (.int vs), .unset, .unset, .unset] [])) (fun t k => XS.icmpYes X0.here hx rfl (pc0 := 146) (pc' := 176) rfl (hb hby at_146) rfl (feq hcC).2 (by decide) (by decide) k) ?_
      have i_hcA : ¬ (vd.toInt = 29) := own_ine (by decide) hcA
      have i_hcC : ¬ (vd.toInt = 28) := own_ine (by decide) hcC
      have hS : own_ih y.toInt + own_il y.toInt - 7 * own_im y.toInt = vs.toInt := (LF.2.2 (fun q => i_hcA q.1) (fun q => i_hcC q.1)).trans h_vs.symm
      clear LF
      refine own_st (V := s₁.setTop (mkF m 178 #[.val (.int p1), .val (.int y), .val (.int va), .val (.int vb), .val (.int vc), .val (.int vk), .val (.int vp), .val (.int vq), .val (.int vM), .val (.int vN), .val (.int vd), .val (.int ve), .val (.int vs), .unset, .unset, .unset] [(.int vs)])) (fun t k => XS.iload X0.here hx rfl (hb hby at_176) rfl k) ?_
      refine own_st (V := s₁.setTop (mkF m 180 #[.val (.int p1), .val (.int y), .val (.int va), .val (.int vb), .val (.int vc), .val (.int vk), .val (.int vp), .val (.int vq), .val (.int vM), .val (.int vN), .val (.int vd), .val (.int ve), .val (.int vs), .unset, .unset, .unset] [(.int (11 : Int32)), (.int vs)])) (fun t k => XS.bipush X0.here hx rfl (hb hby at_178) k) ?_
      by_cases hcS : (11 : Int32) < vs
      · refine own_st (V := s₁.setTop (mkF m 196 #[.val (.int p1), .val (.int y), .val (.int va), .val (.int vb), .val (.int vc), .val (.int vk), .val (.int vp), .val (.int vq), .val (.int vM), .val (.int vN), .val (.int vd), .val (.int ve), .val (.int vs), .unset, .unset, .unset] [])) (fun t k => XS.icmpYes X0.here hx rfl (pc0 := 180) (pc' := 196) rfl (hb hby at_180) rfl (tlt hcS).2.2.1 (by decide) (by decide) k) ?_
        refine own_st (V := s₁.setTop (mkF m 197 #[.val (.int p1), .val (.int y), .val (.int va), .val (.int vb), .val (.int vc), .val (.int vk), .val (.int vp), .val (.int vq), .val (.int vM), .val (.int vN), .val (.int vd), .val (.int ve), .val (.int vs), .unset, .unset, .unset] [(.int (4 : Int32))])) (fun t k => XS.iconst X0.here hx rfl (hb hby at_196) k) ?_
        refine own_st (V := s₁.setTop (mkF m 199 #[.val (.int p1), .val (.int y), .val (.int va), .val (.int vb), .val (.int vc), .val (.int vk), .val (.int vp), .val (.int vq), .val (.int vM), .val (.int vN), .val (.int vd), .val (.int ve), .val (.int vs), .val (.int (4 : Int32)), .unset, .unset] [])) (fun t k => XS.istore X0.here hx rfl (hb hby at_197) rfl (l' := #[.val (.int p1), .val (.int y), .val (.int va), .val (.int vb), .val (.int vc), .val (.int vk), .val (.int vp), .val (.int vq), .val (.int vM), .val (.int vN), .val (.int vd), .val (.int ve), .val (.int vs), .val (.int (4 : Int32)), .unset, .unset]) rfl k) ?_
        refine own_st (V := s₁.setTop (mkF m 201 #[.val (.int p1), .val (.int y), .val (.int va), .val (.int vb), .val (.int vc), .val (.int vk), .val (.int vp), .val (.int vq), .val (.int vM), .val (.int vN), .val (.int vd), .val (.int ve), .val (.int vs), .val (.int (4 : Int32)), .unset, .unset] [(.int vs)])) (fun t k => XS.iload X0.here hx rfl (hb hby at_199) rfl k) ?_
        refine own_st (V := s₁.setTop (mkF m 203 #[.val (.int p1), .val (.int y), .val (.int va), .val (.int vb), .val (.int vc), .val (.int vk), .val (.int vp), .val (.int vq), .val (.int vM), .val (.int vN), .val (.int vd), .val (.int ve), .val (.int vs), .val (.int (4 : Int32)), .unset, .unset] [(.int (11 : Int32)), (.int vs)])) (fun t k => XS.bipush X0.here hx rfl (hb hby at_201) k) ?_
        refine own_st (V := s₁.setTop (mkF m 204 #[.val (.int p1), .val (.int y), .val (.int va), .val (.int vb), .val (.int vc), .val (.int vk), .val (.int vp), .val (.int vq), .val (.int vM), .val (.int vN), .val (.int vd), .val (.int ve), .val (.int vs), .val (.int (4 : Int32)), .unset, .unset] [(.int (vs - (11 : Int32)))])) (fun t k => XS.isub X0.here hx rfl (hb hby at_203) rfl k) ?_
        refine own_st (V := s₁.setTop (mkF m 206 #[.val (.int p1), .val (.int y), .val (.int va), .val (.int vb), .val (.int vc), .val (.int vk), .val (.int vp), .val (.int vq), .val (.int vM), .val (.int vN), .val (.int vd), .val (.int ve), .val (.int vs), .val (.int (4 : Int32)), .val (.int (vs - (11 : Int32))), .unset] [])) (fun t k => XS.istore X0.here hx rfl (hb hby at_204) rfl (l' := #[.val (.int p1), .val (.int y), .val (.int va), .val (.int vb), .val (.int vc), .val (.int vk), .val (.int vp), .val (.int vq), .val (.int vM), .val (.int vN), .val (.int vd), .val (.int ve), .val (.int vs), .val (.int (4 : Int32)), .val (.int (vs - (11 : Int32))), .unset]) rfl k) ?_
        have i_S := own_i11 hcS
        refine own_st (V := s₁.setTop (mkF m 207 #[.val (.int p1), .val (.int y), .val (.int va), .val (.int vb), .val (.int vc), .val (.int vk), .val (.int vp), .val (.int vq), .val (.int vM), .val (.int vN), .val (.int vd), .val (.int ve), .val (.int vs), .val (.int (4 : Int32)), .val (.int (vs - (11 : Int32))), .unset] [(.int y)])) (fun t k => XS.iloadN X0.here hx rfl (hb hby at_206) rfl k) ?_
        obtain ⟨_, _, ⟨T125, L125, k125, n125⟩, -, X125, hSi125, hgr125, ⟨Lc125, hQ125, l125, y125, z125⟩, st125⟩ := Jvm.RoadKit.callSS X0 hx (y := (⟨"com/example/notewright/notewright/Holidays", "goodFriday", "(I)Ljava/time/LocalDate;"⟩ : MethodName)) hown (mvT hZ (hw _ (List.mem_of_getElem? (i := 2) rfl))) (mvT hZ (hw _ (List.mem_of_getElem? (i := 3) rfl))) (mvT hZ (hw _ (List.mem_of_getElem? (i := 4) rfl))) (mvT hZ (hw _ (List.mem_of_getElem? (i := 5) rfl))) (by decide) (backOfS (W := 0) (own_gf l Z a0 hw [] y cy ry cd rd ce re mm iso h0 n0 Z0 Od Wd hy0 hy1) hZ (hw _ (List.mem_of_getElem? (i := 5) rfl)) (hw _ (List.mem_of_getElem? (i := 4) rfl)) (by decide) (by decide)) (g := (mkF m 207 #[.val (.int p1), .val (.int y), .val (.int va), .val (.int vb), .val (.int vc), .val (.int vk), .val (.int vp), .val (.int vq), .val (.int vM), .val (.int vN), .val (.int vd), .val (.int ve), .val (.int vs), .val (.int (4 : Int32)), .val (.int (vs - (11 : Int32))), .unset] [(.int y)])) rfl (by rw [hml]; rfl) (argsL := [(.int y)]) (rest := []) (lenOf own_pd13 rfl) rfl (by show 2 * 0 + _ ≤ _; exact Nat.le_of_eq rfl) (hb hby at_207) (fun _ _ => ⟨rfl, e0, (by decide : 0 + 5 ≤ _), (by decide : 0 + 33 ≤ _)⟩)
        dsimp only [Pt.U, Pt.locs, Pt.cells, Pt.slots] at X125 l125 y125 z125 st125 hQ125
        subst l125 y125 z125
        dsimp only [Pt.U] at hSi125 hgr125
        obtain ⟨d125, r125, mo125, rfl, N125q, K125, Ex125_q, Fq125_0, Fq125_1, Fq125_2, hA125, hB125⟩ := hQ125
        have N125 := Fr.app N0 N125q
        have Z0_125 : n0 ≤ T125.heap.size := Nat.le_trans Z0 K125.1
        obtain ⟨rfl, hrr⟩ := hB125 (by rw [hS]; exact i_S)
        rw [hS] at hrr
        have Od125 := Od.keep K125 all0
        have hZ_125 : Z.Warmed39 (s.setVm T125.vm).vm := State.Warmed39.trans hZ hSi125.1
        have hown_125 : (s.setVm T125.vm).vm.findClass "com/example/notewright/notewright/HolidaysGoodFridayPinLaw" = some m.cls := by rw [show (s.setVm T125.vm).vm = T125.vm from rfl, hSi125.1.alike.findClass]; exact hown
        have X125 : Stand p l e _ (s.setVm T125.vm) m _ below meth c T125 _ _ _ := X125
        have kz_125 : T125.heap.size ≤ T125.heap.size := Nat.le_refl _
        refine own_st (V := T125.setTop (mkF m 210 #[.val (.int p1), .val (.int y), .val (.int va), .val (.int vb), .val (.int vc), .val (.int vk), .val (.int vp), .val (.int vq), .val (.int vM), .val (.int vN), .val (.int vd), .val (.int ve), .val (.int vs), .val (.int (4 : Int32)), .val (.int (vs - (11 : Int32))), .unset] [(.ref d125)])) (fun t k => st125.trans k) ?_
        refine own_st (V := T125.setTop (mkF m 212 #[.val (.int p1), .val (.int y), .val (.int va), .val (.int vb), .val (.int vc), .val (.int vk), .val (.int vp), .val (.int vq), .val (.int vM), .val (.int vN), .val (.int vd), .val (.int ve), .val (.int vs), .val (.int (4 : Int32)), .val (.int (vs - (11 : Int32))), .val (.ref d125)] [])) (fun t k => XS.astore X125.here hx rfl (hb hby at_210) rfl rfl (l' := #[.val (.int p1), .val (.int y), .val (.int va), .val (.int vb), .val (.int vc), .val (.int vk), .val (.int vp), .val (.int vq), .val (.int vM), .val (.int vN), .val (.int vd), .val (.int ve), .val (.int vs), .val (.int (4 : Int32)), .val (.int (vs - (11 : Int32))), .val (.ref d125)]) rfl k) ?_
        refine own_st (V := T125.setTop (mkF m 214 #[.val (.int p1), .val (.int y), .val (.int va), .val (.int vb), .val (.int vc), .val (.int vk), .val (.int vp), .val (.int vq), .val (.int vM), .val (.int vN), .val (.int vd), .val (.int ve), .val (.int vs), .val (.int (4 : Int32)), .val (.int (vs - (11 : Int32))), .val (.ref d125)] [(.ref d125)])) (fun t k => XS.aload X125.here hx rfl (hb hby at_212) rfl rfl k) ?_
        obtain ⟨cq126, kq126, q126a, q126b, q126c⟩ := isOf hZ_125 rfl Ex125_q
        obtain ⟨_, _, ⟨T126, L126, k126, n126⟩, -, X126, ⟨Lc126, hQ126, l126, y126, z126⟩, st126⟩ := X125.virtualBack hx (y := (⟨"java/time/LocalDate", "getYear", "()I"⟩ : MethodName)) (z := (⟨"java/time/LocalDate", "getYear", "()I"⟩ : MethodName)) hown_125 (mvT hZ_125 (hw _ (List.mem_of_getElem? (i := 116) rfl))) (mvT hZ_125 (hw _ (List.mem_of_getElem? (i := 117) rfl))) (notFace_of_selects (args := #[]) (mvT hZ_125 (hw _ (List.mem_of_getElem? (i := 119) rfl)))) (mvT hZ_125 (hw _ (List.mem_of_getElem? (i := 119) rfl))) (mvT hZ_125 (hw _ (List.mem_of_getElem? (i := 118) rfl))) (by decide) (backOf (W := 0) (own_gy l Z a0 hw [] d125 y T125.heap n0 Z0_125 Fq125_0) hZ_125 (hw _ (List.mem_of_getElem? (i := 120) rfl)) (hw _ (List.mem_of_getElem? (i := 10) rfl)) (by decide) (by decide)) q126a q126c (g := (mkF m 214 #[.val (.int p1), .val (.int y), .val (.int va), .val (.int vb), .val (.int vc), .val (.int vk), .val (.int vp), .val (.int vq), .val (.int vM), .val (.int vN), .val (.int vd), .val (.int ve), .val (.int vs), .val (.int (4 : Int32)), .val (.int (vs - (11 : Int32))), .val (.ref d125)] [(.ref d125)])) rfl (by rw [hml]; rfl) (Steps.refl _) (argsL := []) (rest := []) (lenOf own_pd4 rfl) rfl (by show 2 * 0 + _ ≤ _; exact Nat.le_of_eq rfl) (hb hby at_214) (fun _ _ => ⟨rfl, rfl, (by decide : 5 + 0 ≤ _), (by decide : 33 + 0 ≤ _)⟩)
        dsimp only [Pt.U, Pt.locs, Pt.cells, Pt.slots] at X126 l126 y126 z126 st126 hQ126
        subst l126 y126 z126
        obtain ⟨rfl, N126q, e126⟩ := hQ126
        have N126 := Fr.app N125 N126q
        refine own_st (V := T126.setTop (mkF m 217 #[.val (.int p1), .val (.int y), .val (.int va), .val (.int vb), .val (.int vc), .val (.int vk), .val (.int vp), .val (.int vq), .val (.int vM), .val (.int vN), .val (.int vd), .val (.int ve), .val (.int vs), .val (.int (4 : Int32)), .val (.int (vs - (11 : Int32))), .val (.ref d125)] [(.int y)])) (fun t k => st126.trans k) ?_
        refine own_st (V := T126.setTop (mkF m 218 #[.val (.int p1), .val (.int y), .val (.int va), .val (.int vb), .val (.int vc), .val (.int vk), .val (.int vp), .val (.int vq), .val (.int vM), .val (.int vN), .val (.int vd), .val (.int ve), .val (.int vs), .val (.int (4 : Int32)), .val (.int (vs - (11 : Int32))), .val (.ref d125)] [(.int y), (.int y)])) (fun t k => XS.iloadN X126.here hx rfl (hb hby at_217) rfl k) ?_
        refine own_st (V := T126.setTop (mkF m 221 #[.val (.int p1), .val (.int y), .val (.int va), .val (.int vb), .val (.int vc), .val (.int vk), .val (.int vp), .val (.int vq), .val (.int vM), .val (.int vN), .val (.int vd), .val (.int ve), .val (.int vs), .val (.int (4 : Int32)), .val (.int (vs - (11 : Int32))), .val (.ref d125)] [])) (fun t k => XS.icmpNo X126.here hx rfl (hb hby at_218) rfl (teq rfl).2 k) ?_
        refine own_st (V := T126.setTop (mkF m 223 #[.val (.int p1), .val (.int y), .val (.int va), .val (.int vb), .val (.int vc), .val (.int vk), .val (.int vp), .val (.int vq), .val (.int vM), .val (.int vN), .val (.int vd), .val (.int ve), .val (.int vs), .val (.int (4 : Int32)), .val (.int (vs - (11 : Int32))), .val (.ref d125)] [(.ref d125)])) (fun t k => XS.aload X126.here hx rfl (hb hby at_221) rfl rfl k) ?_
        obtain ⟨cq127, kq127, q127a, q127b, q127c⟩ := isOf hZ_125 e126 Ex125_q
        obtain ⟨_, _, ⟨T127, L127, k127, n127⟩, -, X127, ⟨Lc127, hQ127, l127, y127, z127⟩, st127⟩ := X126.virtualBack hx (y := (⟨"java/time/LocalDate", "getMonthValue", "()I"⟩ : MethodName)) (z := (⟨"java/time/LocalDate", "getMonthValue", "()I"⟩ : MethodName)) hown_125 (mvT hZ_125 (hw _ (List.mem_of_getElem? (i := 121) rfl))) (mvT hZ_125 (hw _ (List.mem_of_getElem? (i := 122) rfl))) (notFace_of_selects (args := #[]) (mvT hZ_125 (hw _ (List.mem_of_getElem? (i := 124) rfl)))) (mvT hZ_125 (hw _ (List.mem_of_getElem? (i := 124) rfl))) (mvT hZ_125 (hw _ (List.mem_of_getElem? (i := 123) rfl))) (by decide) (backOf (W := 0) (own_gm l Z a0 hw [] d125 (4 : Int32) T125.heap n0 Z0_125 Fq125_1) hZ_125 (hw _ (List.mem_of_getElem? (i := 125) rfl)) (hw _ (List.mem_of_getElem? (i := 10) rfl)) (by decide) (by decide)) q127a q127c (g := (mkF m 223 #[.val (.int p1), .val (.int y), .val (.int va), .val (.int vb), .val (.int vc), .val (.int vk), .val (.int vp), .val (.int vq), .val (.int vM), .val (.int vN), .val (.int vd), .val (.int ve), .val (.int vs), .val (.int (4 : Int32)), .val (.int (vs - (11 : Int32))), .val (.ref d125)] [(.ref d125)])) rfl (by rw [hml]; rfl) (Steps.refl _) (argsL := []) (rest := []) (lenOf own_pd4 rfl) rfl (by show 2 * 0 + _ ≤ _; exact Nat.le_of_eq rfl) (hb hby at_223) (fun _ _ => ⟨rfl, e126, (by decide : 5 + 0 ≤ _), (by decide : 33 + 0 ≤ _)⟩)
        dsimp only [Pt.U, Pt.locs, Pt.cells, Pt.slots] at X127 l127 y127 z127 st127 hQ127
        subst l127 y127 z127
        obtain ⟨rfl, N127q, e127⟩ := hQ127
        have N127 := Fr.app N126 N127q
        refine own_st (V := T127.setTop (mkF m 226 #[.val (.int p1), .val (.int y), .val (.int va), .val (.int vb), .val (.int vc), .val (.int vk), .val (.int vp), .val (.int vq), .val (.int vM), .val (.int vN), .val (.int vd), .val (.int ve), .val (.int vs), .val (.int (4 : Int32)), .val (.int (vs - (11 : Int32))), .val (.ref d125)] [(.int (4 : Int32))])) (fun t k => st127.trans k) ?_
        refine own_st (V := T127.setTop (mkF m 228 #[.val (.int p1), .val (.int y), .val (.int va), .val (.int vb), .val (.int vc), .val (.int vk), .val (.int vp), .val (.int vq), .val (.int vM), .val (.int vN), .val (.int vd), .val (.int ve), .val (.int vs), .val (.int (4 : Int32)), .val (.int (vs - (11 : Int32))), .val (.ref d125)] [(.int (4 : Int32)), (.int (4 : Int32))])) (fun t k => XS.iload X127.here hx rfl (hb hby at_226) rfl k) ?_
        refine own_st (V := T127.setTop (mkF m 231 #[.val (.int p1), .val (.int y), .val (.int va), .val (.int vb), .val (.int vc), .val (.int vk), .val (.int vp), .val (.int vq), .val (.int vM), .val (.int vN), .val (.int vd), .val (.int ve), .val (.int vs), .val (.int (4 : Int32)), .val (.int (vs - (11 : Int32))), .val (.ref d125)] [])) (fun t k => XS.icmpNo X127.here hx rfl (hb hby at_228) rfl (teq (by decide : (4 : Int32) = (4 : Int32))).2 k) ?_
        refine own_st (V := T127.setTop (mkF m 233 #[.val (.int p1), .val (.int y), .val (.int va), .val (.int vb), .val (.int vc), .val (.int vk), .val (.int vp), .val (.int vq), .val (.int vM), .val (.int vN), .val (.int vd), .val (.int ve), .val (.int vs), .val (.int (4 : Int32)), .val (.int (vs - (11 : Int32))), .val (.ref d125)] [(.ref d125)])) (fun t k => XS.aload X127.here hx rfl (hb hby at_231) rfl rfl k) ?_
        obtain ⟨cq128, kq128, q128a, q128b, q128c⟩ := isOf hZ_125 e127 Ex125_q
        obtain ⟨_, _, ⟨T128, L128, k128, n128⟩, -, X128, ⟨Lc128, hQ128, l128, y128, z128⟩, st128⟩ := X127.virtualBack hx (y := (⟨"java/time/LocalDate", "getDayOfMonth", "()I"⟩ : MethodName)) (z := (⟨"java/time/LocalDate", "getDayOfMonth", "()I"⟩ : MethodName)) hown_125 (mvT hZ_125 (hw _ (List.mem_of_getElem? (i := 126) rfl))) (mvT hZ_125 (hw _ (List.mem_of_getElem? (i := 127) rfl))) (notFace_of_selects (args := #[]) (mvT hZ_125 (hw _ (List.mem_of_getElem? (i := 129) rfl)))) (mvT hZ_125 (hw _ (List.mem_of_getElem? (i := 129) rfl))) (mvT hZ_125 (hw _ (List.mem_of_getElem? (i := 128) rfl))) (by decide) (backOf (W := 0) (own_gd l Z a0 hw [] d125 r125 T125.heap n0 Z0_125 Fq125_2) hZ_125 (hw _ (List.mem_of_getElem? (i := 130) rfl)) (hw _ (List.mem_of_getElem? (i := 10) rfl)) (by decide) (by decide)) q128a q128c (g := (mkF m 233 #[.val (.int p1), .val (.int y), .val (.int va), .val (.int vb), .val (.int vc), .val (.int vk), .val (.int vp), .val (.int vq), .val (.int vM), .val (.int vN), .val (.int vd), .val (.int ve), .val (.int vs), .val (.int (4 : Int32)), .val (.int (vs - (11 : Int32))), .val (.ref d125)] [(.ref d125)])) rfl (by rw [hml]; rfl) (Steps.refl _) (argsL := []) (rest := []) (lenOf own_pd4 rfl) rfl (by show 2 * 0 + _ ≤ _; exact Nat.le_of_eq rfl) (hb hby at_233) (fun _ _ => ⟨rfl, e127, (by decide : 5 + 0 ≤ _), (by decide : 33 + 0 ≤ _)⟩)
        dsimp only [Pt.U, Pt.locs, Pt.cells, Pt.slots] at X128 l128 y128 z128 st128 hQ128
        subst l128 y128 z128
        obtain ⟨rfl, N128q, e128⟩ := hQ128
        have N128 := Fr.app N127 N128q
        refine own_st (V := T128.setTop (mkF m 236 #[.val (.int p1), .val (.int y), .val (.int va), .val (.int vb), .val (.int vc), .val (.int vk), .val (.int vp), .val (.int vq), .val (.int vM), .val (.int vN), .val (.int vd), .val (.int ve), .val (.int vs), .val (.int (4 : Int32)), .val (.int (vs - (11 : Int32))), .val (.ref d125)] [(.int r125)])) (fun t k => st128.trans k) ?_
        refine own_st (V := T128.setTop (mkF m 238 #[.val (.int p1), .val (.int y), .val (.int va), .val (.int vb), .val (.int vc), .val (.int vk), .val (.int vp), .val (.int vq), .val (.int vM), .val (.int vN), .val (.int vd), .val (.int ve), .val (.int vs), .val (.int (4 : Int32)), .val (.int (vs - (11 : Int32))), .val (.ref d125)] [(.int (vs - (11 : Int32))), (.int r125)])) (fun t k => XS.iload X128.here hx rfl (hb hby at_236) rfl k) ?_
        refine own_st (V := T128.setTop (mkF m 241 #[.val (.int p1), .val (.int y), .val (.int va), .val (.int vb), .val (.int vc), .val (.int vk), .val (.int vp), .val (.int vq), .val (.int vM), .val (.int vN), .val (.int vd), .val (.int ve), .val (.int vs), .val (.int (4 : Int32)), .val (.int (vs - (11 : Int32))), .val (.ref d125)] [])) (fun t k => XS.icmpNo X128.here hx rfl (hb hby at_238) rfl (teq (Int32.toInt_inj.mp (by rw [hrr, own_d4 vs r_s.1 r_s.2]))).2 k) ?_
        refine own_st (V := T128.setTop (mkF m 242 #[.val (.int p1), .val (.int y), .val (.int va), .val (.int vb), .val (.int vc), .val (.int vk), .val (.int vp), .val (.int vq), .val (.int vM), .val (.int vN), .val (.int vd), .val (.int ve), .val (.int vs), .val (.int (4 : Int32)), .val (.int (vs - (11 : Int32))), .val (.ref d125)] [(.int (1 : Int32))])) (fun t k => XS.iconst X128.here hx rfl (hb hby at_241) k) ?_
        refine own_st (V := T128.setTop (mkF m 246 #[.val (.int p1), .val (.int y), .val (.int va), .val (.int vb), .val (.int vc), .val (.int vk), .val (.int vp), .val (.int vq), .val (.int vM), .val (.int vN), .val (.int vd), .val (.int ve), .val (.int vs), .val (.int (4 : Int32)), .val (.int (vs - (11 : Int32))), .val (.ref d125)] [(.int (1 : Int32))])) (fun t k => XS.goto X128.here hx rfl (pc0 := 242) (pc' := 246) rfl (hb hby at_242) (by decide) (by decide) k) ?_
        exact own_retW (s := s) hSi125 (by rw [e128]; exact kz_125) X128 hx hlk Bd.returns (by decide +kernel) (Or.inl ⟨rfl, by simp, _, rfl⟩) (hb hby at_246) (by decide) (by decide) ⟨rfl, N128⟩
      · refine own_st (V := s₁.setTop (mkF m 183 #[.val (.int p1), .val (.int y), .val (.int va), .val (.int vb), .val (.int vc), .val (.int vk), .val (.int vp), .val (.int vq), .val (.int vM), .val (.int vN), .val (.int vd), .val (.int ve), .val (.int vs), .unset, .unset, .unset] [])) (fun t k => XS.icmpNo X0.here hx rfl (hb hby at_180) rfl (flt hcS).2.2.1 k) ?_
        refine own_st (V := s₁.setTop (mkF m 184 #[.val (.int p1), .val (.int y), .val (.int va), .val (.int vb), .val (.int vc), .val (.int vk), .val (.int vp), .val (.int vq), .val (.int vM), .val (.int vN), .val (.int vd), .val (.int ve), .val (.int vs), .unset, .unset, .unset] [(.int (3 : Int32))])) (fun t k => XS.iconst X0.here hx rfl (hb hby at_183) k) ?_
        refine own_st (V := s₁.setTop (mkF m 186 #[.val (.int p1), .val (.int y), .val (.int va), .val (.int vb), .val (.int vc), .val (.int vk), .val (.int vp), .val (.int vq), .val (.int vM), .val (.int vN), .val (.int vd), .val (.int ve), .val (.int vs), .val (.int (3 : Int32)), .unset, .unset] [])) (fun t k => XS.istore X0.here hx rfl (hb hby at_184) rfl (l' := #[.val (.int p1), .val (.int y), .val (.int va), .val (.int vb), .val (.int vc), .val (.int vk), .val (.int vp), .val (.int vq), .val (.int vM), .val (.int vN), .val (.int vd), .val (.int ve), .val (.int vs), .val (.int (3 : Int32)), .unset, .unset]) rfl k) ?_
        refine own_st (V := s₁.setTop (mkF m 188 #[.val (.int p1), .val (.int y), .val (.int va), .val (.int vb), .val (.int vc), .val (.int vk), .val (.int vp), .val (.int vq), .val (.int vM), .val (.int vN), .val (.int vd), .val (.int ve), .val (.int vs), .val (.int (3 : Int32)), .unset, .unset] [(.int (20 : Int32))])) (fun t k => XS.bipush X0.here hx rfl (hb hby at_186) k) ?_
        refine own_st (V := s₁.setTop (mkF m 190 #[.val (.int p1), .val (.int y), .val (.int va), .val (.int vb), .val (.int vc), .val (.int vk), .val (.int vp), .val (.int vq), .val (.int vM), .val (.int vN), .val (.int vd), .val (.int ve), .val (.int vs), .val (.int (3 : Int32)), .unset, .unset] [(.int vs), (.int (20 : Int32))])) (fun t k => XS.iload X0.here hx rfl (hb hby at_188) rfl k) ?_
        refine own_st (V := s₁.setTop (mkF m 191 #[.val (.int p1), .val (.int y), .val (.int va), .val (.int vb), .val (.int vc), .val (.int vk), .val (.int vp), .val (.int vq), .val (.int vM), .val (.int vN), .val (.int vd), .val (.int ve), .val (.int vs), .val (.int (3 : Int32)), .unset, .unset] [(.int ((20 : Int32) + vs))])) (fun t k => XS.iadd X0.here hx rfl (hb hby at_190) rfl k) ?_
        refine own_st (V := s₁.setTop (mkF m 193 #[.val (.int p1), .val (.int y), .val (.int va), .val (.int vb), .val (.int vc), .val (.int vk), .val (.int vp), .val (.int vq), .val (.int vM), .val (.int vN), .val (.int vd), .val (.int ve), .val (.int vs), .val (.int (3 : Int32)), .val (.int ((20 : Int32) + vs)), .unset] [])) (fun t k => XS.istore X0.here hx rfl (hb hby at_191) rfl (l' := #[.val (.int p1), .val (.int y), .val (.int va), .val (.int vb), .val (.int vc), .val (.int vk), .val (.int vp), .val (.int vq), .val (.int vM), .val (.int vN), .val (.int vd), .val (.int ve), .val (.int vs), .val (.int (3 : Int32)), .val (.int ((20 : Int32) + vs)), .unset]) rfl k) ?_
        refine own_st (V := s₁.setTop (mkF m 206 #[.val (.int p1), .val (.int y), .val (.int va), .val (.int vb), .val (.int vc), .val (.int vk), .val (.int vp), .val (.int vq), .val (.int vM), .val (.int vN), .val (.int vd), .val (.int ve), .val (.int vs), .val (.int (3 : Int32)), .val (.int ((20 : Int32) + vs)), .unset] [])) (fun t k => XS.goto X0.here hx rfl (pc0 := 193) (pc' := 206) rfl (hb hby at_193) (by decide) (by decide) k) ?_
        have i_S := own_n11 hcS
        refine own_st (V := s₁.setTop (mkF m 207 #[.val (.int p1), .val (.int y), .val (.int va), .val (.int vb), .val (.int vc), .val (.int vk), .val (.int vp), .val (.int vq), .val (.int vM), .val (.int vN), .val (.int vd), .val (.int ve), .val (.int vs), .val (.int (3 : Int32)), .val (.int ((20 : Int32) + vs)), .unset] [(.int y)])) (fun t k => XS.iloadN X0.here hx rfl (hb hby at_206) rfl k) ?_
        obtain ⟨_, _, ⟨T129, L129, k129, n129⟩, -, X129, hSi129, hgr129, ⟨Lc129, hQ129, l129, y129, z129⟩, st129⟩ := Jvm.RoadKit.callSS X0 hx (y := (⟨"com/example/notewright/notewright/Holidays", "goodFriday", "(I)Ljava/time/LocalDate;"⟩ : MethodName)) hown (mvT hZ (hw _ (List.mem_of_getElem? (i := 2) rfl))) (mvT hZ (hw _ (List.mem_of_getElem? (i := 3) rfl))) (mvT hZ (hw _ (List.mem_of_getElem? (i := 4) rfl))) (mvT hZ (hw _ (List.mem_of_getElem? (i := 5) rfl))) (by decide) (backOfS (W := 0) (own_gf l Z a0 hw [] y cy ry cd rd ce re mm iso h0 n0 Z0 Od Wd hy0 hy1) hZ (hw _ (List.mem_of_getElem? (i := 5) rfl)) (hw _ (List.mem_of_getElem? (i := 4) rfl)) (by decide) (by decide)) (g := (mkF m 207 #[.val (.int p1), .val (.int y), .val (.int va), .val (.int vb), .val (.int vc), .val (.int vk), .val (.int vp), .val (.int vq), .val (.int vM), .val (.int vN), .val (.int vd), .val (.int ve), .val (.int vs), .val (.int (3 : Int32)), .val (.int ((20 : Int32) + vs)), .unset] [(.int y)])) rfl (by rw [hml]; rfl) (argsL := [(.int y)]) (rest := []) (lenOf own_pd13 rfl) rfl (by show 2 * 0 + _ ≤ _; exact Nat.le_of_eq rfl) (hb hby at_207) (fun _ _ => ⟨rfl, e0, (by decide : 0 + 5 ≤ _), (by decide : 0 + 33 ≤ _)⟩)
        dsimp only [Pt.U, Pt.locs, Pt.cells, Pt.slots] at X129 l129 y129 z129 st129 hQ129
        subst l129 y129 z129
        dsimp only [Pt.U] at hSi129 hgr129
        obtain ⟨d129, r129, mo129, rfl, N129q, K129, Ex129_q, Fq129_0, Fq129_1, Fq129_2, hA129, hB129⟩ := hQ129
        have N129 := Fr.app N0 N129q
        have Z0_129 : n0 ≤ T129.heap.size := Nat.le_trans Z0 K129.1
        obtain ⟨rfl, hrr⟩ := hA129 (by rw [hS]; exact i_S)
        rw [hS] at hrr
        have Od129 := Od.keep K129 all0
        have hZ_129 : Z.Warmed39 (s.setVm T129.vm).vm := State.Warmed39.trans hZ hSi129.1
        have hown_129 : (s.setVm T129.vm).vm.findClass "com/example/notewright/notewright/HolidaysGoodFridayPinLaw" = some m.cls := by rw [show (s.setVm T129.vm).vm = T129.vm from rfl, hSi129.1.alike.findClass]; exact hown
        have X129 : Stand p l e _ (s.setVm T129.vm) m _ below meth c T129 _ _ _ := X129
        have kz_129 : T129.heap.size ≤ T129.heap.size := Nat.le_refl _
        refine own_st (V := T129.setTop (mkF m 210 #[.val (.int p1), .val (.int y), .val (.int va), .val (.int vb), .val (.int vc), .val (.int vk), .val (.int vp), .val (.int vq), .val (.int vM), .val (.int vN), .val (.int vd), .val (.int ve), .val (.int vs), .val (.int (3 : Int32)), .val (.int ((20 : Int32) + vs)), .unset] [(.ref d129)])) (fun t k => st129.trans k) ?_
        refine own_st (V := T129.setTop (mkF m 212 #[.val (.int p1), .val (.int y), .val (.int va), .val (.int vb), .val (.int vc), .val (.int vk), .val (.int vp), .val (.int vq), .val (.int vM), .val (.int vN), .val (.int vd), .val (.int ve), .val (.int vs), .val (.int (3 : Int32)), .val (.int ((20 : Int32) + vs)), .val (.ref d129)] [])) (fun t k => XS.astore X129.here hx rfl (hb hby at_210) rfl rfl (l' := #[.val (.int p1), .val (.int y), .val (.int va), .val (.int vb), .val (.int vc), .val (.int vk), .val (.int vp), .val (.int vq), .val (.int vM), .val (.int vN), .val (.int vd), .val (.int ve), .val (.int vs), .val (.int (3 : Int32)), .val (.int ((20 : Int32) + vs)), .val (.ref d129)]) rfl k) ?_
        refine own_st (V := T129.setTop (mkF m 214 #[.val (.int p1), .val (.int y), .val (.int va), .val (.int vb), .val (.int vc), .val (.int vk), .val (.int vp), .val (.int vq), .val (.int vM), .val (.int vN), .val (.int vd), .val (.int ve), .val (.int vs), .val (.int (3 : Int32)), .val (.int ((20 : Int32) + vs)), .val (.ref d129)] [(.ref d129)])) (fun t k => XS.aload X129.here hx rfl (hb hby at_212) rfl rfl k) ?_
        obtain ⟨cq130, kq130, q130a, q130b, q130c⟩ := isOf hZ_129 rfl Ex129_q
        obtain ⟨_, _, ⟨T130, L130, k130, n130⟩, -, X130, ⟨Lc130, hQ130, l130, y130, z130⟩, st130⟩ := X129.virtualBack hx (y := (⟨"java/time/LocalDate", "getYear", "()I"⟩ : MethodName)) (z := (⟨"java/time/LocalDate", "getYear", "()I"⟩ : MethodName)) hown_129 (mvT hZ_129 (hw _ (List.mem_of_getElem? (i := 116) rfl))) (mvT hZ_129 (hw _ (List.mem_of_getElem? (i := 117) rfl))) (notFace_of_selects (args := #[]) (mvT hZ_129 (hw _ (List.mem_of_getElem? (i := 119) rfl)))) (mvT hZ_129 (hw _ (List.mem_of_getElem? (i := 119) rfl))) (mvT hZ_129 (hw _ (List.mem_of_getElem? (i := 118) rfl))) (by decide) (backOf (W := 0) (own_gy l Z a0 hw [] d129 y T129.heap n0 Z0_129 Fq129_0) hZ_129 (hw _ (List.mem_of_getElem? (i := 120) rfl)) (hw _ (List.mem_of_getElem? (i := 10) rfl)) (by decide) (by decide)) q130a q130c (g := (mkF m 214 #[.val (.int p1), .val (.int y), .val (.int va), .val (.int vb), .val (.int vc), .val (.int vk), .val (.int vp), .val (.int vq), .val (.int vM), .val (.int vN), .val (.int vd), .val (.int ve), .val (.int vs), .val (.int (3 : Int32)), .val (.int ((20 : Int32) + vs)), .val (.ref d129)] [(.ref d129)])) rfl (by rw [hml]; rfl) (Steps.refl _) (argsL := []) (rest := []) (lenOf own_pd4 rfl) rfl (by show 2 * 0 + _ ≤ _; exact Nat.le_of_eq rfl) (hb hby at_214) (fun _ _ => ⟨rfl, rfl, (by decide : 5 + 0 ≤ _), (by decide : 33 + 0 ≤ _)⟩)
        dsimp only [Pt.U, Pt.locs, Pt.cells, Pt.slots] at X130 l130 y130 z130 st130 hQ130
        subst l130 y130 z130
        obtain ⟨rfl, N130q, e130⟩ := hQ130
        have N130 := Fr.app N129 N130q
        refine own_st (V := T130.setTop (mkF m 217 #[.val (.int p1), .val (.int y), .val (.int va), .val (.int vb), .val (.int vc), .val (.int vk), .val (.int vp), .val (.int vq), .val (.int vM), .val (.int vN), .val (.int vd), .val (.int ve), .val (.int vs), .val (.int (3 : Int32)), .val (.int ((20 : Int32) + vs)), .val (.ref d129)] [(.int y)])) (fun t k => st130.trans k) ?_
        refine own_st (V := T130.setTop (mkF m 218 #[.val (.int p1), .val (.int y), .val (.int va), .val (.int vb), .val (.int vc), .val (.int vk), .val (.int vp), .val (.int vq), .val (.int vM), .val (.int vN), .val (.int vd), .val (.int ve), .val (.int vs), .val (.int (3 : Int32)), .val (.int ((20 : Int32) + vs)), .val (.ref d129)] [(.int y), (.int y)])) (fun t k => XS.iloadN X130.here hx rfl (hb hby at_217) rfl k) ?_
        refine own_st (V := T130.setTop (mkF m 221 #[.val (.int p1), .val (.int y), .val (.int va), .val (.int vb), .val (.int vc), .val (.int vk), .val (.int vp), .val (.int vq), .val (.int vM), .val (.int vN), .val (.int vd), .val (.int ve), .val (.int vs), .val (.int (3 : Int32)), .val (.int ((20 : Int32) + vs)), .val (.ref d129)] [])) (fun t k => XS.icmpNo X130.here hx rfl (hb hby at_218) rfl (teq rfl).2 k) ?_
        refine own_st (V := T130.setTop (mkF m 223 #[.val (.int p1), .val (.int y), .val (.int va), .val (.int vb), .val (.int vc), .val (.int vk), .val (.int vp), .val (.int vq), .val (.int vM), .val (.int vN), .val (.int vd), .val (.int ve), .val (.int vs), .val (.int (3 : Int32)), .val (.int ((20 : Int32) + vs)), .val (.ref d129)] [(.ref d129)])) (fun t k => XS.aload X130.here hx rfl (hb hby at_221) rfl rfl k) ?_
        obtain ⟨cq131, kq131, q131a, q131b, q131c⟩ := isOf hZ_129 e130 Ex129_q
        obtain ⟨_, _, ⟨T131, L131, k131, n131⟩, -, X131, ⟨Lc131, hQ131, l131, y131, z131⟩, st131⟩ := X130.virtualBack hx (y := (⟨"java/time/LocalDate", "getMonthValue", "()I"⟩ : MethodName)) (z := (⟨"java/time/LocalDate", "getMonthValue", "()I"⟩ : MethodName)) hown_129 (mvT hZ_129 (hw _ (List.mem_of_getElem? (i := 121) rfl))) (mvT hZ_129 (hw _ (List.mem_of_getElem? (i := 122) rfl))) (notFace_of_selects (args := #[]) (mvT hZ_129 (hw _ (List.mem_of_getElem? (i := 124) rfl)))) (mvT hZ_129 (hw _ (List.mem_of_getElem? (i := 124) rfl))) (mvT hZ_129 (hw _ (List.mem_of_getElem? (i := 123) rfl))) (by decide) (backOf (W := 0) (own_gm l Z a0 hw [] d129 (3 : Int32) T129.heap n0 Z0_129 Fq129_1) hZ_129 (hw _ (List.mem_of_getElem? (i := 125) rfl)) (hw _ (List.mem_of_getElem? (i := 10) rfl)) (by decide) (by decide)) q131a q131c (g := (mkF m 223 #[.val (.int p1), .val (.int y), .val (.int va), .val (.int vb), .val (.int vc), .val (.int vk), .val (.int vp), .val (.int vq), .val (.int vM), .val (.int vN), .val (.int vd), .val (.int ve), .val (.int vs), .val (.int (3 : Int32)), .val (.int ((20 : Int32) + vs)), .val (.ref d129)] [(.ref d129)])) rfl (by rw [hml]; rfl) (Steps.refl _) (argsL := []) (rest := []) (lenOf own_pd4 rfl) rfl (by show 2 * 0 + _ ≤ _; exact Nat.le_of_eq rfl) (hb hby at_223) (fun _ _ => ⟨rfl, e130, (by decide : 5 + 0 ≤ _), (by decide : 33 + 0 ≤ _)⟩)
        dsimp only [Pt.U, Pt.locs, Pt.cells, Pt.slots] at X131 l131 y131 z131 st131 hQ131
        subst l131 y131 z131
        obtain ⟨rfl, N131q, e131⟩ := hQ131
        have N131 := Fr.app N130 N131q
        refine own_st (V := T131.setTop (mkF m 226 #[.val (.int p1), .val (.int y), .val (.int va), .val (.int vb), .val (.int vc), .val (.int vk), .val (.int vp), .val (.int vq), .val (.int vM), .val (.int vN), .val (.int vd), .val (.int ve), .val (.int vs), .val (.int (3 : Int32)), .val (.int ((20 : Int32) + vs)), .val (.ref d129)] [(.int (3 : Int32))])) (fun t k => st131.trans k) ?_
        refine own_st (V := T131.setTop (mkF m 228 #[.val (.int p1), .val (.int y), .val (.int va), .val (.int vb), .val (.int vc), .val (.int vk), .val (.int vp), .val (.int vq), .val (.int vM), .val (.int vN), .val (.int vd), .val (.int ve), .val (.int vs), .val (.int (3 : Int32)), .val (.int ((20 : Int32) + vs)), .val (.ref d129)] [(.int (3 : Int32)), (.int (3 : Int32))])) (fun t k => XS.iload X131.here hx rfl (hb hby at_226) rfl k) ?_
        refine own_st (V := T131.setTop (mkF m 231 #[.val (.int p1), .val (.int y), .val (.int va), .val (.int vb), .val (.int vc), .val (.int vk), .val (.int vp), .val (.int vq), .val (.int vM), .val (.int vN), .val (.int vd), .val (.int ve), .val (.int vs), .val (.int (3 : Int32)), .val (.int ((20 : Int32) + vs)), .val (.ref d129)] [])) (fun t k => XS.icmpNo X131.here hx rfl (hb hby at_228) rfl (teq (by decide : (3 : Int32) = (3 : Int32))).2 k) ?_
        refine own_st (V := T131.setTop (mkF m 233 #[.val (.int p1), .val (.int y), .val (.int va), .val (.int vb), .val (.int vc), .val (.int vk), .val (.int vp), .val (.int vq), .val (.int vM), .val (.int vN), .val (.int vd), .val (.int ve), .val (.int vs), .val (.int (3 : Int32)), .val (.int ((20 : Int32) + vs)), .val (.ref d129)] [(.ref d129)])) (fun t k => XS.aload X131.here hx rfl (hb hby at_231) rfl rfl k) ?_
        obtain ⟨cq132, kq132, q132a, q132b, q132c⟩ := isOf hZ_129 e131 Ex129_q
        obtain ⟨_, _, ⟨T132, L132, k132, n132⟩, -, X132, ⟨Lc132, hQ132, l132, y132, z132⟩, st132⟩ := X131.virtualBack hx (y := (⟨"java/time/LocalDate", "getDayOfMonth", "()I"⟩ : MethodName)) (z := (⟨"java/time/LocalDate", "getDayOfMonth", "()I"⟩ : MethodName)) hown_129 (mvT hZ_129 (hw _ (List.mem_of_getElem? (i := 126) rfl))) (mvT hZ_129 (hw _ (List.mem_of_getElem? (i := 127) rfl))) (notFace_of_selects (args := #[]) (mvT hZ_129 (hw _ (List.mem_of_getElem? (i := 129) rfl)))) (mvT hZ_129 (hw _ (List.mem_of_getElem? (i := 129) rfl))) (mvT hZ_129 (hw _ (List.mem_of_getElem? (i := 128) rfl))) (by decide) (backOf (W := 0) (own_gd l Z a0 hw [] d129 r129 T129.heap n0 Z0_129 Fq129_2) hZ_129 (hw _ (List.mem_of_getElem? (i := 130) rfl)) (hw _ (List.mem_of_getElem? (i := 10) rfl)) (by decide) (by decide)) q132a q132c (g := (mkF m 233 #[.val (.int p1), .val (.int y), .val (.int va), .val (.int vb), .val (.int vc), .val (.int vk), .val (.int vp), .val (.int vq), .val (.int vM), .val (.int vN), .val (.int vd), .val (.int ve), .val (.int vs), .val (.int (3 : Int32)), .val (.int ((20 : Int32) + vs)), .val (.ref d129)] [(.ref d129)])) rfl (by rw [hml]; rfl) (Steps.refl _) (argsL := []) (rest := []) (lenOf own_pd4 rfl) rfl (by show 2 * 0 + _ ≤ _; exact Nat.le_of_eq rfl) (hb hby at_233) (fun _ _ => ⟨rfl, e131, (by decide : 5 + 0 ≤ _), (by decide : 33 + 0 ≤ _)⟩)
        dsimp only [Pt.U, Pt.locs, Pt.cells, Pt.slots] at X132 l132 y132 z132 st132 hQ132
        subst l132 y132 z132
        obtain ⟨rfl, N132q, e132⟩ := hQ132
        have N132 := Fr.app N131 N132q
        refine own_st (V := T132.setTop (mkF m 236 #[.val (.int p1), .val (.int y), .val (.int va), .val (.int vb), .val (.int vc), .val (.int vk), .val (.int vp), .val (.int vq), .val (.int vM), .val (.int vN), .val (.int vd), .val (.int ve), .val (.int vs), .val (.int (3 : Int32)), .val (.int ((20 : Int32) + vs)), .val (.ref d129)] [(.int r129)])) (fun t k => st132.trans k) ?_
        refine own_st (V := T132.setTop (mkF m 238 #[.val (.int p1), .val (.int y), .val (.int va), .val (.int vb), .val (.int vc), .val (.int vk), .val (.int vp), .val (.int vq), .val (.int vM), .val (.int vN), .val (.int vd), .val (.int ve), .val (.int vs), .val (.int (3 : Int32)), .val (.int ((20 : Int32) + vs)), .val (.ref d129)] [(.int ((20 : Int32) + vs)), (.int r129)])) (fun t k => XS.iload X132.here hx rfl (hb hby at_236) rfl k) ?_
        refine own_st (V := T132.setTop (mkF m 241 #[.val (.int p1), .val (.int y), .val (.int va), .val (.int vb), .val (.int vc), .val (.int vk), .val (.int vp), .val (.int vq), .val (.int vM), .val (.int vN), .val (.int vd), .val (.int ve), .val (.int vs), .val (.int (3 : Int32)), .val (.int ((20 : Int32) + vs)), .val (.ref d129)] [])) (fun t k => XS.icmpNo X132.here hx rfl (hb hby at_238) rfl (teq (Int32.toInt_inj.mp (by rw [hrr, own_d3 vs r_s.1 r_s.2]))).2 k) ?_
        refine own_st (V := T132.setTop (mkF m 242 #[.val (.int p1), .val (.int y), .val (.int va), .val (.int vb), .val (.int vc), .val (.int vk), .val (.int vp), .val (.int vq), .val (.int vM), .val (.int vN), .val (.int vd), .val (.int ve), .val (.int vs), .val (.int (3 : Int32)), .val (.int ((20 : Int32) + vs)), .val (.ref d129)] [(.int (1 : Int32))])) (fun t k => XS.iconst X132.here hx rfl (hb hby at_241) k) ?_
        refine own_st (V := T132.setTop (mkF m 246 #[.val (.int p1), .val (.int y), .val (.int va), .val (.int vb), .val (.int vc), .val (.int vk), .val (.int vp), .val (.int vq), .val (.int vM), .val (.int vN), .val (.int vd), .val (.int ve), .val (.int vs), .val (.int (3 : Int32)), .val (.int ((20 : Int32) + vs)), .val (.ref d129)] [(.int (1 : Int32))])) (fun t k => XS.goto X132.here hx rfl (pc0 := 242) (pc' := 246) rfl (hb hby at_242) (by decide) (by decide) k) ?_
        exact own_retW (s := s) hSi129 (by rw [e132]; exact kz_129) X132 hx hlk Bd.returns (by decide +kernel) (Or.inl ⟨rfl, by simp, _, rfl⟩) (hb hby at_246) (by decide) (by decide) ⟨rfl, N132⟩
set_option maxRecDepth 65536 in
set_option maxHeartbeats 40000000 in
theorem comes_1 {Post : Tables → Env → Array Value → State → Outcome → State → Prop} (hpost : ∀ tb e args s v u, (limb_1_1.after args s (.returned v) u = true ∧ limb_1_2.after args s (.returned v) u = true ∧ True) → ReturnedEndW s (.returned v) u (Jvm.fieldLocs frame_1_writes args s ++ Jvm.arrayLocs frame_1_arrays args s ++ Jvm.staticLocs frame_1_statics s) 16 1152 → Post tb e args s (.returned v) u) :
    ArmFor flags0 classFile x code maxLocals ret World_1 tables_1 room_1 Calls_1 rest_1 Pre_1 Post := by
  intro l hfl _ _ p e ha hc hk s m args below hf hA hF happ hP
  obtain ⟨hcalls, hrest, hpre⟩ := hP
  obtain ⟨-, -, -, hnamed, -, -, -, hat⟩ := (Spec.applies_iff hf).mp happ
  obtain ⟨hg, hn⟩ := and_e (Cond.before_iff.mp (show (Jvm.Cond.and given_1 narrow_1).before args s = true from hpre))
  obtain ⟨g0, g1⟩ := and_e hg
  obtain ⟨w0, rfl⟩ : ∃ w0 : Value, args = #[w0] := by
    have hs : args.size = 1 := by simpa [Cond.value, given_1] using g0
    obtain ⟨L⟩ := args
    match L, hs with
    | [w0], _ => exact ⟨w0, rfl⟩
  have hw := fun d (hd : d ∈ tables_1) => atoms_spec (ws := Jvm.Cond.code x code maxLocals ret :: tables_1) hat d (List.mem_cons_of_mem _ hd)
  have hfit : Fit s := fun {y c} hc i hi => by
    obtain ⟨ha, rfl⟩ := Array.getElem?_eq_some_iff.mp hc
    have q := List.all_eq_true.mp ((Array.all_eq_true_iff_forall_mem.mp hF) _ (Array.getElem_mem ha)) i (List.mem_range.mpr hi)
    simpa [Array.getElem?_eq_getElem hi] using q
  obtain ⟨hsets, hown0⟩ := atoms_of _ (rest_1_c_eq ▸ (show rest_1_c.before _ s = true from hrest))
  obtain ⟨i0, ei0⟩ := is_v g1
  obtain rfl : w0 = (.int i0) := Option.some.inj ei0
  obtain ⟨cy, v_cy⟩ := exa_v (Cond.before_iff.mp (hsets _ (List.mem_of_getElem? (i := 11) rfl)))
  have S_cy := Sta.start v_cy (Or.inl (hsets _ (List.mem_of_getElem? (i := 6) rfl)))
  have E_cy := Exa.start v_cy (Cond.before_iff.mp (hsets _ (List.mem_of_getElem? (i := 11) rfl)))
  obtain ⟨ry, v_ry⟩ := exa_v (Cond.before_iff.mp (hsets _ (List.mem_of_getElem? (i := 27) rfl)))
  have F_cy : Fld s s.heap cy "java/time/temporal/ChronoField" "range" "Ljava/time/temporal/ValueRange;" (.ref ry) := Fld.start ((fld_at v_cy).symm.trans v_ry)
  have E_ry := Exa.start v_ry (Cond.before_iff.mp (hsets _ (List.mem_of_getElem? (i := 27) rfl)))
  have L_ry := own_fldL v_ry (Cond.before_iff.mp (hsets _ (List.mem_of_getElem? (i := 28) rfl)))
  have U_ry := own_fldL v_ry (Cond.before_iff.mp (hsets _ (List.mem_of_getElem? (i := 31) rfl)))
  obtain ⟨cd, v_cd⟩ := exa_v (Cond.before_iff.mp (hsets _ (List.mem_of_getElem? (i := 39) rfl)))
  have S_cd := Sta.start v_cd (Or.inl (hsets _ (List.mem_of_getElem? (i := 34) rfl)))
  have E_cd := Exa.start v_cd (Cond.before_iff.mp (hsets _ (List.mem_of_getElem? (i := 39) rfl)))
  obtain ⟨rd, v_rd⟩ := exa_v (Cond.before_iff.mp (hsets _ (List.mem_of_getElem? (i := 55) rfl)))
  have F_cd : Fld s s.heap cd "java/time/temporal/ChronoField" "range" "Ljava/time/temporal/ValueRange;" (.ref rd) := Fld.start ((fld_at v_cd).symm.trans v_rd)
  have E_rd := Exa.start v_rd (Cond.before_iff.mp (hsets _ (List.mem_of_getElem? (i := 55) rfl)))
  have L_rd := own_fldL v_rd (Cond.before_iff.mp (hsets _ (List.mem_of_getElem? (i := 56) rfl)))
  have U_rd := own_fldL v_rd (Cond.before_iff.mp (hsets _ (List.mem_of_getElem? (i := 59) rfl)))
  obtain ⟨ce, v_ce⟩ := exa_v (Cond.before_iff.mp (hsets _ (List.mem_of_getElem? (i := 70) rfl)))
  have S_ce := Sta.start v_ce (Or.inl (hsets _ (List.mem_of_getElem? (i := 65) rfl)))
  have E_ce := Exa.start v_ce (Cond.before_iff.mp (hsets _ (List.mem_of_getElem? (i := 70) rfl)))
  obtain ⟨re, v_re⟩ := exa_v (Cond.before_iff.mp (hsets _ (List.mem_of_getElem? (i := 86) rfl)))
  have F_ce : Fld s s.heap ce "java/time/temporal/ChronoField" "range" "Ljava/time/temporal/ValueRange;" (.ref re) := Fld.start ((fld_at v_ce).symm.trans v_re)
  have E_re := Exa.start v_re (Cond.before_iff.mp (hsets _ (List.mem_of_getElem? (i := 86) rfl)))
  have L_re := own_fldL v_re (Cond.before_iff.mp (hsets _ (List.mem_of_getElem? (i := 87) rfl)))
  have U_re := own_fldL v_re (Cond.before_iff.mp (hsets _ (List.mem_of_getElem? (i := 90) rfl)))
  obtain ⟨mm, v_mm⟩ := exa_v (Cond.before_iff.mp (hsets _ (List.mem_of_getElem? (i := 2) rfl)))
  have S_mm := Sta.start v_mm (Or.inl (hsets _ (List.mem_of_getElem? (i := 1) rfl)))
  have E_mm := Exa.start v_mm (Cond.before_iff.mp (hsets _ (List.mem_of_getElem? (i := 2) rfl)))
  have F_mm := own_fld v_mm (Cond.before_iff.mp (hsets _ (List.mem_of_getElem? (i := 4) rfl)))
  obtain ⟨iso, v_iso⟩ := exa_v (Cond.before_iff.mp (hsets _ (List.mem_of_getElem? (i := 63) rfl)))
  have S_iso := Sta.start v_iso (Or.inl (hsets _ (List.mem_of_getElem? (i := 62) rfl)))
  have E_iso := Exa.start v_iso (Cond.before_iff.mp (hsets _ (List.mem_of_getElem? (i := 63) rfl)))
  have Wd : own_W s cy ry cd rd ce re mm iso := ⟨S_cy, E_cy, F_cy, E_ry, L_ry, U_ry, S_cd, E_cd, F_cd, E_rd, L_rd, U_rd, S_ce, E_ce, F_ce, E_re, L_re, U_re, S_mm, E_mm, F_mm, S_iso, E_iso⟩
  obtain ⟨n, o, h1, h2, h3, _, L, rfl, ⟨rfl, N⟩, hq⟩ := own_law l s _ hw tables_1 i0 cy ry cd rd ce re mm iso s.heap s.heap.size (Nat.le_refl _) (Old.start s) Wd p e ha hc hk s m _ below hf ((Spec.applies_iff_loose hf).mp happ).1 ⟨rfl, State.Warmed39.refl s, rfl⟩ trivial
  refine ⟨n, _, h1, h2, h3, hpost _ _ _ _ _ _ ⟨Cond.after_iff.mpr rfl, Cond.after_iff.mpr (eq_i res_at (Term.int_eval (1)) rfl), trivial⟩ ⟨hq.1, hq.2.1, hq.2.2.1, (hq.2.2.2.sift fun y hy => Or.inr (N y hy)).mono (by decide) (by decide)⟩⟩
theorem main_1_1 : Claimed_1_1 := comes_1 fun _ _ _ _ _ _ h hF => ⟨h.1, hF⟩
theorem main_1_2 : Claimed_1_2 := comes_1 fun _ _ _ _ _ _ h hF => ⟨h.2.1, hF⟩
end Jvm.Pilot.@@N@@
namespace Jvm.Pilot.@@N@@
open Jvm Jvm.ClassFile Sem Op Lib Jvm.Free Jvm.Stand Jvm.Pilot.@@N@@.Jvm.D
/-! MADE BY PROGRAM (witnessworld.py) out of the Statement's table words and the real class files: 33 classes; the members and pool entries that the words name. The judged class is class 1, her method 1. -/
namespace start1
open Jvm.ClassFile
def u (s : String) : CpInfo := .utf8 (stringToUtf16 s)
/-- a pool by its gaps: so many unusable entries, then the entry; so many at the end -/
def gap : Nat → List CpInfo → List CpInfo
  | 0, r => r
  | n + 1, r => .unusable :: gap n r
def poolList (es : List (Nat × CpInfo)) (last : Nat) : List CpInfo := es.foldr (fun e r => gap e.1 (e.2 :: r)) (gap last [])
def pool (es : List (Nat × CpInfo)) (last : Nat) : Array CpInfo := ⟨poolList es last⟩
def fileOf (pool : Array CpInfo) (this : Nat) (attrs : Array Attribute := #[]) (ms : Array MethodInfo := #[]) (fl : Nat := 33) (sup : Nat := 0) (ifs : Array Nat := #[]) (fds : Array FieldInfo := #[]) : ClassFile where
  minorVersion := 0
  majorVersion := 65
  constantPool := pool
  accessFlags := fl
  thisClass := this
  superClass := sup
  interfaces := ifs
  fields := fds
  methods := ms
  attributes := attrs
def plain (name : String) (sup : Option ClassId) : Class where
  name := name
  kind := .ordinary
  loader := none
  accessFlags := 33
  super := sup
  interfaces := #[]
  cf := none
  fields := #[]
  methods := #[]
  instanceTypes := #[]
  staticTypes := #[]
  resolved := #[]
  callSites := []
  init := .initialized
  statics := none
  mirror := none

def pool0 : Array CpInfo := pool [(5, u "<init>"), (0, u "()V"), (1, .class_ 10), (1, u "java/lang/Object")] 113

def k0c0 : Code := { maxStack := 0, maxLocals := 1, code := object_method_1_code, exceptionTable := #[], attributes := #[] }
def k0m0 : Method := { name := "<init>", desc := "()V", sig := { parameters := [], returnType := none }, accessFlags := 1, code := some k0c0 }
/-- java/lang/Object -/
def k0 : Class := { plain "java/lang/Object" none with
  accessFlags := 33
  interfaces := #[]
  cf := some (fileOf pool0 8 #[] #[{ accessFlags := 1, nameIndex := 5, descriptorIndex := 6, attributes := #[] }] 33 0 #[] #[])
  fields := #[]
  methods := #[k0m0]
  instanceTypes := #[]
  staticTypes := #[]
  resolved := Array.replicate 124 none
  statics := none }

def pool1 : Array CpInfo := pool [(2, .class_ 4), (1, u "java/lang/Object"), (0, u "<init>"), (0, u "()V"), (0, .integer 2147483647), (0, .integer 999998417), (0, .methodref 10 11), (0, .class_ 12), (0, .nameAndType 13 14), (0, u "com/example/notewright/notewright/Holidays"), (0, u "goodFriday"), (0, u "(I)Ljava/time/LocalDate;"), (0, .methodref 16 17), (0, .class_ 18), (0, .nameAndType 19 20), (0, u "java/time/LocalDate"), (0, u "getYear"), (0, u "()I"), (0, .methodref 16 22), (0, .nameAndType 23 20), (0, u "getMonthValue"), (0, .methodref 16 25), (0, .nameAndType 26 20), (0, u "getDayOfMonth"), (0, .class_ 28), (0, u "com/example/notewright/notewright/HolidaysGoodFridayPinLaw"), (2, u "law"), (0, u "(I)Z")] 3

def k1m0 : Method := { name := "<init>", desc := "()V", sig := { parameters := [], returnType := none }, accessFlags := 2, code := none }
def k1c1 : Code := { maxStack := 3, maxLocals := 16, code := code, exceptionTable := #[], attributes := #[] }
def k1m1 : Method := { name := "law", desc := "(I)Z", sig := { parameters := [.int], returnType := some .boolean }, accessFlags := 9, code := some k1c1 }
/-- com/example/notewright/notewright/HolidaysGoodFridayPinLaw -/
def k1 : Class := { plain "com/example/notewright/notewright/HolidaysGoodFridayPinLaw" (some 0) with
  accessFlags := 49
  interfaces := #[]
  cf := some (fileOf pool1 27 #[] #[{ accessFlags := 2, nameIndex := 5, descriptorIndex := 6, attributes := #[] }, { accessFlags := 9, nameIndex := 31, descriptorIndex := 32, attributes := #[] }] 49 2 #[] #[])
  fields := #[]
  methods := #[k1m0, k1m1]
  instanceTypes := #[]
  staticTypes := #[]
  resolved := Array.replicate 36 none
  statics := none }

def pool2 : Array CpInfo := pool [(2, .class_ 4), (1, u "java/lang/Object"), (0, u "<init>"), (0, u "()V"), (7, .class_ 16), (1, u "java/time/LocalDate"), (36, .methodref 14 54), (0, .nameAndType 55 56), (0, u "of"), (0, u "(ILjava/time/Month;I)Ljava/time/LocalDate;"), (15, .class_ 74), (1, u "com/example/notewright/notewright/Holidays$1"), (6, .methodref 14 82), (0, .nameAndType 83 84), (0, u "minusDays"), (0, u "(J)Ljava/time/LocalDate;"), (0, .methodref 14 86), (0, .nameAndType 87 84), (0, u "plusDays"), (9, .fieldref 98 99), (0, .class_ 100), (0, .nameAndType 101 102), (0, u "java/time/Month"), (0, u "MARCH"), (0, u "Ljava/time/Month;"), (0, .long 2), (1, .class_ 106), (0, u "com/example/notewright/notewright/Holidays"), (17, u "goodFriday"), (0, u "(I)Ljava/time/LocalDate;")] 18

def k2m0 : Method := { name := "<init>", desc := "()V", sig := { parameters := [], returnType := none }, accessFlags := 2, code := none }
def k2c1 : Code := { maxStack := 4, maxLocals := 8, code := prog_30_method_8_code, exceptionTable := #[], attributes := #[] }
def k2m1 : Method := { name := "goodFriday", desc := "(I)Ljava/time/LocalDate;", sig := { parameters := [.int], returnType := some (.object "java/time/LocalDate") }, accessFlags := 8, code := some k2c1 }
/-- com/example/notewright/notewright/Holidays -/
def k2 : Class := { plain "com/example/notewright/notewright/Holidays" (some 0) with
  accessFlags := 48
  interfaces := #[]
  cf := some (fileOf pool2 105 #[.nestMembers #[72]] #[{ accessFlags := 2, nameIndex := 5, descriptorIndex := 6, attributes := #[] }, { accessFlags := 8, nameIndex := 124, descriptorIndex := 125, attributes := #[] }] 48 2 #[] #[])
  fields := #[]
  methods := #[k2m0, k2m1]
  instanceTypes := #[]
  staticTypes := #[]
  resolved := Array.replicate 144 none
  statics := none }

def pool3 : Array CpInfo := pool [(1, .class_ 2), (0, u "java/lang/constant/Constable"), (0, .class_ 4), (0, u "java/lang/Object")] 6

/-- java/lang/constant/Constable -/
def k3 : Class := { plain "java/lang/constant/Constable" (some 0) with
  accessFlags := 1537
  interfaces := #[]
  cf := some (fileOf pool3 1 #[] #[] 1537 3 #[] #[])
  fields := #[]
  methods := #[]
  instanceTypes := #[]
  staticTypes := #[]
  resolved := Array.replicate 11 none
  statics := none }

def pool4 : Array CpInfo := pool [(1, .class_ 2), (0, u "java/lang/Comparable"), (0, .class_ 4), (0, u "java/lang/Object")] 7

/-- java/lang/Comparable -/
def k4 : Class := { plain "java/lang/Comparable" (some 0) with
  accessFlags := 1537
  interfaces := #[]
  cf := some (fileOf pool4 1 #[] #[] 1537 3 #[] #[])
  fields := #[]
  methods := #[]
  instanceTypes := #[]
  staticTypes := #[]
  resolved := Array.replicate 12 none
  statics := none }

def pool5 : Array CpInfo := pool [(1, .class_ 2), (0, u "java/io/Serializable"), (0, .class_ 4), (0, u "java/lang/Object")] 2

/-- java/io/Serializable -/
def k5 : Class := { plain "java/io/Serializable" (some 0) with
  accessFlags := 1537
  interfaces := #[]
  cf := some (fileOf pool5 1 #[] #[] 1537 3 #[] #[])
  fields := #[]
  methods := #[]
  instanceTypes := #[]
  staticTypes := #[]
  resolved := Array.replicate 7 none
  statics := none }

def pool6 : Array CpInfo := pool [(2, .class_ 4), (1, u "java/lang/Enum"), (0, u "name"), (0, u "Ljava/lang/String;"), (0, .fieldref 2 8), (0, .nameAndType 9 10), (0, u "ordinal"), (0, u "I"), (1, .class_ 14), (1, u "java/lang/Object"), (4, u "hash"), (86, .class_ 108), (1, u "java/lang/Enum$EnumDesc"), (2, .class_ 112), (0, u "java/lang/constant/Constable"), (0, .class_ 114), (0, u "java/lang/Comparable"), (0, .class_ 116), (0, u "java/io/Serializable"), (9, u "()I")] 77

def k6c0 : Code := { maxStack := 1, maxLocals := 1, code := jdk_37_method_2_code, exceptionTable := #[], attributes := #[] }
def k6m0 : Method := { name := "ordinal", desc := "()I", sig := { parameters := [], returnType := some .int }, accessFlags := 17, code := some k6c0 }
/-- java/lang/Enum -/
def k6 : Class := { plain "java/lang/Enum" (some 0) with
  accessFlags := 1057
  interfaces := #[3, 4, 5]
  cf := some (fileOf pool6 2 #[.nestMembers #[106]] #[{ accessFlags := 17, nameIndex := 9, descriptorIndex := 126, attributes := #[] }] 1057 12 #[111, 113, 115] #[{ accessFlags := 18, nameIndex := 5, descriptorIndex := 6, attributes := #[] }, { accessFlags := 18, nameIndex := 9, descriptorIndex := 10, attributes := #[] }, { accessFlags := 2, nameIndex := 19, descriptorIndex := 10, attributes := #[] }])
  fields := #[{ name := "name", type := (.object "java/lang/String"), accessFlags := 18, slot := 0, constantValue := 0 }, { name := "ordinal", type := .int, accessFlags := 18, slot := 1, constantValue := 0 }, { name := "hash", type := .int, accessFlags := 2, slot := 2, constantValue := 0 }]
  methods := #[k6m0]
  instanceTypes := #[(.object "java/lang/String"), .int, .int]
  staticTypes := #[]
  resolved := Array.replicate 204 none
  statics := none }

def pool7 : Array CpInfo := pool [(4, .class_ 6), (1, u "java/time/temporal/TemporalAccessor"), (95, .class_ 103), (0, u "java/lang/Object")] 21

/-- java/time/temporal/TemporalAccessor -/
def k7 : Class := { plain "java/time/temporal/TemporalAccessor" (some 0) with
  accessFlags := 1537
  interfaces := #[]
  cf := some (fileOf pool7 4 #[] #[] 1537 102 #[] #[])
  fields := #[]
  methods := #[]
  instanceTypes := #[]
  staticTypes := #[]
  resolved := Array.replicate 125 none
  statics := none }

def pool8 : Array CpInfo := pool [(1, .class_ 2), (0, u "java/time/temporal/TemporalAdjuster"), (0, .class_ 4), (0, u "java/lang/Object")] 6

/-- java/time/temporal/TemporalAdjuster -/
def k8 : Class := { plain "java/time/temporal/TemporalAdjuster" (some 0) with
  accessFlags := 1537
  interfaces := #[]
  cf := some (fileOf pool8 1 #[] #[] 1537 3 #[] #[])
  fields := #[]
  methods := #[]
  instanceTypes := #[]
  staticTypes := #[]
  resolved := Array.replicate 11 none
  statics := none }

def pool9 : Array CpInfo := pool [(1, .class_ 2), (0, u "java/time/Month"), (2, u "JANUARY"), (0, u "Ljava/time/Month;"), (2, u "FEBRUARY"), (2, u "MARCH"), (2, u "APRIL"), (2, u "MAY"), (2, u "JUNE"), (2, u "JULY"), (2, u "AUGUST"), (2, u "SEPTEMBER"), (2, u "OCTOBER"), (2, u "NOVEMBER"), (2, u "DECEMBER"), (2, u "$VALUES"), (0, u "[Ljava/time/Month;"), (6, .class_ 52), (1, u "java/lang/Enum"), (31, u "ENUMS"), (28, .class_ 115), (1, u "java/time/temporal/TemporalAccessor"), (25, .methodref 1 142), (0, .nameAndType 143 144), (0, u "ordinal"), (0, u "()I"), (32, u "getValue"), (63, .class_ 242), (0, u "java/time/temporal/TemporalAdjuster")] 54

def k9c0 : Code := { maxStack := 2, maxLocals := 1, code := jdk_2329_method_6_code, exceptionTable := #[], attributes := #[] }
def k9m0 : Method := { name := "getValue", desc := "()I", sig := { parameters := [], returnType := some .int }, accessFlags := 1, code := some k9c0 }
/-- java/time/Month -/
def k9 : Class := { plain "java/time/Month" (some 6) with
  accessFlags := 16433
  interfaces := #[7, 8]
  cf := some (fileOf pool9 1 #[] #[{ accessFlags := 1, nameIndex := 177, descriptorIndex := 144, attributes := #[] }] 16433 50 #[113, 241] #[{ accessFlags := 16409, nameIndex := 5, descriptorIndex := 6, attributes := #[] }, { accessFlags := 16409, nameIndex := 9, descriptorIndex := 6, attributes := #[] }, { accessFlags := 16409, nameIndex := 12, descriptorIndex := 6, attributes := #[] }, { accessFlags := 16409, nameIndex := 15, descriptorIndex := 6, attributes := #[] }, { accessFlags := 16409, nameIndex := 18, descriptorIndex := 6, attributes := #[] }, { accessFlags := 16409, nameIndex := 21, descriptorIndex := 6, attributes := #[] }, { accessFlags := 16409, nameIndex := 24, descriptorIndex := 6, attributes := #[] }, { accessFlags := 16409, nameIndex := 27, descriptorIndex := 6, attributes := #[] }, { accessFlags := 16409, nameIndex := 30, descriptorIndex := 6, attributes := #[] }, { accessFlags := 16409, nameIndex := 33, descriptorIndex := 6, attributes := #[] }, { accessFlags := 16409, nameIndex := 36, descriptorIndex := 6, attributes := #[] }, { accessFlags := 16409, nameIndex := 39, descriptorIndex := 6, attributes := #[] }, { accessFlags := 26, nameIndex := 84, descriptorIndex := 43, attributes := #[] }, { accessFlags := 4122, nameIndex := 42, descriptorIndex := 43, attributes := #[] }])
  fields := #[{ name := "JANUARY", type := (.object "java/time/Month"), accessFlags := 16409, slot := 0, constantValue := 0 }, { name := "FEBRUARY", type := (.object "java/time/Month"), accessFlags := 16409, slot := 1, constantValue := 0 }, { name := "MARCH", type := (.object "java/time/Month"), accessFlags := 16409, slot := 2, constantValue := 0 }, { name := "APRIL", type := (.object "java/time/Month"), accessFlags := 16409, slot := 3, constantValue := 0 }, { name := "MAY", type := (.object "java/time/Month"), accessFlags := 16409, slot := 4, constantValue := 0 }, { name := "JUNE", type := (.object "java/time/Month"), accessFlags := 16409, slot := 5, constantValue := 0 }, { name := "JULY", type := (.object "java/time/Month"), accessFlags := 16409, slot := 6, constantValue := 0 }, { name := "AUGUST", type := (.object "java/time/Month"), accessFlags := 16409, slot := 7, constantValue := 0 }, { name := "SEPTEMBER", type := (.object "java/time/Month"), accessFlags := 16409, slot := 8, constantValue := 0 }, { name := "OCTOBER", type := (.object "java/time/Month"), accessFlags := 16409, slot := 9, constantValue := 0 }, { name := "NOVEMBER", type := (.object "java/time/Month"), accessFlags := 16409, slot := 10, constantValue := 0 }, { name := "DECEMBER", type := (.object "java/time/Month"), accessFlags := 16409, slot := 11, constantValue := 0 }, { name := "ENUMS", type := (.array (.object "java/time/Month")), accessFlags := 26, slot := 12, constantValue := 0 }, { name := "$VALUES", type := (.array (.object "java/time/Month")), accessFlags := 4122, slot := 13, constantValue := 0 }]
  methods := #[k9m0]
  instanceTypes := #[(.object "java/lang/String"), .int, .int]
  staticTypes := #[(.object "java/time/Month"), (.object "java/time/Month"), (.object "java/time/Month"), (.object "java/time/Month"), (.object "java/time/Month"), (.object "java/time/Month"), (.object "java/time/Month"), (.object "java/time/Month"), (.object "java/time/Month"), (.object "java/time/Month"), (.object "java/time/Month"), (.object "java/time/Month"), (.array (.object "java/time/Month")), (.array (.object "java/time/Month"))]
  resolved := Array.replicate 297 none
  statics := some 0 }

def pool10 : Array CpInfo := pool [(22, .class_ 24), (1, u "java/time/temporal/Temporal"), (2, .class_ 28), (0, u "java/lang/Object"), (0, .class_ 30), (0, u "java/time/temporal/TemporalAccessor")] 25

/-- java/time/temporal/Temporal -/
def k10 : Class := { plain "java/time/temporal/Temporal" (some 0) with
  accessFlags := 1537
  interfaces := #[7]
  cf := some (fileOf pool10 22 #[] #[] 1537 27 #[29] #[])
  fields := #[]
  methods := #[]
  instanceTypes := #[]
  staticTypes := #[]
  resolved := Array.replicate 56 none
  statics := none }

def pool11 : Array CpInfo := pool [(9, .class_ 10), (0, u "java/time/chrono/ChronoLocalDate"), (104, .class_ 117), (1, u "java/time/temporal/Temporal"), (134, .class_ 253), (0, u "java/lang/Object"), (23, .class_ 278), (0, u "java/time/temporal/TemporalAdjuster"), (0, .class_ 280), (0, u "java/lang/Comparable")] 86

/-- java/time/chrono/ChronoLocalDate -/
def k11 : Class := { plain "java/time/chrono/ChronoLocalDate" (some 0) with
  accessFlags := 1537
  interfaces := #[10, 8, 4]
  cf := some (fileOf pool11 9 #[] #[] 1537 252 #[115, 277, 279] #[])
  fields := #[]
  methods := #[]
  instanceTypes := #[]
  staticTypes := #[]
  resolved := Array.replicate 367 none
  statics := none }

def pool12 : Array CpInfo := pool [(1, .class_ 2), (0, u "java/time/LocalDate"), (18, .methodref 22 23), (0, .class_ 24), (0, .nameAndType 25 26), (0, u "java/util/Objects"), (0, u "requireNonNull"), (0, u "(Ljava/lang/Object;Ljava/lang/String;)Ljava/lang/Object;"), (12, .fieldref 40 41), (0, .class_ 42), (0, .nameAndType 43 44), (0, u "java/time/temporal/ChronoField"), (0, u "YEAR"), (0, u "Ljava/time/temporal/ChronoField;"), (0, .methodref 40 46), (0, .nameAndType 47 48), (0, u "checkValidValue"), (0, u "(J)J"), (0, .string 50), (0, u "month"), (0, .fieldref 40 52), (0, .nameAndType 53 44), (0, u "DAY_OF_MONTH"), (0, .methodref 55 56), (0, .class_ 57), (0, .nameAndType 58 59), (0, u "java/time/Month"), (0, u "getValue"), (0, u "()I"), (0, .methodref 1 61), (0, .nameAndType 62 63), (0, u "create"), (0, u "(III)Ljava/time/LocalDate;"), (6, .fieldref 71 72), (0, .class_ 73), (0, .nameAndType 74 75), (0, u "java/time/chrono/IsoChronology"), (0, u "INSTANCE"), (0, u "Ljava/time/chrono/IsoChronology;"), (0, .methodref 71 77), (0, .nameAndType 78 79), (0, u "isLeapYear"), (0, u "(J)Z"), (5, .nameAndType 86 87), (0, u "<init>"), (0, u "()V"), (20, u "of"), (12, .methodref 1 122), (0, .nameAndType 86 123), (0, u "(III)V"), (20, u "()J"), (7, .class_ 154), (1, u "java/lang/Math"), (2, .methodref 1 158), (0, .nameAndType 159 160), (0, u "ofEpochDay"), (0, u "(J)Ljava/time/LocalDate;"), (0, .fieldref 40 162), (0, .nameAndType 163 44), (0, u "EPOCH_DAY"), (0, .long 719528), (1, .long 60), (1, .long 146097), (1, .long 400), (1, .long 591), (1, .long 365), (1, .long 4), (1, .long 100), (64, .methodref 244 85), (0, .class_ 245), (0, u "java/lang/Object"), (0, .fieldref 1 247), (0, .nameAndType 248 249), (0, u "year"), (0, u "I"), (0, .fieldref 1 251), (0, .nameAndType 50 252), (0, u "S"), (0, .fieldref 1 254), (0, .nameAndType 255 252), (0, u "day"), (1, .class_ 259), (1, u "java/time/chrono/ChronoLocalDate"), (8, u "()Z"), (1, .class_ 272), (1, u "java/time/LocalDate$1"), (5, .methodref 1 279), (0, .nameAndType 280 59), (0, u "lengthOfMonth"), (16, .methodref 1 298), (0, .nameAndType 78 268), (4, u "getYear"), (28, .methodref 1 333), (0, .nameAndType 334 144), (0, u "toEpochDay"), (24, .long 12), (10, .long 3), (9, .class_ 382), (1, u "java/time/temporal/TemporalAdjuster"), (2, .methodref 1 386), (0, .nameAndType 387 160), (0, u "plusDays"), (77, .methodref 152 466), (0, .nameAndType 467 468), (0, u "addExact"), (0, u "(JJ)J"), (14, .long 28), (1, .long 59), (6, u "minusDays"), (7, .long 9223372036854775808), (35, u "getDayOfMonth"), (51, u "MAX"), (0, u "Ljava/time/LocalDate;"), (2, u "MIN"), (61, .long 99), (1, .long 399), (7, .long 367), (1, .long 362), (1, .long 2), (100, u "EPOCH"), (0, .class_ 771), (0, u "java/time/temporal/Temporal"), (0, .class_ 773), (0, u "java/io/Serializable"), (0, u "serialVersionUID"), (0, u "J"), (3, u "DAYS_PER_CYCLE"), (1, u "DAYS_0000_TO_1970"), (8, u "(ILjava/time/Month;I)Ljava/time/LocalDate;"), (33, u "getMonthValue")] 163

def k12c0 : Code := { maxStack := 3, maxLocals := 3, code := jdk_2323_method_4_code, exceptionTable := #[], attributes := #[] }
def k12m0 : Method := { name := "of", desc := "(ILjava/time/Month;I)Ljava/time/LocalDate;", sig := { parameters := [.int, (.object "java/time/Month"), .int], returnType := some (.object "java/time/LocalDate") }, accessFlags := 9, code := some k12c0 }
def k12c1 : Code := { maxStack := 8, maxLocals := 14, code := jdk_2323_method_8_code, exceptionTable := #[], attributes := #[] }
def k12m1 : Method := { name := "ofEpochDay", desc := "(J)Ljava/time/LocalDate;", sig := { parameters := [.long], returnType := some (.object "java/time/LocalDate") }, accessFlags := 9, code := some k12c1 }
def k12c2 : Code := { maxStack := 5, maxLocals := 4, code := jdk_2323_method_12_code, exceptionTable := #[], attributes := #[] }
def k12m2 : Method := { name := "create", desc := "(III)Ljava/time/LocalDate;", sig := { parameters := [.int, .int, .int], returnType := some (.object "java/time/LocalDate") }, accessFlags := 10, code := some k12c2 }
def k12c3 : Code := { maxStack := 2, maxLocals := 4, code := jdk_2323_method_14_code, exceptionTable := #[], attributes := #[] }
def k12m3 : Method := { name := "<init>", desc := "(III)V", sig := { parameters := [.int, .int, .int], returnType := none }, accessFlags := 2, code := some k12c3 }
def k12c4 : Code := { maxStack := 1, maxLocals := 1, code := jdk_2323_method_24_code, exceptionTable := #[], attributes := #[] }
def k12m4 : Method := { name := "getYear", desc := "()I", sig := { parameters := [], returnType := some .int }, accessFlags := 1, code := some k12c4 }
def k12c5 : Code := { maxStack := 1, maxLocals := 1, code := jdk_2323_method_25_code, exceptionTable := #[], attributes := #[] }
def k12m5 : Method := { name := "getMonthValue", desc := "()I", sig := { parameters := [], returnType := some .int }, accessFlags := 1, code := some k12c5 }
def k12c6 : Code := { maxStack := 1, maxLocals := 1, code := jdk_2323_method_27_code, exceptionTable := #[], attributes := #[] }
def k12m6 : Method := { name := "getDayOfMonth", desc := "()I", sig := { parameters := [], returnType := some .int }, accessFlags := 1, code := some k12c6 }
def k12c7 : Code := { maxStack := 3, maxLocals := 1, code := jdk_2323_method_30_code, exceptionTable := #[], attributes := #[] }
def k12m7 : Method := { name := "isLeapYear", desc := "()Z", sig := { parameters := [], returnType := some .boolean }, accessFlags := 1, code := some k12c7 }
def k12c8 : Code := { maxStack := 1, maxLocals := 1, code := jdk_2323_method_31_code, exceptionTable := #[], attributes := #[] }
def k12m8 : Method := { name := "lengthOfMonth", desc := "()I", sig := { parameters := [], returnType := some .int }, accessFlags := 1, code := some k12c8 }
def k12c9 : Code := { maxStack := 8, maxLocals := 7, code := jdk_2323_method_44_code, exceptionTable := #[], attributes := #[] }
def k12m9 : Method := { name := "plusDays", desc := "(J)Ljava/time/LocalDate;", sig := { parameters := [.long], returnType := some (.object "java/time/LocalDate") }, accessFlags := 1, code := some k12c9 }
def k12c10 : Code := { maxStack := 4, maxLocals := 3, code := jdk_2323_method_50_code, exceptionTable := #[], attributes := #[] }
def k12m10 : Method := { name := "minusDays", desc := "(J)Ljava/time/LocalDate;", sig := { parameters := [.long], returnType := some (.object "java/time/LocalDate") }, accessFlags := 1, code := some k12c10 }
def k12c11 : Code := { maxStack := 8, maxLocals := 7, code := jdk_2323_method_67_code, exceptionTable := #[], attributes := #[] }
def k12m11 : Method := { name := "toEpochDay", desc := "()J", sig := { parameters := [], returnType := some .long }, accessFlags := 1, code := some k12c11 }
/-- java/time/LocalDate -/
def k12 : Class := { plain "java/time/LocalDate" (some 0) with
  accessFlags := 49
  interfaces := #[10, 8, 11, 5]
  cf := some (fileOf pool12 1 #[.nestMembers #[270]] #[{ accessFlags := 9, nameIndex := 108, descriptorIndex := 790, attributes := #[] }, { accessFlags := 9, nameIndex := 159, descriptorIndex := 160, attributes := #[] }, { accessFlags := 10, nameIndex := 62, descriptorIndex := 63, attributes := #[] }, { accessFlags := 2, nameIndex := 86, descriptorIndex := 123, attributes := #[] }, { accessFlags := 1, nameIndex := 303, descriptorIndex := 59, attributes := #[] }, { accessFlags := 1, nameIndex := 824, descriptorIndex := 59, attributes := #[] }, { accessFlags := 1, nameIndex := 536, descriptorIndex := 59, attributes := #[] }, { accessFlags := 1, nameIndex := 78, descriptorIndex := 268, attributes := #[] }, { accessFlags := 1, nameIndex := 280, descriptorIndex := 59, attributes := #[] }, { accessFlags := 1, nameIndex := 387, descriptorIndex := 160, attributes := #[] }, { accessFlags := 1, nameIndex := 492, descriptorIndex := 160, attributes := #[] }, { accessFlags := 1, nameIndex := 334, descriptorIndex := 144, attributes := #[] }] 49 244 #[770, 380, 257, 772] #[{ accessFlags := 25, nameIndex := 592, descriptorIndex := 589, attributes := #[] }, { accessFlags := 25, nameIndex := 588, descriptorIndex := 589, attributes := #[] }, { accessFlags := 25, nameIndex := 769, descriptorIndex := 589, attributes := #[] }, { accessFlags := 26, nameIndex := 774, descriptorIndex := 775, attributes := #[] }, { accessFlags := 26, nameIndex := 779, descriptorIndex := 249, attributes := #[] }, { accessFlags := 24, nameIndex := 781, descriptorIndex := 775, attributes := #[] }, { accessFlags := 18, nameIndex := 248, descriptorIndex := 249, attributes := #[] }, { accessFlags := 18, nameIndex := 50, descriptorIndex := 252, attributes := #[] }, { accessFlags := 18, nameIndex := 255, descriptorIndex := 252, attributes := #[] }])
  fields := #[{ name := "MIN", type := (.object "java/time/LocalDate"), accessFlags := 25, slot := 0, constantValue := 0 }, { name := "MAX", type := (.object "java/time/LocalDate"), accessFlags := 25, slot := 1, constantValue := 0 }, { name := "EPOCH", type := (.object "java/time/LocalDate"), accessFlags := 25, slot := 2, constantValue := 0 }, { name := "serialVersionUID", type := .long, accessFlags := 26, slot := 3, constantValue := 0 }, { name := "DAYS_PER_CYCLE", type := .int, accessFlags := 26, slot := 4, constantValue := 0 }, { name := "DAYS_0000_TO_1970", type := .long, accessFlags := 24, slot := 5, constantValue := 0 }, { name := "year", type := .int, accessFlags := 18, slot := 0, constantValue := 0 }, { name := "month", type := .short, accessFlags := 18, slot := 1, constantValue := 0 }, { name := "day", type := .short, accessFlags := 18, slot := 2, constantValue := 0 }]
  methods := #[k12m0, k12m1, k12m2, k12m3, k12m4, k12m5, k12m6, k12m7, k12m8, k12m9, k12m10, k12m11]
  instanceTypes := #[.int, .short, .short]
  staticTypes := #[(.object "java/time/LocalDate"), (.object "java/time/LocalDate"), (.object "java/time/LocalDate"), .long, .int, .long]
  resolved := Array.replicate 988 none
  statics := none }

def pool13 : Array CpInfo := pool [(10, .class_ 12), (1, u "java/time/temporal/TemporalField"), (2, .class_ 16), (0, u "java/lang/Object")] 39

/-- java/time/temporal/TemporalField -/
def k13 : Class := { plain "java/time/temporal/TemporalField" (some 0) with
  accessFlags := 1537
  interfaces := #[]
  cf := some (fileOf pool13 10 #[] #[] 1537 15 #[] #[])
  fields := #[]
  methods := #[]
  instanceTypes := #[]
  staticTypes := #[]
  resolved := Array.replicate 56 none
  statics := none }

def pool14 : Array CpInfo := pool [(1, .class_ 2), (0, u "java/time/temporal/ChronoField"), (2, u "NANO_OF_SECOND"), (0, u "Ljava/time/temporal/ChronoField;"), (2, u "NANO_OF_DAY"), (2, u "MICRO_OF_SECOND"), (2, u "MICRO_OF_DAY"), (2, u "MILLI_OF_SECOND"), (2, u "MILLI_OF_DAY"), (2, u "SECOND_OF_MINUTE"), (2, u "SECOND_OF_DAY"), (2, u "MINUTE_OF_HOUR"), (2, u "MINUTE_OF_DAY"), (2, u "HOUR_OF_AMPM"), (2, u "CLOCK_HOUR_OF_AMPM"), (2, u "HOUR_OF_DAY"), (2, u "CLOCK_HOUR_OF_DAY"), (2, u "AMPM_OF_DAY"), (2, u "DAY_OF_WEEK"), (2, u "ALIGNED_DAY_OF_WEEK_IN_MONTH"), (2, u "ALIGNED_DAY_OF_WEEK_IN_YEAR"), (2, u "DAY_OF_MONTH"), (2, u "DAY_OF_YEAR"), (2, u "EPOCH_DAY"), (2, u "ALIGNED_WEEK_OF_MONTH"), (2, u "ALIGNED_WEEK_OF_YEAR"), (2, u "MONTH_OF_YEAR"), (2, u "PROLEPTIC_MONTH"), (2, u "YEAR_OF_ERA"), (2, u "YEAR"), (2, u "ERA"), (2, u "INSTANT_SECONDS"), (2, u "OFFSET_SECONDS"), (2, u "$VALUES"), (0, u "[Ljava/time/temporal/ChronoField;"), (6, .class_ 106), (1, u "java/lang/Enum"), (8, u "name"), (0, u "Ljava/lang/String;"), (2, u "baseUnit"), (0, u "Ljava/time/temporal/TemporalUnit;"), (2, u "rangeUnit"), (0, .fieldref 1 125), (0, .nameAndType 126 127), (0, u "range"), (0, u "Ljava/time/temporal/ValueRange;"), (2, u "displayNameKey"), (59, .methodref 1 191), (0, .nameAndType 126 192), (0, u "()Ljava/time/temporal/ValueRange;"), (0, .methodref 194 195), (0, .class_ 196), (0, .nameAndType 197 198), (0, u "java/time/temporal/ValueRange"), (0, u "checkValidValue"), (0, u "(JLjava/time/temporal/TemporalField;)J"), (256, .class_ 456), (0, u "java/time/temporal/TemporalField"), (27, u "(J)J")] 22

def k14c0 : Code := { maxStack := 1, maxLocals := 1, code := jdk_2395_method_8_code, exceptionTable := #[], attributes := #[] }
def k14m0 : Method := { name := "range", desc := "()Ljava/time/temporal/ValueRange;", sig := { parameters := [], returnType := some (.object "java/time/temporal/ValueRange") }, accessFlags := 1, code := some k14c0 }
def k14c1 : Code := { maxStack := 4, maxLocals := 3, code := jdk_2395_method_11_code, exceptionTable := #[], attributes := #[] }
def k14m1 : Method := { name := "checkValidValue", desc := "(J)J", sig := { parameters := [.long], returnType := some .long }, accessFlags := 1, code := some k14c1 }
/-- java/time/temporal/ChronoField -/
def k14 : Class := { plain "java/time/temporal/ChronoField" (some 6) with
  accessFlags := 16433
  interfaces := #[13]
  cf := some (fileOf pool14 1 #[] #[{ accessFlags := 1, nameIndex := 126, descriptorIndex := 192, attributes := #[] }, { accessFlags := 1, nameIndex := 197, descriptorIndex := 484, attributes := #[] }] 16433 104 #[455] #[{ accessFlags := 16409, nameIndex := 5, descriptorIndex := 6, attributes := #[] }, { accessFlags := 16409, nameIndex := 9, descriptorIndex := 6, attributes := #[] }, { accessFlags := 16409, nameIndex := 12, descriptorIndex := 6, attributes := #[] }, { accessFlags := 16409, nameIndex := 15, descriptorIndex := 6, attributes := #[] }, { accessFlags := 16409, nameIndex := 18, descriptorIndex := 6, attributes := #[] }, { accessFlags := 16409, nameIndex := 21, descriptorIndex := 6, attributes := #[] }, { accessFlags := 16409, nameIndex := 24, descriptorIndex := 6, attributes := #[] }, { accessFlags := 16409, nameIndex := 27, descriptorIndex := 6, attributes := #[] }, { accessFlags := 16409, nameIndex := 30, descriptorIndex := 6, attributes := #[] }, { accessFlags := 16409, nameIndex := 33, descriptorIndex := 6, attributes := #[] }, { accessFlags := 16409, nameIndex := 36, descriptorIndex := 6, attributes := #[] }, { accessFlags := 16409, nameIndex := 39, descriptorIndex := 6, attributes := #[] }, { accessFlags := 16409, nameIndex := 42, descriptorIndex := 6, attributes := #[] }, { accessFlags := 16409, nameIndex := 45, descriptorIndex := 6, attributes := #[] }, { accessFlags := 16409, nameIndex := 48, descriptorIndex := 6, attributes := #[] }, { accessFlags := 16409, nameIndex := 51, descriptorIndex := 6, attributes := #[] }, { accessFlags := 16409, nameIndex := 54, descriptorIndex := 6, attributes := #[] }, { accessFlags := 16409, nameIndex := 57, descriptorIndex := 6, attributes := #[] }, { accessFlags := 16409, nameIndex := 60, descriptorIndex := 6, attributes := #[] }, { accessFlags := 16409, nameIndex := 63, descriptorIndex := 6, attributes := #[] }, { accessFlags := 16409, nameIndex := 66, descriptorIndex := 6, attributes := #[] }, { accessFlags := 16409, nameIndex := 69, descriptorIndex := 6, attributes := #[] }, { accessFlags := 16409, nameIndex := 72, descriptorIndex := 6, attributes := #[] }, { accessFlags := 16409, nameIndex := 75, descriptorIndex := 6, attributes := #[] }, { accessFlags := 16409, nameIndex := 78, descriptorIndex := 6, attributes := #[] }, { accessFlags := 16409, nameIndex := 81, descriptorIndex := 6, attributes := #[] }, { accessFlags := 16409, nameIndex := 84, descriptorIndex := 6, attributes := #[] }, { accessFlags := 16409, nameIndex := 87, descriptorIndex := 6, attributes := #[] }, { accessFlags := 16409, nameIndex := 90, descriptorIndex := 6, attributes := #[] }, { accessFlags := 16409, nameIndex := 93, descriptorIndex := 6, attributes := #[] }, { accessFlags := 18, nameIndex := 115, descriptorIndex := 116, attributes := #[] }, { accessFlags := 18, nameIndex := 119, descriptorIndex := 120, attributes := #[] }, { accessFlags := 18, nameIndex := 123, descriptorIndex := 120, attributes := #[] }, { accessFlags := 18, nameIndex := 126, descriptorIndex := 127, attributes := #[] }, { accessFlags := 18, nameIndex := 130, descriptorIndex := 116, attributes := #[] }, { accessFlags := 4122, nameIndex := 96, descriptorIndex := 97, attributes := #[] }])
  fields := #[{ name := "NANO_OF_SECOND", type := (.object "java/time/temporal/ChronoField"), accessFlags := 16409, slot := 0, constantValue := 0 }, { name := "NANO_OF_DAY", type := (.object "java/time/temporal/ChronoField"), accessFlags := 16409, slot := 1, constantValue := 0 }, { name := "MICRO_OF_SECOND", type := (.object "java/time/temporal/ChronoField"), accessFlags := 16409, slot := 2, constantValue := 0 }, { name := "MICRO_OF_DAY", type := (.object "java/time/temporal/ChronoField"), accessFlags := 16409, slot := 3, constantValue := 0 }, { name := "MILLI_OF_SECOND", type := (.object "java/time/temporal/ChronoField"), accessFlags := 16409, slot := 4, constantValue := 0 }, { name := "MILLI_OF_DAY", type := (.object "java/time/temporal/ChronoField"), accessFlags := 16409, slot := 5, constantValue := 0 }, { name := "SECOND_OF_MINUTE", type := (.object "java/time/temporal/ChronoField"), accessFlags := 16409, slot := 6, constantValue := 0 }, { name := "SECOND_OF_DAY", type := (.object "java/time/temporal/ChronoField"), accessFlags := 16409, slot := 7, constantValue := 0 }, { name := "MINUTE_OF_HOUR", type := (.object "java/time/temporal/ChronoField"), accessFlags := 16409, slot := 8, constantValue := 0 }, { name := "MINUTE_OF_DAY", type := (.object "java/time/temporal/ChronoField"), accessFlags := 16409, slot := 9, constantValue := 0 }, { name := "HOUR_OF_AMPM", type := (.object "java/time/temporal/ChronoField"), accessFlags := 16409, slot := 10, constantValue := 0 }, { name := "CLOCK_HOUR_OF_AMPM", type := (.object "java/time/temporal/ChronoField"), accessFlags := 16409, slot := 11, constantValue := 0 }, { name := "HOUR_OF_DAY", type := (.object "java/time/temporal/ChronoField"), accessFlags := 16409, slot := 12, constantValue := 0 }, { name := "CLOCK_HOUR_OF_DAY", type := (.object "java/time/temporal/ChronoField"), accessFlags := 16409, slot := 13, constantValue := 0 }, { name := "AMPM_OF_DAY", type := (.object "java/time/temporal/ChronoField"), accessFlags := 16409, slot := 14, constantValue := 0 }, { name := "DAY_OF_WEEK", type := (.object "java/time/temporal/ChronoField"), accessFlags := 16409, slot := 15, constantValue := 0 }, { name := "ALIGNED_DAY_OF_WEEK_IN_MONTH", type := (.object "java/time/temporal/ChronoField"), accessFlags := 16409, slot := 16, constantValue := 0 }, { name := "ALIGNED_DAY_OF_WEEK_IN_YEAR", type := (.object "java/time/temporal/ChronoField"), accessFlags := 16409, slot := 17, constantValue := 0 }, { name := "DAY_OF_MONTH", type := (.object "java/time/temporal/ChronoField"), accessFlags := 16409, slot := 18, constantValue := 0 }, { name := "DAY_OF_YEAR", type := (.object "java/time/temporal/ChronoField"), accessFlags := 16409, slot := 19, constantValue := 0 }, { name := "EPOCH_DAY", type := (.object "java/time/temporal/ChronoField"), accessFlags := 16409, slot := 20, constantValue := 0 }, { name := "ALIGNED_WEEK_OF_MONTH", type := (.object "java/time/temporal/ChronoField"), accessFlags := 16409, slot := 21, constantValue := 0 }, { name := "ALIGNED_WEEK_OF_YEAR", type := (.object "java/time/temporal/ChronoField"), accessFlags := 16409, slot := 22, constantValue := 0 }, { name := "MONTH_OF_YEAR", type := (.object "java/time/temporal/ChronoField"), accessFlags := 16409, slot := 23, constantValue := 0 }, { name := "PROLEPTIC_MONTH", type := (.object "java/time/temporal/ChronoField"), accessFlags := 16409, slot := 24, constantValue := 0 }, { name := "YEAR_OF_ERA", type := (.object "java/time/temporal/ChronoField"), accessFlags := 16409, slot := 25, constantValue := 0 }, { name := "YEAR", type := (.object "java/time/temporal/ChronoField"), accessFlags := 16409, slot := 26, constantValue := 0 }, { name := "ERA", type := (.object "java/time/temporal/ChronoField"), accessFlags := 16409, slot := 27, constantValue := 0 }, { name := "INSTANT_SECONDS", type := (.object "java/time/temporal/ChronoField"), accessFlags := 16409, slot := 28, constantValue := 0 }, { name := "OFFSET_SECONDS", type := (.object "java/time/temporal/ChronoField"), accessFlags := 16409, slot := 29, constantValue := 0 }, { name := "name", type := (.object "java/lang/String"), accessFlags := 18, slot := 3, constantValue := 0 }, { name := "baseUnit", type := (.object "java/time/temporal/TemporalUnit"), accessFlags := 18, slot := 4, constantValue := 0 }, { name := "rangeUnit", type := (.object "java/time/temporal/TemporalUnit"), accessFlags := 18, slot := 5, constantValue := 0 }, { name := "range", type := (.object "java/time/temporal/ValueRange"), accessFlags := 18, slot := 6, constantValue := 0 }, { name := "displayNameKey", type := (.object "java/lang/String"), accessFlags := 18, slot := 7, constantValue := 0 }, { name := "$VALUES", type := (.array (.object "java/time/temporal/ChronoField")), accessFlags := 4122, slot := 30, constantValue := 0 }]
  methods := #[k14m0, k14m1]
  instanceTypes := #[(.object "java/lang/String"), .int, .int, (.object "java/lang/String"), (.object "java/time/temporal/TemporalUnit"), (.object "java/time/temporal/TemporalUnit"), (.object "java/time/temporal/ValueRange"), (.object "java/lang/String")]
  staticTypes := #[(.object "java/time/temporal/ChronoField"), (.object "java/time/temporal/ChronoField"), (.object "java/time/temporal/ChronoField"), (.object "java/time/temporal/ChronoField"), (.object "java/time/temporal/ChronoField"), (.object "java/time/temporal/ChronoField"), (.object "java/time/temporal/ChronoField"), (.object "java/time/temporal/ChronoField"), (.object "java/time/temporal/ChronoField"), (.object "java/time/temporal/ChronoField"), (.object "java/time/temporal/ChronoField"), (.object "java/time/temporal/ChronoField"), (.object "java/time/temporal/ChronoField"), (.object "java/time/temporal/ChronoField"), (.object "java/time/temporal/ChronoField"), (.object "java/time/temporal/ChronoField"), (.object "java/time/temporal/ChronoField"), (.object "java/time/temporal/ChronoField"), (.object "java/time/temporal/ChronoField"), (.object "java/time/temporal/ChronoField"), (.object "java/time/temporal/ChronoField"), (.object "java/time/temporal/ChronoField"), (.object "java/time/temporal/ChronoField"), (.object "java/time/temporal/ChronoField"), (.object "java/time/temporal/ChronoField"), (.object "java/time/temporal/ChronoField"), (.object "java/time/temporal/ChronoField"), (.object "java/time/temporal/ChronoField"), (.object "java/time/temporal/ChronoField"), (.object "java/time/temporal/ChronoField"), (.array (.object "java/time/temporal/ChronoField"))]
  resolved := Array.replicate 507 none
  statics := some 1 }

def pool15 : Array CpInfo := pool [(9, .class_ 10), (0, u "java/time/temporal/ValueRange"), (18, .class_ 31), (1, u "java/lang/Object"), (1, .fieldref 9 34), (0, .nameAndType 35 36), (0, u "minSmallest"), (0, u "J"), (2, u "minLargest"), (2, u "maxSmallest"), (0, .fieldref 9 44), (0, .nameAndType 45 36), (0, u "maxLargest"), (0, .methodref 9 47), (0, .nameAndType 48 49), (0, u "getMinimum"), (0, u "()J"), (4, .methodref 9 55), (0, .nameAndType 56 49), (0, u "getMaximum"), (6, .methodref 9 64), (0, .nameAndType 65 66), (0, u "isValidValue"), (0, u "(J)Z"), (54, .class_ 122), (0, u "java/io/Serializable"), (0, u "serialVersionUID"), (17, u "checkValidValue"), (0, u "(JLjava/time/temporal/TemporalField;)J")] 24

def k15c0 : Code := { maxStack := 2, maxLocals := 1, code := jdk_2423_method_6_code, exceptionTable := #[], attributes := #[] }
def k15m0 : Method := { name := "getMinimum", desc := "()J", sig := { parameters := [], returnType := some .long }, accessFlags := 1, code := some k15c0 }
def k15c1 : Code := { maxStack := 2, maxLocals := 1, code := jdk_2423_method_9_code, exceptionTable := #[], attributes := #[] }
def k15m1 : Method := { name := "getMaximum", desc := "()J", sig := { parameters := [], returnType := some .long }, accessFlags := 1, code := some k15c1 }
def k15c2 : Code := { maxStack := 4, maxLocals := 3, code := jdk_2423_method_11_code, exceptionTable := #[], attributes := #[] }
def k15m2 : Method := { name := "isValidValue", desc := "(J)Z", sig := { parameters := [.long], returnType := some .boolean }, accessFlags := 1, code := some k15c2 }
def k15c3 : Code := { maxStack := 6, maxLocals := 4, code := jdk_2423_method_13_code, exceptionTable := #[], attributes := #[] }
def k15m3 : Method := { name := "checkValidValue", desc := "(JLjava/time/temporal/TemporalField;)J", sig := { parameters := [.long, (.object "java/time/temporal/TemporalField")], returnType := some .long }, accessFlags := 1, code := some k15c3 }
/-- java/time/temporal/ValueRange -/
def k15 : Class := { plain "java/time/temporal/ValueRange" (some 0) with
  accessFlags := 49
  interfaces := #[5]
  cf := some (fileOf pool15 9 #[] #[{ accessFlags := 1, nameIndex := 48, descriptorIndex := 49, attributes := #[] }, { accessFlags := 1, nameIndex := 56, descriptorIndex := 49, attributes := #[] }, { accessFlags := 1, nameIndex := 65, descriptorIndex := 66, attributes := #[] }, { accessFlags := 1, nameIndex := 141, descriptorIndex := 142, attributes := #[] }] 49 29 #[121] #[{ accessFlags := 26, nameIndex := 123, descriptorIndex := 36, attributes := #[] }, { accessFlags := 18, nameIndex := 35, descriptorIndex := 36, attributes := #[] }, { accessFlags := 18, nameIndex := 39, descriptorIndex := 36, attributes := #[] }, { accessFlags := 18, nameIndex := 42, descriptorIndex := 36, attributes := #[] }, { accessFlags := 18, nameIndex := 45, descriptorIndex := 36, attributes := #[] }])
  fields := #[{ name := "serialVersionUID", type := .long, accessFlags := 26, slot := 0, constantValue := 0 }, { name := "minSmallest", type := .long, accessFlags := 18, slot := 0, constantValue := 0 }, { name := "minLargest", type := .long, accessFlags := 18, slot := 1, constantValue := 0 }, { name := "maxSmallest", type := .long, accessFlags := 18, slot := 2, constantValue := 0 }, { name := "maxLargest", type := .long, accessFlags := 18, slot := 3, constantValue := 0 }]
  methods := #[k15m0, k15m1, k15m2, k15m3]
  instanceTypes := #[.long, .long, .long, .long]
  staticTypes := #[.long]
  resolved := Array.replicate 167 none
  statics := none }

def pool16 : Array CpInfo := pool [(2, .class_ 4), (1, u "java/lang/CharSequence"), (42, .class_ 48), (0, u "java/lang/CharSequence$1CodePointIterator"), (10, .class_ 60), (0, u "java/lang/CharSequence$1CharIterator"), (5, .class_ 67), (0, u "java/lang/Object")] 63

/-- java/lang/CharSequence -/
def k16 : Class := { plain "java/lang/CharSequence" (some 0) with
  accessFlags := 1537
  interfaces := #[]
  cf := some (fileOf pool16 2 #[.nestMembers #[47, 59]] #[] 1537 66 #[] #[])
  fields := #[]
  methods := #[]
  instanceTypes := #[]
  staticTypes := #[]
  resolved := Array.replicate 131 none
  statics := none }

def pool17 : Array CpInfo := pool [(1, .class_ 2), (0, u "java/lang/constant/ConstantDesc"), (0, .class_ 4), (0, u "java/lang/Object")] 32

/-- java/lang/constant/ConstantDesc -/
def k17 : Class := { plain "java/lang/constant/ConstantDesc" (some 0) with
  accessFlags := 1537
  interfaces := #[]
  cf := some (fileOf pool17 1 #[] #[] 1537 3 #[] #[])
  fields := #[]
  methods := #[]
  instanceTypes := #[]
  staticTypes := #[]
  resolved := Array.replicate 37 none
  statics := none }

def pool18 : Array CpInfo := pool [(2, .class_ 4), (1, u "java/lang/Object"), (0, u "<init>"), (0, u "()V"), (3, .class_ 12), (1, u "java/lang/String"), (0, u "value"), (0, u "[B"), (2, u "coder"), (0, u "B"), (2, u "hash"), (0, u "I"), (2, u "hashIsZero"), (0, u "Z"), (13, u "COMPACT_STRINGS"), (534, .class_ 576), (0, u "java/lang/CharSequence"), (22, u "CASE_INSENSITIVE_ORDER"), (0, u "Ljava/util/Comparator;"), (500, u "serialPersistentFields"), (0, u "[Ljava/io/ObjectStreamField;"), (0, .class_ 1104), (0, u "java/lang/String$CaseInsensitiveComparator"), (1, .class_ 1107), (0, u "java/io/Serializable"), (0, .class_ 1109), (0, u "java/lang/Comparable"), (0, .class_ 1111), (0, u "java/lang/constant/Constable"), (0, .class_ 1113), (0, u "java/lang/constant/ConstantDesc"), (2, u "serialVersionUID"), (0, u "J"), (3, u "REPL"), (0, u "C"), (2, u "LATIN1"), (1, u "UTF16")] 323

def k18m0 : Method := { name := "<init>", desc := "()V", sig := { parameters := [], returnType := none }, accessFlags := 1, code := none }
/-- java/lang/String -/
def k18 : Class := { plain "java/lang/String" (some 0) with
  accessFlags := 49
  interfaces := #[5, 4, 16, 3, 17]
  cf := some (fileOf pool18 10 #[.nestMembers #[1103]] #[{ accessFlags := 1, nameIndex := 5, descriptorIndex := 6, attributes := #[] }] 49 2 #[1106, 1108, 575, 1110, 1112] #[{ accessFlags := 18, nameIndex := 13, descriptorIndex := 14, attributes := #[] }, { accessFlags := 18, nameIndex := 17, descriptorIndex := 18, attributes := #[] }, { accessFlags := 2, nameIndex := 21, descriptorIndex := 22, attributes := #[] }, { accessFlags := 2, nameIndex := 25, descriptorIndex := 26, attributes := #[] }, { accessFlags := 26, nameIndex := 1116, descriptorIndex := 1117, attributes := #[] }, { accessFlags := 24, nameIndex := 40, descriptorIndex := 26, attributes := #[] }, { accessFlags := 26, nameIndex := 1101, descriptorIndex := 1102, attributes := #[] }, { accessFlags := 26, nameIndex := 1121, descriptorIndex := 1122, attributes := #[] }, { accessFlags := 25, nameIndex := 599, descriptorIndex := 600, attributes := #[] }, { accessFlags := 24, nameIndex := 1125, descriptorIndex := 18, attributes := #[] }, { accessFlags := 24, nameIndex := 1127, descriptorIndex := 18, attributes := #[] }])
  fields := #[{ name := "value", type := (.array .byte), accessFlags := 18, slot := 0, constantValue := 0 }, { name := "coder", type := .byte, accessFlags := 18, slot := 1, constantValue := 0 }, { name := "hash", type := .int, accessFlags := 2, slot := 2, constantValue := 0 }, { name := "hashIsZero", type := .boolean, accessFlags := 2, slot := 3, constantValue := 0 }, { name := "serialVersionUID", type := .long, accessFlags := 26, slot := 0, constantValue := 0 }, { name := "COMPACT_STRINGS", type := .boolean, accessFlags := 24, slot := 1, constantValue := 0 }, { name := "serialPersistentFields", type := (.array (.object "java/io/ObjectStreamField")), accessFlags := 26, slot := 2, constantValue := 0 }, { name := "REPL", type := .char, accessFlags := 26, slot := 3, constantValue := 0 }, { name := "CASE_INSENSITIVE_ORDER", type := (.object "java/util/Comparator"), accessFlags := 25, slot := 4, constantValue := 0 }, { name := "LATIN1", type := .byte, accessFlags := 24, slot := 5, constantValue := 0 }, { name := "UTF16", type := .byte, accessFlags := 24, slot := 6, constantValue := 0 }]
  methods := #[k18m0]
  instanceTypes := #[(.array .byte), .byte, .int, .boolean]
  staticTypes := #[.long, .boolean, (.array (.object "java/io/ObjectStreamField")), .char, (.object "java/util/Comparator"), .byte, .byte]
  resolved := Array.replicate 1451 none
  statics := none }

def pool19 : Array CpInfo := pool [(2, .class_ 4), (1, u "java/lang/Object"), (0, u "<init>"), (0, u "()V"), (35, .class_ 44), (1, u "java/util/Objects"), (0, u "requireNonNull"), (48, u "(Ljava/lang/Object;Ljava/lang/String;)Ljava/lang/Object;")] 89

def k19m0 : Method := { name := "<init>", desc := "()V", sig := { parameters := [], returnType := none }, accessFlags := 2, code := none }
def k19c1 : Code := { maxStack := 3, maxLocals := 2, code := jdk_31_method_11_code, exceptionTable := #[], attributes := #[] }
def k19m1 : Method := { name := "requireNonNull", desc := "(Ljava/lang/Object;Ljava/lang/String;)Ljava/lang/Object;", sig := { parameters := [(.object "java/lang/Object"), (.object "java/lang/String")], returnType := some (.object "java/lang/Object") }, accessFlags := 9, code := some k19c1 }
/-- java/util/Objects -/
def k19 : Class := { plain "java/util/Objects" (some 0) with
  accessFlags := 49
  interfaces := #[]
  cf := some (fileOf pool19 42 #[] #[{ accessFlags := 2, nameIndex := 5, descriptorIndex := 6, attributes := #[] }, { accessFlags := 9, nameIndex := 45, descriptorIndex := 94, attributes := #[] }] 49 2 #[] #[])
  fields := #[]
  methods := #[k19m0, k19m1]
  instanceTypes := #[]
  staticTypes := #[]
  resolved := Array.replicate 184 none
  statics := none }

def pool20 : Array CpInfo := pool [(21, .class_ 22), (0, u "java/time/chrono/Chronology"), (138, .class_ 162), (0, u "java/time/chrono/Chronology$1"), (74, .class_ 238), (0, u "java/lang/Object"), (0, .class_ 240), (0, u "java/lang/Comparable")] 86

/-- java/time/chrono/Chronology -/
def k20 : Class := { plain "java/time/chrono/Chronology" (some 0) with
  accessFlags := 1537
  interfaces := #[4]
  cf := some (fileOf pool20 21 #[.nestMembers #[161]] #[] 1537 237 #[239] #[])
  fields := #[]
  methods := #[]
  instanceTypes := #[]
  staticTypes := #[]
  resolved := Array.replicate 327 none
  statics := none }

def pool21 : Array CpInfo := pool [(2, .class_ 4), (1, u "java/time/chrono/Chronology"), (3, .class_ 10), (1, u "java/time/chrono/AbstractChronology"), (4, u "CHRONOS_BY_ID"), (0, u "Ljava/util/concurrent/ConcurrentHashMap;"), (11, u "CHRONOS_BY_TYPE"), (69, u "<init>"), (0, u "()V"), (71, .class_ 172), (0, u "java/lang/Object")] 383

def k21m0 : Method := { name := "<init>", desc := "()V", sig := { parameters := [], returnType := none }, accessFlags := 4, code := none }
/-- java/time/chrono/AbstractChronology -/
def k21 : Class := { plain "java/time/chrono/AbstractChronology" (some 0) with
  accessFlags := 1057
  interfaces := #[20]
  cf := some (fileOf pool21 8 #[] #[{ accessFlags := 4, nameIndex := 98, descriptorIndex := 99, attributes := #[] }] 1057 171 #[2] #[{ accessFlags := 26, nameIndex := 15, descriptorIndex := 16, attributes := #[] }, { accessFlags := 26, nameIndex := 28, descriptorIndex := 16, attributes := #[] }])
  fields := #[{ name := "CHRONOS_BY_ID", type := (.object "java/util/concurrent/ConcurrentHashMap"), accessFlags := 26, slot := 0, constantValue := 0 }, { name := "CHRONOS_BY_TYPE", type := (.object "java/util/concurrent/ConcurrentHashMap"), accessFlags := 26, slot := 1, constantValue := 0 }]
  methods := #[k21m0]
  instanceTypes := #[]
  staticTypes := #[(.object "java/util/concurrent/ConcurrentHashMap"), (.object "java/util/concurrent/ConcurrentHashMap")]
  resolved := Array.replicate 556 none
  statics := none }

def pool22 : Array CpInfo := pool [(2, .class_ 4), (1, u "java/time/chrono/AbstractChronology"), (0, u "<init>"), (0, u "()V"), (5, .class_ 14), (1, u "java/time/chrono/IsoChronology"), (102, .long 3), (5, .long 100), (3, .long 400), (3, u "INSTANCE"), (0, u "Ljava/time/chrono/IsoChronology;"), (2, u "isLeapYear"), (0, u "(J)Z"), (228, .class_ 366), (0, u "java/io/Serializable"), (0, u "serialVersionUID"), (0, u "J"), (3, u "DAYS_0000_TO_1970")] 81

def k22m0 : Method := { name := "<init>", desc := "()V", sig := { parameters := [], returnType := none }, accessFlags := 2, code := none }
def k22c1 : Code := { maxStack := 4, maxLocals := 3, code := jdk_2369_method_18_code, exceptionTable := #[], attributes := #[] }
def k22m1 : Method := { name := "isLeapYear", desc := "(J)Z", sig := { parameters := [.long], returnType := some .boolean }, accessFlags := 1, code := some k22c1 }
/-- java/time/chrono/IsoChronology -/
def k22 : Class := { plain "java/time/chrono/IsoChronology" (some 21) with
  accessFlags := 49
  interfaces := #[5]
  cf := some (fileOf pool22 12 #[] #[{ accessFlags := 2, nameIndex := 5, descriptorIndex := 6, attributes := #[] }, { accessFlags := 1, nameIndex := 135, descriptorIndex := 136, attributes := #[] }] 49 2 #[365] #[{ accessFlags := 25, nameIndex := 131, descriptorIndex := 132, attributes := #[] }, { accessFlags := 26, nameIndex := 367, descriptorIndex := 368, attributes := #[] }, { accessFlags := 26, nameIndex := 372, descriptorIndex := 368, attributes := #[] }])
  fields := #[{ name := "INSTANCE", type := (.object "java/time/chrono/IsoChronology"), accessFlags := 25, slot := 0, constantValue := 0 }, { name := "serialVersionUID", type := .long, accessFlags := 26, slot := 1, constantValue := 0 }, { name := "DAYS_0000_TO_1970", type := .long, accessFlags := 26, slot := 2, constantValue := 0 }]
  methods := #[k22m0, k22m1]
  instanceTypes := #[]
  staticTypes := #[(.object "java/time/chrono/IsoChronology"), .long, .long]
  resolved := Array.replicate 454 none
  statics := some 2 }

def pool23 : Array CpInfo := pool [(1, .class_ 2), (0, u "java/lang/Math"), (1, .class_ 6), (1, u "java/lang/Object"), (0, u "<init>"), (0, u "()V"), (89, .class_ 100), (1, u "java/lang/Math$RandomNumberGeneratorHolder"), (20, u "(JJ)J"), (50, u "negativeZeroFloatBits"), (0, u "J"), (2, u "negativeZeroDoubleBits"), (68, u "$assertionsDisabled"), (0, u "Z"), (91, u "twoToTheDoubleScaleDown"), (0, u "D"), (4, u "twoToTheDoubleScaleUp"), (9, u "E"), (3, u "PI"), (2, u "TAU"), (2, u "DEGREES_TO_RADIANS"), (0, u "RADIANS_TO_DEGREES"), (27, u "addExact")] 66

def k23m0 : Method := { name := "<init>", desc := "()V", sig := { parameters := [], returnType := none }, accessFlags := 2, code := none }
def k23c1 : Code := { maxStack := 6, maxLocals := 6, code := jdk_29_method_25_code, exceptionTable := #[], attributes := #[] }
def k23m1 : Method := { name := "addExact", desc := "(JJ)J", sig := { parameters := [.long, .long], returnType := some .long }, accessFlags := 9, code := some k23c1 }
/-- java/lang/Math -/
def k23 : Class := { plain "java/lang/Math" (some 0) with
  accessFlags := 49
  interfaces := #[]
  cf := some (fileOf pool23 1 #[.nestMembers #[98]] #[{ accessFlags := 2, nameIndex := 7, descriptorIndex := 8, attributes := #[] }, { accessFlags := 9, nameIndex := 393, descriptorIndex := 121, attributes := #[] }] 49 4 #[] #[{ accessFlags := 25, nameIndex := 354, descriptorIndex := 339, attributes := #[] }, { accessFlags := 25, nameIndex := 358, descriptorIndex := 339, attributes := #[] }, { accessFlags := 25, nameIndex := 361, descriptorIndex := 339, attributes := #[] }, { accessFlags := 26, nameIndex := 364, descriptorIndex := 339, attributes := #[] }, { accessFlags := 26, nameIndex := 365, descriptorIndex := 339, attributes := #[] }, { accessFlags := 26, nameIndex := 172, descriptorIndex := 173, attributes := #[] }, { accessFlags := 26, nameIndex := 176, descriptorIndex := 173, attributes := #[] }, { accessFlags := 8, nameIndex := 344, descriptorIndex := 339, attributes := #[] }, { accessFlags := 8, nameIndex := 338, descriptorIndex := 339, attributes := #[] }, { accessFlags := 4120, nameIndex := 245, descriptorIndex := 246, attributes := #[] }])
  fields := #[{ name := "E", type := .double, accessFlags := 25, slot := 0, constantValue := 0 }, { name := "PI", type := .double, accessFlags := 25, slot := 1, constantValue := 0 }, { name := "TAU", type := .double, accessFlags := 25, slot := 2, constantValue := 0 }, { name := "DEGREES_TO_RADIANS", type := .double, accessFlags := 26, slot := 3, constantValue := 0 }, { name := "RADIANS_TO_DEGREES", type := .double, accessFlags := 26, slot := 4, constantValue := 0 }, { name := "negativeZeroFloatBits", type := .long, accessFlags := 26, slot := 5, constantValue := 0 }, { name := "negativeZeroDoubleBits", type := .long, accessFlags := 26, slot := 6, constantValue := 0 }, { name := "twoToTheDoubleScaleUp", type := .double, accessFlags := 8, slot := 7, constantValue := 0 }, { name := "twoToTheDoubleScaleDown", type := .double, accessFlags := 8, slot := 8, constantValue := 0 }, { name := "$assertionsDisabled", type := .boolean, accessFlags := 4120, slot := 9, constantValue := 0 }]
  methods := #[k23m0, k23m1]
  instanceTypes := #[]
  staticTypes := #[.double, .double, .double, .double, .double, .long, .long, .double, .double, .boolean]
  resolved := Array.replicate 460 none
  statics := none }

def pool24 : Array CpInfo := pool [(4, .class_ 6), (1, u "java/time/temporal/TemporalUnit"), (23, .class_ 31), (0, u "java/lang/Object")] 27

/-- java/time/temporal/TemporalUnit -/
def k24 : Class := { plain "java/time/temporal/TemporalUnit" (some 0) with
  accessFlags := 1537
  interfaces := #[]
  cf := some (fileOf pool24 4 #[] #[] 1537 30 #[] #[])
  fields := #[]
  methods := #[]
  instanceTypes := #[]
  staticTypes := #[]
  resolved := Array.replicate 59 none
  statics := none }

def pool25 : Array CpInfo := pool [(1, .class_ 2), (0, u "java/time/temporal/ChronoUnit"), (2, u "NANOS"), (0, u "Ljava/time/temporal/ChronoUnit;"), (2, u "MICROS"), (2, u "MILLIS"), (2, u "SECONDS"), (2, u "MINUTES"), (2, u "HOURS"), (2, u "HALF_DAYS"), (2, u "DAYS"), (2, u "WEEKS"), (2, u "MONTHS"), (2, u "YEARS"), (2, u "DECADES"), (2, u "CENTURIES"), (2, u "MILLENNIA"), (2, u "ERAS"), (2, u "FOREVER"), (2, u "$VALUES"), (0, u "[Ljava/time/temporal/ChronoUnit;"), (6, .class_ 64), (1, u "java/lang/Enum"), (8, u "name"), (0, u "Ljava/lang/String;"), (2, u "duration"), (0, u "Ljava/time/Duration;"), (117, .class_ 197), (0, u "java/time/temporal/TemporalUnit")] 39

/-- java/time/temporal/ChronoUnit -/
def k25 : Class := { plain "java/time/temporal/ChronoUnit" (some 6) with
  accessFlags := 16433
  interfaces := #[24]
  cf := some (fileOf pool25 1 #[] #[] 16433 62 #[196] #[{ accessFlags := 16409, nameIndex := 5, descriptorIndex := 6, attributes := #[] }, { accessFlags := 16409, nameIndex := 9, descriptorIndex := 6, attributes := #[] }, { accessFlags := 16409, nameIndex := 12, descriptorIndex := 6, attributes := #[] }, { accessFlags := 16409, nameIndex := 15, descriptorIndex := 6, attributes := #[] }, { accessFlags := 16409, nameIndex := 18, descriptorIndex := 6, attributes := #[] }, { accessFlags := 16409, nameIndex := 21, descriptorIndex := 6, attributes := #[] }, { accessFlags := 16409, nameIndex := 24, descriptorIndex := 6, attributes := #[] }, { accessFlags := 16409, nameIndex := 27, descriptorIndex := 6, attributes := #[] }, { accessFlags := 16409, nameIndex := 30, descriptorIndex := 6, attributes := #[] }, { accessFlags := 16409, nameIndex := 33, descriptorIndex := 6, attributes := #[] }, { accessFlags := 16409, nameIndex := 36, descriptorIndex := 6, attributes := #[] }, { accessFlags := 16409, nameIndex := 39, descriptorIndex := 6, attributes := #[] }, { accessFlags := 16409, nameIndex := 42, descriptorIndex := 6, attributes := #[] }, { accessFlags := 16409, nameIndex := 45, descriptorIndex := 6, attributes := #[] }, { accessFlags := 16409, nameIndex := 48, descriptorIndex := 6, attributes := #[] }, { accessFlags := 16409, nameIndex := 51, descriptorIndex := 6, attributes := #[] }, { accessFlags := 18, nameIndex := 73, descriptorIndex := 74, attributes := #[] }, { accessFlags := 18, nameIndex := 77, descriptorIndex := 78, attributes := #[] }, { accessFlags := 4122, nameIndex := 54, descriptorIndex := 55, attributes := #[] }])
  fields := #[{ name := "NANOS", type := (.object "java/time/temporal/ChronoUnit"), accessFlags := 16409, slot := 0, constantValue := 0 }, { name := "MICROS", type := (.object "java/time/temporal/ChronoUnit"), accessFlags := 16409, slot := 1, constantValue := 0 }, { name := "MILLIS", type := (.object "java/time/temporal/ChronoUnit"), accessFlags := 16409, slot := 2, constantValue := 0 }, { name := "SECONDS", type := (.object "java/time/temporal/ChronoUnit"), accessFlags := 16409, slot := 3, constantValue := 0 }, { name := "MINUTES", type := (.object "java/time/temporal/ChronoUnit"), accessFlags := 16409, slot := 4, constantValue := 0 }, { name := "HOURS", type := (.object "java/time/temporal/ChronoUnit"), accessFlags := 16409, slot := 5, constantValue := 0 }, { name := "HALF_DAYS", type := (.object "java/time/temporal/ChronoUnit"), accessFlags := 16409, slot := 6, constantValue := 0 }, { name := "DAYS", type := (.object "java/time/temporal/ChronoUnit"), accessFlags := 16409, slot := 7, constantValue := 0 }, { name := "WEEKS", type := (.object "java/time/temporal/ChronoUnit"), accessFlags := 16409, slot := 8, constantValue := 0 }, { name := "MONTHS", type := (.object "java/time/temporal/ChronoUnit"), accessFlags := 16409, slot := 9, constantValue := 0 }, { name := "YEARS", type := (.object "java/time/temporal/ChronoUnit"), accessFlags := 16409, slot := 10, constantValue := 0 }, { name := "DECADES", type := (.object "java/time/temporal/ChronoUnit"), accessFlags := 16409, slot := 11, constantValue := 0 }, { name := "CENTURIES", type := (.object "java/time/temporal/ChronoUnit"), accessFlags := 16409, slot := 12, constantValue := 0 }, { name := "MILLENNIA", type := (.object "java/time/temporal/ChronoUnit"), accessFlags := 16409, slot := 13, constantValue := 0 }, { name := "ERAS", type := (.object "java/time/temporal/ChronoUnit"), accessFlags := 16409, slot := 14, constantValue := 0 }, { name := "FOREVER", type := (.object "java/time/temporal/ChronoUnit"), accessFlags := 16409, slot := 15, constantValue := 0 }, { name := "name", type := (.object "java/lang/String"), accessFlags := 18, slot := 3, constantValue := 0 }, { name := "duration", type := (.object "java/time/Duration"), accessFlags := 18, slot := 4, constantValue := 0 }, { name := "$VALUES", type := (.array (.object "java/time/temporal/ChronoUnit")), accessFlags := 4122, slot := 16, constantValue := 0 }]
  methods := #[]
  instanceTypes := #[(.object "java/lang/String"), .int, .int, (.object "java/lang/String"), (.object "java/time/Duration")]
  staticTypes := #[(.object "java/time/temporal/ChronoUnit"), (.object "java/time/temporal/ChronoUnit"), (.object "java/time/temporal/ChronoUnit"), (.object "java/time/temporal/ChronoUnit"), (.object "java/time/temporal/ChronoUnit"), (.object "java/time/temporal/ChronoUnit"), (.object "java/time/temporal/ChronoUnit"), (.object "java/time/temporal/ChronoUnit"), (.object "java/time/temporal/ChronoUnit"), (.object "java/time/temporal/ChronoUnit"), (.object "java/time/temporal/ChronoUnit"), (.object "java/time/temporal/ChronoUnit"), (.object "java/time/temporal/ChronoUnit"), (.object "java/time/temporal/ChronoUnit"), (.object "java/time/temporal/ChronoUnit"), (.object "java/time/temporal/ChronoUnit"), (.array (.object "java/time/temporal/ChronoUnit"))]
  resolved := Array.replicate 237 none
  statics := some 3 }

def pool26 : Array CpInfo := pool [(1, .class_ 2), (0, u "java/time/temporal/TemporalAmount"), (0, .class_ 4), (0, u "java/lang/Object")] 11

/-- java/time/temporal/TemporalAmount -/
def k26 : Class := { plain "java/time/temporal/TemporalAmount" (some 0) with
  accessFlags := 1537
  interfaces := #[]
  cf := some (fileOf pool26 1 #[] #[] 1537 3 #[] #[])
  fields := #[]
  methods := #[]
  instanceTypes := #[]
  staticTypes := #[]
  resolved := Array.replicate 16 none
  statics := none }

def pool27 : Array CpInfo := pool [(11, .class_ 13), (1, u "java/time/Duration"), (20, u "ZERO"), (0, u "Ljava/time/Duration;"), (13, .class_ 51), (1, u "java/time/temporal/TemporalAmount"), (27, .class_ 81), (1, u "java/time/Duration$Lazy"), (35, u "seconds"), (101, .class_ 220), (0, u "java/lang/Object"), (2, u "J"), (2, u "nanos"), (0, u "I"), (11, .class_ 241), (1, u "java/time/Duration$DurationUnits"), (27, .class_ 271), (1, u "java/time/Duration$1"), (91, u "BI_NANOS_PER_SECOND"), (0, u "Ljava/math/BigInteger;"), (120, .class_ 486), (0, u "java/lang/Comparable"), (0, .class_ 488), (0, u "java/io/Serializable"), (0, u "serialVersionUID")] 166

/-- java/time/Duration -/
def k27 : Class := { plain "java/time/Duration" (some 0) with
  accessFlags := 49
  interfaces := #[26, 4, 5]
  cf := some (fileOf pool27 11 #[.nestMembers #[269, 239, 79]] #[] 49 219 #[49, 485, 487] #[{ accessFlags := 25, nameIndex := 34, descriptorIndex := 35, attributes := #[] }, { accessFlags := 26, nameIndex := 489, descriptorIndex := 223, attributes := #[] }, { accessFlags := 26, nameIndex := 363, descriptorIndex := 364, attributes := #[] }, { accessFlags := 18, nameIndex := 117, descriptorIndex := 223, attributes := #[] }, { accessFlags := 18, nameIndex := 226, descriptorIndex := 227, attributes := #[] }])
  fields := #[{ name := "ZERO", type := (.object "java/time/Duration"), accessFlags := 25, slot := 0, constantValue := 0 }, { name := "serialVersionUID", type := .long, accessFlags := 26, slot := 1, constantValue := 0 }, { name := "BI_NANOS_PER_SECOND", type := (.object "java/math/BigInteger"), accessFlags := 26, slot := 2, constantValue := 0 }, { name := "seconds", type := .long, accessFlags := 18, slot := 0, constantValue := 0 }, { name := "nanos", type := .int, accessFlags := 18, slot := 1, constantValue := 0 }]
  methods := #[]
  instanceTypes := #[.long, .int]
  staticTypes := #[(.object "java/time/Duration"), .long, (.object "java/math/BigInteger")]
  resolved := Array.replicate 656 none
  statics := none }

def pool28 : Array CpInfo := pool [(1, u "java/lang/Cloneable"), (0, .class_ 1), (0, u "java/lang/Object"), (0, .class_ 3)] 3

/-- java/lang/Cloneable -/
def k28 : Class := { plain "java/lang/Cloneable" (some 0) with
  accessFlags := 1537
  interfaces := #[]
  cf := some (fileOf pool28 2 #[] #[] 1537 4 #[] #[])
  fields := #[]
  methods := #[]
  instanceTypes := #[]
  staticTypes := #[]
  resolved := Array.replicate 8 none
  statics := none }

/-- the primitive byte -/
def k29 : Class := { plain "byte" none with kind := .primitive 'B', accessFlags := 0x411 }
/-- [B -/
def k30 : Class := { plain "[B" (some 0) with kind := .array 29 .byte, interfaces := #[28, 5], accessFlags := 1041 }

/-- the primitive int -/
def k31 : Class := { plain "int" none with kind := .primitive 'I', accessFlags := 0x411 }
/-- [I -/
def k32 : Class := { plain "[I" (some 0) with kind := .array 31 .int, interfaces := #[28, 5], accessFlags := 1041 }

def heap : Heap := #[{ cls := 9, slots := #[.null, .null, .ref 16, .null, .null, .null, .null, .null, .null, .null, .null, .null, .null, .null], vm := .statics 9 },
  { cls := 14, slots := #[.null, .null, .null, .null, .null, .null, .null, .null, .null, .null, .null, .null, .null, .null, .null, .null, .null, .null, .ref 14, .null, .ref 15, .null, .null, .null, .null, .null, .ref 13, .null, .null, .null, .null], vm := .statics 14 },
  { cls := 22, slots := #[.ref 17, .long 0, .long 0], vm := .statics 22 },
  { cls := 25, slots := #[.null, .null, .null, .null, .null, .null, .null, .ref 8, .null, .ref 9, .ref 6, .null, .null, .null, .null, .ref 7, .null], vm := .statics 25 },
  { cls := 18, slots := #[.null, .int 0, .int 0, .int 0], vm := .none },
  { cls := 27, slots := #[.long 0, .int 0], vm := .none },
  { cls := 25, slots := #[.ref 4, .int 10, .int 0, .ref 4, .ref 5], vm := .none },
  { cls := 25, slots := #[.ref 4, .int 15, .int 0, .ref 4, .ref 5], vm := .none },
  { cls := 25, slots := #[.ref 4, .int 7, .int 0, .ref 4, .ref 5], vm := .none },
  { cls := 25, slots := #[.ref 4, .int 9, .int 0, .ref 4, .ref 5], vm := .none },
  { cls := 15, slots := #[.long (-999999999), .long (-999999999), .long (999999999), .long (999999999)], vm := .none },
  { cls := 15, slots := #[.long (1), .long (1), .long (28), .long (31)], vm := .none },
  { cls := 15, slots := #[.long (-365243219162), .long (-365243219162), .long (365241780471), .long (365241780471)], vm := .none },
  { cls := 14, slots := #[.ref 4, .int 26, .int 0, .ref 4, .ref 6, .ref 7, .ref 10, .ref 4], vm := .none },
  { cls := 14, slots := #[.ref 4, .int 18, .int 0, .ref 4, .ref 8, .ref 9, .ref 11, .ref 4], vm := .none },
  { cls := 14, slots := #[.ref 4, .int 20, .int 0, .ref 4, .ref 8, .ref 7, .ref 12, .null], vm := .none },
  { cls := 9, slots := #[.ref 4, .int 2, .int 0], vm := .none },
  { cls := 22, slots := #[], vm := .none }]
def classes : Array Class := #[k0, k1, k2, k3, k4, k5, k6, k7, k8, k9, k10, k11, k12, k13, k14, k15, k16, k17, k18, k19, k20, k21, k22, k23, k24, k25, k26, k27, k28, k29, k30, k31, k32]
def interned : List (Array UInt16 × Addr) := []
def slotsUsed : Nat := 130
def theMethod : MethodId := ⟨1, 1⟩
def args0 : Array Value := #[.int 5]
def aboutOver (below : List Frame) : State where
  vm := { classes := classes, interned := interned.toArray }
  heap := heap
  slotsUsed := slotsUsed
  threads := #[{ frames := .invoking theMethod args0 :: below }]
def below0 : List Frame := [.native { method := ⟨0, 0⟩, args := #[] }]
def about1 : State := aboutOver below0
def p0 : Program := .bare "" "" ""
def e0 : Env := launch0.env 0 0 0
theorem w_frames : about1.frames = Frame.invoking theMethod args0 :: below0 := rfl
set_option maxRecDepth 65536 in
theorem w_args : argsFit about1.vm theMethod args0 = true := by decide +kernel
set_option maxRecDepth 65536 in
theorem w_heap : heapFits about1 = true := by decide +kernel
set_option maxRecDepth 65536 in
theorem w_runnable : about1.curStatus? = some .runnable := by decide +kernel
set_option maxRecDepth 65536 in
theorem w_alone : about1.alone = true := by decide +kernel
set_option maxRecDepth 65536 in
theorem w_named : about1.methodNamed? x = some theMethod := by decide +kernel
set_option maxRecDepth 65536 in
theorem w_hears : about1.hears theMethod below0 = true := by decide +kernel
set_option maxRecDepth 65536 in
theorem w_ripe : about1.ripe theMethod args0 below0 = true := by decide +kernel
theorem w_running : about1.status = .running := rfl
set_option maxRecDepth 65536 in
theorem w_room : about1.hasRoom e0.platform room_1 = true :=
  launch0.hasRoom_least _ room_1 (by decide +kernel) (by decide +kernel) (by decide +kernel) (by decide +kernel) (by decide +kernel) (by decide +kernel)
theorem allAtoms_all (ts : List Jvm.Cond) (a : Array Jvm.Value) (st : Jvm.State) : (allAtoms ts).before a st = ts.all (fun c => c.before a st) := by
  induction ts with
  | nil => rfl
  | cons c t ih =>
    show (Jvm.Cond.and c (allAtoms t)).before a st = _
    rw [Jvm.Cond.before_and, ih, List.all_cons]
def words1 : List Jvm.Cond := Jvm.Cond.code x code maxLocals ret :: tables_1
/-- a 'code' word, met by the world's own term for the bytes: nothing is compared byte by byte -/
theorem code_word {y : MethodName} {bytes : ByteArray} {mx : Nat} {rt : Option FieldType} {a : Array Value} {s : State} {m : MethodId} {meth : Method} {c : Code} (h1 : s.methodNamed? y = some m) (h2 : s.vm.method? m = some meth) (h3 : meth.code = some c) (h4 : c.code = bytes)
    (h5 : (c.maxLocals == mx && c.exceptionTable.isEmpty && decide (c.maxStack ≤ mostOperands) && decide (meth.sig.returnType = rt) && !meth.locks && decide (parseMethodDescriptor y.desc = some meth.sig)) = true) : (Jvm.Cond.code y bytes mx rt).before a s = true := by
  simp only [Bool.and_eq_true, beq_iff_eq, Bool.not_eq_true', decide_eq_true_eq] at h5
  obtain ⟨⟨⟨⟨⟨g1, g2⟩, g3⟩, g4⟩, g5⟩, g6⟩ := h5
  simp [Cond.before, Cond.holds, Cond.value, h1, h2, h3, h4, g1, g2, g3, g4, g5, g6]
def isCode : Jvm.Cond → Bool
  | .code _ _ _ _ => true
  | _ => false
theorem all_split {L : List Jvm.Cond} {P : Jvm.Cond → Bool} (h1 : L.all (fun c => isCode c || P c) = true) (h2 : ∀ c ∈ L.filter isCode, P c = true) : L.all P = true := by
  refine List.all_eq_true.mpr fun c hc => ?_
  have h := List.all_eq_true.mp h1 c hc
  rcases Bool.eq_false_or_eq_true (isCode c) with hi | hi
  · exact h2 c (List.mem_filter.mpr ⟨hc, hi⟩)
  · simpa [hi] using h
set_option maxRecDepth 65536 in
theorem w_c0 : (Jvm.Cond.code x code maxLocals ret).before args0 about1 = true := code_word (m := ⟨1, 1⟩) (meth := k1m1) (c := k1c1) (by decide +kernel) rfl rfl rfl (by decide +kernel)
set_option maxRecDepth 65536 in
theorem w_c1 : (Jvm.Cond.code ({ cls := "com/example/notewright/notewright/Holidays", name := "goodFriday", desc := "(I)Ljava/time/LocalDate;" } : Jvm.MethodName) prog_30_method_8_code (8 : Nat) (Option.some (Jvm.ClassFile.FieldType.object "java/time/LocalDate"))).before args0 about1 = true := code_word (m := ⟨2, 1⟩) (meth := k2m1) (c := k2c1) (by decide +kernel) rfl rfl rfl (by decide +kernel)
set_option maxRecDepth 65536 in
theorem w_c2 : (Jvm.Cond.code ({ cls := "java/time/LocalDate", name := "of", desc := "(ILjava/time/Month;I)Ljava/time/LocalDate;" } : Jvm.MethodName) jdk_2323_method_4_code (3 : Nat) (Option.some (Jvm.ClassFile.FieldType.object "java/time/LocalDate"))).before args0 about1 = true := code_word (m := ⟨12, 0⟩) (meth := k12m0) (c := k12c0) (by decide +kernel) rfl rfl rfl (by decide +kernel)
set_option maxRecDepth 65536 in
theorem w_c3 : (Jvm.Cond.code ({ cls := "java/time/temporal/ChronoField", name := "checkValidValue", desc := "(J)J" } : Jvm.MethodName) jdk_2395_method_11_code (3 : Nat) (Option.some Jvm.ClassFile.FieldType.long)).before args0 about1 = true := code_word (m := ⟨14, 1⟩) (meth := k14m1) (c := k14c1) (by decide +kernel) rfl rfl rfl (by decide +kernel)
set_option maxRecDepth 65536 in
theorem w_c4 : (Jvm.Cond.code ({ cls := "java/time/temporal/ChronoField", name := "range", desc := "()Ljava/time/temporal/ValueRange;" } : Jvm.MethodName) jdk_2395_method_8_code (1 : Nat) (Option.some (Jvm.ClassFile.FieldType.object "java/time/temporal/ValueRange"))).before args0 about1 = true := code_word (m := ⟨14, 0⟩) (meth := k14m0) (c := k14c0) (by decide +kernel) rfl rfl rfl (by decide +kernel)
set_option maxRecDepth 65536 in
theorem w_c5 : (Jvm.Cond.code ({ cls := "java/time/temporal/ValueRange", name := "checkValidValue", desc := "(JLjava/time/temporal/TemporalField;)J" } : Jvm.MethodName) jdk_2423_method_13_code (4 : Nat) (Option.some Jvm.ClassFile.FieldType.long)).before args0 about1 = true := code_word (m := ⟨15, 3⟩) (meth := k15m3) (c := k15c3) (by decide +kernel) rfl rfl rfl (by decide +kernel)
set_option maxRecDepth 65536 in
theorem w_c6 : (Jvm.Cond.code ({ cls := "java/time/temporal/ValueRange", name := "isValidValue", desc := "(J)Z" } : Jvm.MethodName) jdk_2423_method_11_code (3 : Nat) (Option.some Jvm.ClassFile.FieldType.boolean)).before args0 about1 = true := code_word (m := ⟨15, 2⟩) (meth := k15m2) (c := k15c2) (by decide +kernel) rfl rfl rfl (by decide +kernel)
set_option maxRecDepth 65536 in
theorem w_c7 : (Jvm.Cond.code ({ cls := "java/time/temporal/ValueRange", name := "getMinimum", desc := "()J" } : Jvm.MethodName) jdk_2423_method_6_code (1 : Nat) (Option.some Jvm.ClassFile.FieldType.long)).before args0 about1 = true := code_word (m := ⟨15, 0⟩) (meth := k15m0) (c := k15c0) (by decide +kernel) rfl rfl rfl (by decide +kernel)
set_option maxRecDepth 65536 in
theorem w_c8 : (Jvm.Cond.code ({ cls := "java/time/temporal/ValueRange", name := "getMaximum", desc := "()J" } : Jvm.MethodName) jdk_2423_method_9_code (1 : Nat) (Option.some Jvm.ClassFile.FieldType.long)).before args0 about1 = true := code_word (m := ⟨15, 1⟩) (meth := k15m1) (c := k15c1) (by decide +kernel) rfl rfl rfl (by decide +kernel)
set_option maxRecDepth 65536 in
theorem w_c9 : (Jvm.Cond.code ({ cls := "java/util/Objects", name := "requireNonNull", desc := "(Ljava/lang/Object;Ljava/lang/String;)Ljava/lang/Object;" } : Jvm.MethodName) jdk_31_method_11_code (2 : Nat) (Option.some (Jvm.ClassFile.FieldType.object "java/lang/Object"))).before args0 about1 = true := code_word (m := ⟨19, 1⟩) (meth := k19m1) (c := k19c1) (by decide +kernel) rfl rfl rfl (by decide +kernel)
set_option maxRecDepth 65536 in
theorem w_c10 : (Jvm.Cond.code ({ cls := "java/time/Month", name := "getValue", desc := "()I" } : Jvm.MethodName) jdk_2329_method_6_code (1 : Nat) (Option.some Jvm.ClassFile.FieldType.int)).before args0 about1 = true := code_word (m := ⟨9, 0⟩) (meth := k9m0) (c := k9c0) (by decide +kernel) rfl rfl rfl (by decide +kernel)
set_option maxRecDepth 65536 in
theorem w_c11 : (Jvm.Cond.code ({ cls := "java/lang/Enum", name := "ordinal", desc := "()I" } : Jvm.MethodName) jdk_37_method_2_code (1 : Nat) (Option.some Jvm.ClassFile.FieldType.int)).before args0 about1 = true := code_word (m := ⟨6, 0⟩) (meth := k6m0) (c := k6c0) (by decide +kernel) rfl rfl rfl (by decide +kernel)
set_option maxRecDepth 65536 in
theorem w_c12 : (Jvm.Cond.code ({ cls := "java/time/LocalDate", name := "create", desc := "(III)Ljava/time/LocalDate;" } : Jvm.MethodName) jdk_2323_method_12_code (4 : Nat) (Option.some (Jvm.ClassFile.FieldType.object "java/time/LocalDate"))).before args0 about1 = true := code_word (m := ⟨12, 2⟩) (meth := k12m2) (c := k12c2) (by decide +kernel) rfl rfl rfl (by decide +kernel)
set_option maxRecDepth 65536 in
theorem w_c13 : (Jvm.Cond.code ({ cls := "java/time/LocalDate", name := "<init>", desc := "(III)V" } : Jvm.MethodName) jdk_2323_method_14_code (4 : Nat) (Option.none : Option Jvm.ClassFile.FieldType)).before args0 about1 = true := code_word (m := ⟨12, 3⟩) (meth := k12m3) (c := k12c3) (by decide +kernel) rfl rfl rfl (by decide +kernel)
set_option maxRecDepth 65536 in
theorem w_c14 : (Jvm.Cond.code ({ cls := "java/lang/Object", name := "<init>", desc := "()V" } : Jvm.MethodName) object_method_1_code (1 : Nat) (Option.none : Option Jvm.ClassFile.FieldType)).before args0 about1 = true := code_word (m := ⟨0, 0⟩) (meth := k0m0) (c := k0c0) (by decide +kernel) rfl rfl rfl (by decide +kernel)
set_option maxRecDepth 65536 in
theorem w_c15 : (Jvm.Cond.code ({ cls := "java/time/LocalDate", name := "plusDays", desc := "(J)Ljava/time/LocalDate;" } : Jvm.MethodName) jdk_2323_method_44_code (7 : Nat) (Option.some (Jvm.ClassFile.FieldType.object "java/time/LocalDate"))).before args0 about1 = true := code_word (m := ⟨12, 9⟩) (meth := k12m9) (c := k12c9) (by decide +kernel) rfl rfl rfl (by decide +kernel)
set_option maxRecDepth 65536 in
theorem w_c16 : (Jvm.Cond.code ({ cls := "java/time/LocalDate", name := "lengthOfMonth", desc := "()I" } : Jvm.MethodName) jdk_2323_method_31_code (1 : Nat) (Option.some Jvm.ClassFile.FieldType.int)).before args0 about1 = true := code_word (m := ⟨12, 8⟩) (meth := k12m8) (c := k12c8) (by decide +kernel) rfl rfl rfl (by decide +kernel)
set_option maxRecDepth 65536 in
theorem w_c17 : (Jvm.Cond.code ({ cls := "java/time/LocalDate", name := "minusDays", desc := "(J)Ljava/time/LocalDate;" } : Jvm.MethodName) jdk_2323_method_50_code (3 : Nat) (Option.some (Jvm.ClassFile.FieldType.object "java/time/LocalDate"))).before args0 about1 = true := code_word (m := ⟨12, 10⟩) (meth := k12m10) (c := k12c10) (by decide +kernel) rfl rfl rfl (by decide +kernel)
set_option maxRecDepth 65536 in
theorem w_c18 : (Jvm.Cond.code ({ cls := "java/time/LocalDate", name := "getYear", desc := "()I" } : Jvm.MethodName) jdk_2323_method_24_code (1 : Nat) (Option.some Jvm.ClassFile.FieldType.int)).before args0 about1 = true := code_word (m := ⟨12, 4⟩) (meth := k12m4) (c := k12c4) (by decide +kernel) rfl rfl rfl (by decide +kernel)
set_option maxRecDepth 65536 in
theorem w_c19 : (Jvm.Cond.code ({ cls := "java/time/LocalDate", name := "getMonthValue", desc := "()I" } : Jvm.MethodName) jdk_2323_method_25_code (1 : Nat) (Option.some Jvm.ClassFile.FieldType.int)).before args0 about1 = true := code_word (m := ⟨12, 5⟩) (meth := k12m5) (c := k12c5) (by decide +kernel) rfl rfl rfl (by decide +kernel)
set_option maxRecDepth 65536 in
theorem w_c20 : (Jvm.Cond.code ({ cls := "java/time/LocalDate", name := "getDayOfMonth", desc := "()I" } : Jvm.MethodName) jdk_2323_method_27_code (1 : Nat) (Option.some Jvm.ClassFile.FieldType.int)).before args0 about1 = true := code_word (m := ⟨12, 6⟩) (meth := k12m6) (c := k12c6) (by decide +kernel) rfl rfl rfl (by decide +kernel)
set_option maxRecDepth 65536 in
theorem w_c21 : (Jvm.Cond.code ({ cls := "java/time/LocalDate", name := "toEpochDay", desc := "()J" } : Jvm.MethodName) jdk_2323_method_67_code (7 : Nat) (Option.some Jvm.ClassFile.FieldType.long)).before args0 about1 = true := code_word (m := ⟨12, 11⟩) (meth := k12m11) (c := k12c11) (by decide +kernel) rfl rfl rfl (by decide +kernel)
set_option maxRecDepth 65536 in
theorem w_c22 : (Jvm.Cond.code ({ cls := "java/time/LocalDate", name := "isLeapYear", desc := "()Z" } : Jvm.MethodName) jdk_2323_method_30_code (1 : Nat) (Option.some Jvm.ClassFile.FieldType.boolean)).before args0 about1 = true := code_word (m := ⟨12, 7⟩) (meth := k12m7) (c := k12c7) (by decide +kernel) rfl rfl rfl (by decide +kernel)
set_option maxRecDepth 65536 in
theorem w_c23 : (Jvm.Cond.code ({ cls := "java/time/chrono/IsoChronology", name := "isLeapYear", desc := "(J)Z" } : Jvm.MethodName) jdk_2369_method_18_code (3 : Nat) (Option.some Jvm.ClassFile.FieldType.boolean)).before args0 about1 = true := code_word (m := ⟨22, 1⟩) (meth := k22m1) (c := k22c1) (by decide +kernel) rfl rfl rfl (by decide +kernel)
set_option maxRecDepth 65536 in
theorem w_c24 : (Jvm.Cond.code ({ cls := "java/lang/Math", name := "addExact", desc := "(JJ)J" } : Jvm.MethodName) jdk_29_method_25_code (6 : Nat) (Option.some Jvm.ClassFile.FieldType.long)).before args0 about1 = true := code_word (m := ⟨23, 1⟩) (meth := k23m1) (c := k23c1) (by decide +kernel) rfl rfl rfl (by decide +kernel)
set_option maxRecDepth 65536 in
theorem w_c25 : (Jvm.Cond.code ({ cls := "java/time/LocalDate", name := "ofEpochDay", desc := "(J)Ljava/time/LocalDate;" } : Jvm.MethodName) jdk_2323_method_8_code (14 : Nat) (Option.some (Jvm.ClassFile.FieldType.object "java/time/LocalDate"))).before args0 about1 = true := code_word (m := ⟨12, 1⟩) (meth := k12m1) (c := k12c1) (by decide +kernel) rfl rfl rfl (by decide +kernel)
def codes1 : List Jvm.Cond := [Jvm.Cond.code x code maxLocals ret, Jvm.Cond.code ({ cls := "com/example/notewright/notewright/Holidays", name := "goodFriday", desc := "(I)Ljava/time/LocalDate;" } : Jvm.MethodName) prog_30_method_8_code (8 : Nat) (Option.some (Jvm.ClassFile.FieldType.object "java/time/LocalDate")), Jvm.Cond.code ({ cls := "java/time/LocalDate", name := "of", desc := "(ILjava/time/Month;I)Ljava/time/LocalDate;" } : Jvm.MethodName) jdk_2323_method_4_code (3 : Nat) (Option.some (Jvm.ClassFile.FieldType.object "java/time/LocalDate")), Jvm.Cond.code ({ cls := "java/time/temporal/ChronoField", name := "checkValidValue", desc := "(J)J" } : Jvm.MethodName) jdk_2395_method_11_code (3 : Nat) (Option.some Jvm.ClassFile.FieldType.long), Jvm.Cond.code ({ cls := "java/time/temporal/ChronoField", name := "range", desc := "()Ljava/time/temporal/ValueRange;" } : Jvm.MethodName) jdk_2395_method_8_code (1 : Nat) (Option.some (Jvm.ClassFile.FieldType.object "java/time/temporal/ValueRange")), Jvm.Cond.code ({ cls := "java/time/temporal/ValueRange", name := "checkValidValue", desc := "(JLjava/time/temporal/TemporalField;)J" } : Jvm.MethodName) jdk_2423_method_13_code (4 : Nat) (Option.some Jvm.ClassFile.FieldType.long), Jvm.Cond.code ({ cls := "java/time/temporal/ValueRange", name := "isValidValue", desc := "(J)Z" } : Jvm.MethodName) jdk_2423_method_11_code (3 : Nat) (Option.some Jvm.ClassFile.FieldType.boolean), Jvm.Cond.code ({ cls := "java/time/temporal/ValueRange", name := "getMinimum", desc := "()J" } : Jvm.MethodName) jdk_2423_method_6_code (1 : Nat) (Option.some Jvm.ClassFile.FieldType.long), Jvm.Cond.code ({ cls := "java/time/temporal/ValueRange", name := "getMaximum", desc := "()J" } : Jvm.MethodName) jdk_2423_method_9_code (1 : Nat) (Option.some Jvm.ClassFile.FieldType.long), Jvm.Cond.code ({ cls := "java/util/Objects", name := "requireNonNull", desc := "(Ljava/lang/Object;Ljava/lang/String;)Ljava/lang/Object;" } : Jvm.MethodName) jdk_31_method_11_code (2 : Nat) (Option.some (Jvm.ClassFile.FieldType.object "java/lang/Object")), Jvm.Cond.code ({ cls := "java/time/Month", name := "getValue", desc := "()I" } : Jvm.MethodName) jdk_2329_method_6_code (1 : Nat) (Option.some Jvm.ClassFile.FieldType.int), Jvm.Cond.code ({ cls := "java/lang/Enum", name := "ordinal", desc := "()I" } : Jvm.MethodName) jdk_37_method_2_code (1 : Nat) (Option.some Jvm.ClassFile.FieldType.int), Jvm.Cond.code ({ cls := "java/time/LocalDate", name := "create", desc := "(III)Ljava/time/LocalDate;" } : Jvm.MethodName) jdk_2323_method_12_code (4 : Nat) (Option.some (Jvm.ClassFile.FieldType.object "java/time/LocalDate")), Jvm.Cond.code ({ cls := "java/time/LocalDate", name := "<init>", desc := "(III)V" } : Jvm.MethodName) jdk_2323_method_14_code (4 : Nat) (Option.none : Option Jvm.ClassFile.FieldType), Jvm.Cond.code ({ cls := "java/lang/Object", name := "<init>", desc := "()V" } : Jvm.MethodName) object_method_1_code (1 : Nat) (Option.none : Option Jvm.ClassFile.FieldType), Jvm.Cond.code ({ cls := "java/time/LocalDate", name := "plusDays", desc := "(J)Ljava/time/LocalDate;" } : Jvm.MethodName) jdk_2323_method_44_code (7 : Nat) (Option.some (Jvm.ClassFile.FieldType.object "java/time/LocalDate")), Jvm.Cond.code ({ cls := "java/time/LocalDate", name := "lengthOfMonth", desc := "()I" } : Jvm.MethodName) jdk_2323_method_31_code (1 : Nat) (Option.some Jvm.ClassFile.FieldType.int), Jvm.Cond.code ({ cls := "java/time/LocalDate", name := "minusDays", desc := "(J)Ljava/time/LocalDate;" } : Jvm.MethodName) jdk_2323_method_50_code (3 : Nat) (Option.some (Jvm.ClassFile.FieldType.object "java/time/LocalDate")), Jvm.Cond.code ({ cls := "java/time/LocalDate", name := "getYear", desc := "()I" } : Jvm.MethodName) jdk_2323_method_24_code (1 : Nat) (Option.some Jvm.ClassFile.FieldType.int), Jvm.Cond.code ({ cls := "java/time/LocalDate", name := "getMonthValue", desc := "()I" } : Jvm.MethodName) jdk_2323_method_25_code (1 : Nat) (Option.some Jvm.ClassFile.FieldType.int), Jvm.Cond.code ({ cls := "java/time/LocalDate", name := "getDayOfMonth", desc := "()I" } : Jvm.MethodName) jdk_2323_method_27_code (1 : Nat) (Option.some Jvm.ClassFile.FieldType.int), Jvm.Cond.code ({ cls := "java/time/LocalDate", name := "toEpochDay", desc := "()J" } : Jvm.MethodName) jdk_2323_method_67_code (7 : Nat) (Option.some Jvm.ClassFile.FieldType.long), Jvm.Cond.code ({ cls := "java/time/LocalDate", name := "isLeapYear", desc := "()Z" } : Jvm.MethodName) jdk_2323_method_30_code (1 : Nat) (Option.some Jvm.ClassFile.FieldType.boolean), Jvm.Cond.code ({ cls := "java/time/chrono/IsoChronology", name := "isLeapYear", desc := "(J)Z" } : Jvm.MethodName) jdk_2369_method_18_code (3 : Nat) (Option.some Jvm.ClassFile.FieldType.boolean), Jvm.Cond.code ({ cls := "java/lang/Math", name := "addExact", desc := "(JJ)J" } : Jvm.MethodName) jdk_29_method_25_code (6 : Nat) (Option.some Jvm.ClassFile.FieldType.long), Jvm.Cond.code ({ cls := "java/time/LocalDate", name := "ofEpochDay", desc := "(J)Ljava/time/LocalDate;" } : Jvm.MethodName) jdk_2323_method_8_code (14 : Nat) (Option.some (Jvm.ClassFile.FieldType.object "java/time/LocalDate"))]
set_option maxRecDepth 65536 in
theorem codes_eq : words1.filter isCode = codes1 := rfl
theorem w_codes : ∀ c ∈ words1.filter isCode, c.before args0 about1 = true := by
  rw [codes_eq]
  intro c hc
  simp only [codes1, List.mem_cons, List.not_mem_nil, or_false] at hc
  rcases hc with rfl | rfl | rfl | rfl | rfl | rfl | rfl | rfl | rfl | rfl | rfl | rfl | rfl | rfl | rfl | rfl | rfl | rfl | rfl | rfl | rfl | rfl | rfl | rfl | rfl | rfl
  · exact w_c0
  · exact w_c1
  · exact w_c2
  · exact w_c3
  · exact w_c4
  · exact w_c5
  · exact w_c6
  · exact w_c7
  · exact w_c8
  · exact w_c9
  · exact w_c10
  · exact w_c11
  · exact w_c12
  · exact w_c13
  · exact w_c14
  · exact w_c15
  · exact w_c16
  · exact w_c17
  · exact w_c18
  · exact w_c19
  · exact w_c20
  · exact w_c21
  · exact w_c22
  · exact w_c23
  · exact w_c24
  · exact w_c25
set_option maxRecDepth 65536 in
theorem w_t1 : (words1.take 24).all (fun c => isCode c || c.before args0 about1) = true := by decide +kernel
set_option maxRecDepth 65536 in
theorem w_t2 : ((words1.drop 24).take 24).all (fun c => isCode c || c.before args0 about1) = true := by decide +kernel
set_option maxRecDepth 65536 in
theorem w_t3 : (((words1.drop 24).drop 24).take 24).all (fun c => isCode c || c.before args0 about1) = true := by decide +kernel
set_option maxRecDepth 65536 in
theorem w_t4 : ((((words1.drop 24).drop 24).drop 24).take 24).all (fun c => isCode c || c.before args0 about1) = true := by decide +kernel
set_option maxRecDepth 65536 in
theorem w_t5 : (((((words1.drop 24).drop 24).drop 24).drop 24).take 24).all (fun c => isCode c || c.before args0 about1) = true := by decide +kernel
set_option maxRecDepth 65536 in
theorem w_t6 : ((((((words1.drop 24).drop 24).drop 24).drop 24).drop 24).take 24).all (fun c => isCode c || c.before args0 about1) = true := by decide +kernel
set_option maxRecDepth 65536 in
theorem w_t7 : (((((((words1.drop 24).drop 24).drop 24).drop 24).drop 24).drop 24).take 24).all (fun c => isCode c || c.before args0 about1) = true := by decide +kernel
set_option maxRecDepth 65536 in
theorem w_t8 : (((((((words1.drop 24).drop 24).drop 24).drop 24).drop 24).drop 24).drop 24).all (fun c => isCode c || c.before args0 about1) = true := by decide +kernel
theorem w_tables : (allAtoms (Jvm.Cond.code x code maxLocals ret :: tables_1)).before args0 about1 = true := by
  rw [allAtoms_all]
  show words1.all (fun c => c.before args0 about1) = true
  refine all_split ?_ w_codes
  rw [← List.take_append_drop 24 words1, List.all_append, w_t1, ← List.take_append_drop 24 (words1.drop 24), List.all_append, w_t2, ← List.take_append_drop 24 ((words1.drop 24).drop 24), List.all_append, w_t3, ← List.take_append_drop 24 (((words1.drop 24).drop 24).drop 24), List.all_append, w_t4, ← List.take_append_drop 24 ((((words1.drop 24).drop 24).drop 24).drop 24), List.all_append, w_t5, ← List.take_append_drop 24 (((((words1.drop 24).drop 24).drop 24).drop 24).drop 24), List.all_append, w_t6, ← List.take_append_drop 24 ((((((words1.drop 24).drop 24).drop 24).drop 24).drop 24).drop 24), List.all_append, w_t7, w_t8]
  rfl
set_option maxRecDepth 65536 in
theorem w_rest : rest_1_c.before args0 about1 = true := by decide +kernel
set_option maxRecDepth 65536 in
theorem w_case : (Jvm.Cond.and given_1 narrow_1).before args0 about1 = true := by decide +kernel
theorem w_applies : (headSpec (Jvm.Cond.code x code maxLocals ret :: tables_1) room_1).applies x e0.platform about1 = true :=
  (Spec.applies_iff w_frames).mpr ⟨w_running, w_runnable, w_alone, w_named, w_hears, w_ripe, w_room, w_tables⟩
theorem atStart : AtStart classFile x code maxLocals ret World_1 tables_1 room_1 Calls_1 rest_1 Pre_1 launch0 p0 e0 about1 theMethod args0 below0 :=
  ⟨lists_1, trivial, launch0.admits_env _ _ _, launch0.least_env, fairChoices_fair.cas, fairChoices_fair.clock, w_frames, w_args, w_heap, w_applies, trivial, w_rest, w_case⟩
end start1
theorem witness_1 : WitnessClaimed_1 := ⟨start1.p0, start1.e0, start1.about1, start1.theMethod, start1.args0, start1.below0, start1.atStart⟩
end Jvm.Pilot.@@N@@
