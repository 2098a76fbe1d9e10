import JvmDerived
import JvmDerived.Pilot.@@N@@Statement
import JvmDerived.Pilot.@@N@@Code
set_option linter.unusedVariables false
set_option linter.unusedSimpArgs false
namespace Jvm.RoadKit
open Sem ClassFile Op Lib Jvm.Stand Jvm.Free Jvm.LawKit
section Own
variable {p : Program} {l : Launch} {e : Env} {R : Room} {s : State} {m : MethodId} {args : Array Value} {below : List Frame} {meth : Method} {c : Code} {T : State} {locs : List Loc} {cells slots : Nat}
/-- the run from U comes to its end, and the end meets Q -/
def own_Go (p : Program) (e : Env) (below : List Frame) (args : Array Value) (s : State) (Q : Array Value → State → Outcome → State → Prop) (U : State) : Prop := ∃ s₂ o, Steps p.tables e below U s₂ ∧ s₂.status = .running ∧ Ended s₂ below o ∧ Q args s o s₂
theorem own_st {Q : Array Value → State → Outcome → State → Prop} {U V : State} (k : ∀ t, Steps p.tables e below V t → Steps p.tables e below U t) (h : own_Go p e below args s Q V) : own_Go p e below args s Q U := by
  obtain ⟨s2, o, h1, h2⟩ := h
  exact ⟨s2, o, k _ h1, h2⟩
theorem own_ret {Q : Option Value → Heap → List Loc → Prop} {rc rs : Nat} (X : Stand p l e R s m args below meth c T locs cells slots) (hx : p.tables.exec = Jvm.exec) {pc : Nat} {Ls : Array Slot} {w : Value} {t : FieldType} {i : Instr} {rest : List Value} (hlk : meth.locks = false) (hret : meth.sig.returnType = some t) (hn : narrow t w = w)
    (hi : (i = .ireturn ∧ (t = .int ∨ t = .boolean ∨ t = .byte ∨ t = .char ∨ t = .short) ∧ ∃ z, w = .int z) ∨ (i = .lreturn ∧ t = .long ∧ ∃ z, w = .long z) ∨ (i = .dreturn ∧ t = .double ∧ ∃ z, w = .double z) ∨ (i = .freturn ∧ t = .float ∧ ∃ z, w = .float z) ∨ (i = .areturn ∧ t.isReference = true ∧ w.isRef = true))
    (hd : decode c.code pc = .ok (i, 1)) (hc : cells ≤ rc) (hs : slots ≤ rs) (hQ : Q (some w) T.heap locs) :
    own_Go p e below args s (fun _ U o U' => ∃ v L, o = .returned v ∧ Q v U'.heap L ∧ FrameEnd U o U' L rc rs) (T.setTop (mkF m pc Ls (w :: rest))) := by
  obtain ⟨fs, hr, hrun, hended, hW, hsame⟩ := X.leave (v := some w) (fun h => by rw [hret] at h; cases h) hlk
  exact ⟨_, _, retOut X hx hret hn hi hd hr, hrun, hended, _, _, rfl, hQ, ⟨_, rfl⟩, hW, hsame.mono hc hs⟩
theorem own_ret0 {Q : Option Value → Heap → List Loc → Prop} {rc rs : Nat} (X : Stand p l e R s m args below meth c T locs cells slots) (hx : p.tables.exec = Jvm.exec) {pc : Nat} {Ls : Array Slot} (hlk : meth.locks = false) (hret : meth.sig.returnType = none)
    (hd : decode c.code pc = .ok (.return_, 1)) (hc : cells ≤ rc) (hs : slots ≤ rs) (hQ : Q none T.heap locs) :
    own_Go p e below args s (fun _ U o U' => ∃ v L, o = .returned v ∧ Q v U'.heap L ∧ FrameEnd U o U' L rc rs) (T.setTop (mkF m pc Ls [])) := by
  obtain ⟨fs, hr, hrun, hended, hW, hsame⟩ := X.leave (v := none) (fun _ => rfl) hlk
  exact ⟨_, _, X.returnOut hx hret hd hr, hrun, hended, _, _, rfl, hQ, ⟨_, rfl⟩, hW, hsame.mono hc hs⟩
theorem own_retN {Q : Option Value → Heap → List Loc → Prop} {rc rs : Nat} (X : Stand p l e R s m args below meth c T locs cells slots) (hx : p.tables.exec = Jvm.exec) {pc : Nat} {Ls : Array Slot} {w : Value} {t : FieldType} {i : Instr} {rest : List Value} (hlk : meth.locks = false) (hret : meth.sig.returnType = some t) (hn : narrow t w = w)
    (hi : (i = .ireturn ∧ (t = .int ∨ t = .boolean ∨ t = .byte ∨ t = .char ∨ t = .short) ∧ ∃ z, w = .int z) ∨ (i = .lreturn ∧ t = .long ∧ ∃ z, w = .long z) ∨ (i = .dreturn ∧ t = .double ∧ ∃ z, w = .double z) ∨ (i = .freturn ∧ t = .float ∧ ∃ z, w = .float z) ∨ (i = .areturn ∧ t.isReference = true ∧ w.isRef = true))
    (hd : decode c.code pc = .ok (i, 1)) (hc : cells ≤ rc) (hs : slots ≤ rs) (hQ : Q (some w) T.heap locs) :
    own_Go p e below args s (fun _ U o U' => ∃ v L, o = .returned v ∧ Q v U'.heap L ∧ ReturnedEndW U o U' L rc rs) (T.setTop (mkF m pc Ls (w :: rest))) := by
  obtain ⟨fs, hr, hrun, hended, hW, hsame⟩ := X.leave (v := some w) (fun h => by rw [hret] at h; cases h) hlk
  exact ⟨_, _, retOut X hx hret hn hi hd hr, hrun, hended, _, _, rfl, hQ, ReturnedEndW.of_narrow ⟨_, rfl⟩ hW (hsame.mono hc hs)⟩
theorem own_retW {Q : Option Value → Heap → List Loc → Prop} {rc rs : Nat} {vm₁ : Vm} {k1 : Nat} (hS : s.Since vm₁ k1) (hk : k1 ≤ T.heap.size) (X : Stand p l e R (s.setVm vm₁) m args below meth c T locs cells slots) (hx : p.tables.exec = Jvm.exec) {pc : Nat} {Ls : Array Slot} {w : Value} {t : FieldType} {i : Instr} {rest : List Value} (hlk : meth.locks = false) (hret : meth.sig.returnType = some t) (hn : narrow t w = w)
    (hi : (i = .ireturn ∧ (t = .int ∨ t = .boolean ∨ t = .byte ∨ t = .char ∨ t = .short) ∧ ∃ z, w = .int z) ∨ (i = .lreturn ∧ t = .long ∧ ∃ z, w = .long z) ∨ (i = .dreturn ∧ t = .double ∧ ∃ z, w = .double z) ∨ (i = .freturn ∧ t = .float ∧ ∃ z, w = .float z) ∨ (i = .areturn ∧ t.isReference = true ∧ w.isRef = true))
    (hd : decode c.code pc = .ok (i, 1)) (hc : cells ≤ rc) (hs : slots ≤ rs) (hQ : Q (some w) T.heap locs) :
    own_Go p e below args s (fun _ U o U' => ∃ v L, o = .returned v ∧ Q v U'.heap L ∧ ReturnedEndW U o U' L rc rs) (T.setTop (mkF m pc Ls (w :: rest))) := by
  obtain ⟨fs, hr, hrun, hended, hE⟩ := X.leaveW hS hk (v := some w) (fun h => by rw [hret] at h; cases h) hlk
  exact ⟨_, _, retOut X hx hret hn hi hd hr, hrun, hended, _, _, rfl, hQ, hE.1, hE.2.1, hE.2.2.1, hE.2.2.2.mono hc hs⟩
theorem own_ret0N {Q : Option Value → Heap → List Loc → Prop} {rc rs : Nat} (X : Stand p l e R s m args below meth c T locs cells slots) (hx : p.tables.exec = Jvm.exec) {pc : Nat} {Ls : Array Slot} (hlk : meth.locks = false) (hret : meth.sig.returnType = none)
    (hd : decode c.code pc = .ok (.return_, 1)) (hc : cells ≤ rc) (hs : slots ≤ rs) (hQ : Q none T.heap locs) :
    own_Go p e below args s (fun _ U o U' => ∃ v L, o = .returned v ∧ Q v U'.heap L ∧ ReturnedEndW U o U' L rc rs) (T.setTop (mkF m pc Ls [])) := by
  obtain ⟨fs, hr, hrun, hended, hW, hsame⟩ := X.leave (v := none) (fun _ => rfl) hlk
  exact ⟨_, _, X.returnOut hx hret hd hr, hrun, hended, _, _, rfl, hQ, ReturnedEndW.of_narrow ⟨_, rfl⟩ hW (hsame.mono hc hs)⟩
theorem own_ret0W {Q : Option Value → Heap → List Loc → Prop} {rc rs : Nat} {vm₁ : Vm} {k1 : Nat} (hS : s.Since vm₁ k1) (hk : k1 ≤ T.heap.size) (X : Stand p l e R (s.setVm vm₁) m args below meth c T locs cells slots) (hx : p.tables.exec = Jvm.exec) {pc : Nat} {Ls : Array Slot} (hlk : meth.locks = false) (hret : meth.sig.returnType = none)
    (hd : decode c.code pc = .ok (.return_, 1)) (hc : cells ≤ rc) (hs : slots ≤ rs) (hQ : Q none T.heap locs) :
    own_Go p e below args s (fun _ U o U' => ∃ v L, o = .returned v ∧ Q v U'.heap L ∧ ReturnedEndW U o U' L rc rs) (T.setTop (mkF m pc Ls [])) := by
  obtain ⟨fs, hr, hrun, hended, hE⟩ := X.leaveW hS hk (v := none) (fun _ => rfl) hlk
  exact ⟨_, _, X.returnOut hx hret hd hr, hrun, hended, _, _, rfl, hQ, hE.1, hE.2.1, hE.2.2.1, hE.2.2.2.mono hc hs⟩
theorem own_retH {Q : Option Value → Heap → List Loc → Prop} {rc rs : Nat} {vm₁ : Vm} {k1 : Nat} {Z : State} {a0 : Array Value} {EL : List (String × Nat)} (hS : s.Since vm₁ k1) (hk : k1 ≤ T.heap.size) (hC : CHr Z EL s.vm s.heap vm₁ T.heap) (hZ : Z.Warmed39 vm₁) (hEL : EW Z a0 EL) (X : Stand p l e R (s.setVm vm₁) m args below meth c T locs cells slots) (hx : p.tables.exec = Jvm.exec) {pc : Nat} {Ls : Array Slot} {w : Value} {t : FieldType} {i : Instr} {rest : List Value} (hlk : meth.locks = false) (hret : meth.sig.returnType = some t) (hn : narrow t w = w)
    (hi : (i = .ireturn ∧ (t = .int ∨ t = .boolean ∨ t = .byte ∨ t = .char ∨ t = .short) ∧ ∃ z, w = .int z) ∨ (i = .lreturn ∧ t = .long ∧ ∃ z, w = .long z) ∨ (i = .dreturn ∧ t = .double ∧ ∃ z, w = .double z) ∨ (i = .freturn ∧ t = .float ∧ ∃ z, w = .float z) ∨ (i = .areturn ∧ t.isReference = true ∧ w.isRef = true))
    (hd : decode c.code pc = .ok (i, 1)) (hc : cells ≤ rc) (hs : slots ≤ rs) (hQ : Q (some w) T.heap locs) :
    own_Go p e below args s (fun _ U o U' => ∃ v L, o = .returned v ∧ Q v U'.heap L ∧ CHr Z EL U.vm U.heap U'.vm U'.heap ∧ ReturnedEndW U o U' L rc rs) (T.setTop (mkF m pc Ls (w :: rest))) := by
  obtain ⟨fs, hr, hrun, hended, hE⟩ := X.leaveW hS hk (v := some w) (fun h => by rw [hret] at h; cases h) hlk
  have hF := hC.trans (CHv.at X hZ hEL hC.1)
  exact ⟨_, _, retOut X hx hret hn hi hd hr, hrun, hended, _, _, rfl, hQ, hF, hE.1, hE.2.1, hE.2.2.1, hE.2.2.2.mono hc hs⟩
theorem own_ret0H {Q : Option Value → Heap → List Loc → Prop} {rc rs : Nat} {vm₁ : Vm} {k1 : Nat} {Z : State} {a0 : Array Value} {EL : List (String × Nat)} (hS : s.Since vm₁ k1) (hk : k1 ≤ T.heap.size) (hC : CHr Z EL s.vm s.heap vm₁ T.heap) (hZ : Z.Warmed39 vm₁) (hEL : EW Z a0 EL) (X : Stand p l e R (s.setVm vm₁) m args below meth c T locs cells slots) (hx : p.tables.exec = Jvm.exec) {pc : Nat} {Ls : Array Slot} (hlk : meth.locks = false) (hret : meth.sig.returnType = none)
    (hd : decode c.code pc = .ok (.return_, 1)) (hc : cells ≤ rc) (hs : slots ≤ rs) (hQ : Q none T.heap locs) :
    own_Go p e below args s (fun _ U o U' => ∃ v L, o = .returned v ∧ Q v U'.heap L ∧ CHr Z EL U.vm U.heap U'.vm U'.heap ∧ ReturnedEndW U o U' L rc rs) (T.setTop (mkF m pc Ls [])) := by
  obtain ⟨fs, hr, hrun, hended, hE⟩ := X.leaveW hS hk (v := none) (fun _ => rfl) hlk
  have hF := hC.trans (CHv.at X hZ hEL hC.1)
  exact ⟨_, _, X.returnOut hx hret hd hr, hrun, hended, _, _, rfl, hQ, hF, hE.1, hE.2.1, hE.2.2.1, hE.2.2.2.mono hc hs⟩
/-- a String whose value is not laid yet is none of the constants' -/
theorem own_safe {Z : State} {EL : List (String × Nat)} {vm : Vm} {h : Heap} {x : Addr} (hal : Z.vm.Alike vm) (E : Exa Z h x "java/lang/String") (F : Fld Z h x "java/lang/String" "value" "[B" .null) : Safe Z EL vm h x := fun B => by
  obtain ⟨p, -, u, a, -, q, -, G, rfl | rfl⟩ := B
  · obtain ⟨cS, ⟨⟨g1, -, -, ⟨c1, k1, i1, g4, -⟩, -, -, -, g8, -⟩, -⟩, -⟩ := G
    obtain ⟨cell, cf, k, i, f, f1, f2, -, -, -, -, f7⟩ := F
    cases (show h[q.sa]? = some q.sC from g1).symm.trans f1
    obtain ⟨k', w1, -⟩ := State.fieldFound?_setVm (s := ({ Z with heap := h } : State)) (vm' := vm) hal (show ({ Z with heap := h } : State).fieldFound? "java/lang/String" "value" "[B" = some (cf, k, i, f) from f2)
    cases g4.symm.trans w1
    rw [g8] at f7
    cases f7
  · obtain ⟨cell, k, e1, e2, -⟩ := E
    cases (show h[q.sd]? = some q.SA from G.hd).symm.trans e1
    obtain ⟨cS, -, -, f, -⟩ := G
    have f' : vm.findClass "[B" = some q.SA.cls := f
    rw [hal.findClass] at f'
    obtain ⟨k1, q1, q2⟩ := Vm.findClass_spec f'
    obtain ⟨k2, q3, q4⟩ := Vm.findClass_spec e2
    cases q1.symm.trans q3
    exact absurd (q2.symm.trans q4) (by decide)
/-- what the sheet says of a static that holds an object of its class -/
theorem own_sta {Z : State} {args : Array Value} {C n d K : String} (hx : (Jvm.Cond.exactly (.static C n d) K).value args Z none Z [] = some true) (wi : (Jvm.Cond.initialized C).before args Z = true) (wl : (Jvm.Cond.laysStatic C n d).before args Z = true) :
    ∃ a, Sta Z Z.heap C n d (.ref a) ∧ Exa Z Z.heap a K ∧ (Jvm.Term.static C n d).eval args Z none [] Z = some (.ref a) := by
  obtain ⟨a, ev⟩ := exa_v hx
  exact ⟨a, Sta.start ev (Or.inr ⟨wi, wl⟩), Exa.start ev hx, ev⟩
theorem own_eqi {Z : State} {args : Array Value} {t : Jvm.Term} {k : Int32} (h : (Jvm.Cond.eq t (.int k)).value args Z none Z [] = some true) : t.eval args Z none [] Z = some (.int k) := by
  cases hv : t.eval args Z none [] Z with
  | none => simp [Cond.value, Term.eval, hv] at h
  | some v => cases v <;> simp [Cond.value, Term.eval, hv] at h ⊢ <;> exact h
theorem own_fld {Z : State} {args : Array Value} {t : Jvm.Term} {C n d : String} {a : Addr} {k : Int32} (ev : t.eval args Z none [] Z = some (.ref a)) (h : (Jvm.Cond.eq (.field t C n d) (.int k)).value args Z none Z [] = some true) : Fld Z Z.heap a C n d (.int k) :=
  Fld.start ((fld_at ev).symm.trans (own_eqi h))
end Own
end Jvm.RoadKit
namespace Jvm.Pilot.@@N@@
open Jvm Jvm.ClassFile Sem Op Lib Jvm.Free Jvm.Stand Jvm.LawKit Jvm.RoadKit Bundle Jvm.Pilot.@@N@@.Jvm.D
theorem own_so {Z : State} {n0 : Nat} {h : Heap} {C n d : String} {v : Value} (O : Old Z n0 h) (S : Sta Z Z.heap C n d v) : Sta Z h C n d v := by
  obtain ⟨cf, i, k, f, st, cell, h1, h2, h3, h4, h5, h6⟩ := S
  exact ⟨cf, i, k, f, st, cell, h1, h2, h3, h4, O.2.2 _ _ h5, h6⟩
def own_EL : List (String × Nat) := [("java/lang/String", 7)]
theorem own_wS {Z : State} {a0 : Array Value} (hw : ∀ d ∈ tables_1, d.before a0 Z = true) : ∀ a ∈ Bundle.stringAtoms, a.before a0 Z = true := by
  intro a h
  simp only [Bundle.stringAtoms, List.mem_cons, List.not_mem_nil, or_false] at h
  rcases h with rfl | rfl | rfl | rfl | rfl | rfl | rfl
  · exact (hw _ (List.mem_of_getElem? (i := 6) rfl))
  · exact (hw _ (List.mem_of_getElem? (i := 5) rfl))
  · exact (hw _ (List.mem_of_getElem? (i := 19) rfl))
  · exact (hw _ (List.mem_of_getElem? (i := 20) rfl))
  · exact (hw _ (List.mem_of_getElem? (i := 21) rfl))
  · exact (hw _ (List.mem_of_getElem? (i := 22) rfl))
  · exact (hw _ (List.mem_of_getElem? (i := 23) rfl))
theorem own_ew {Z : State} {a0 : Array Value} (hw : ∀ d ∈ tables_1, d.before a0 Z = true) : EW Z a0 own_EL := EW.cons (hw _ (List.mem_of_getElem? (i := 18) rfl)) (fun c h => (by simp at h)) EW.nil
def Q_own_s4_0 (Z : State) (o1 o2 : Addr) (h0 : Heap) (n0 : Nat) (v : Option Value) (h : Heap) (L : List Loc) : Prop := v = none ∧ Fr n0 L ∧ Keep h0 h [o1] ∧ Exa Z h o1 "java/lang/String" ∧ ∃ t k, Fld Z h o1 "java/lang/String" "value" "[B" (.ref t) ∧ Arv Z h t k .byte (0 : Int32) [] (.int (0 : Int32))
theorem own_d3_0 : decode jdk_42_method_149_code 0 = .ok (.aload_n 0, 1) := by decide +kernel
theorem own_d3_1 : decode jdk_42_method_149_code 1 = .ok (.invokespecial 1, 3) := by decide +kernel
theorem own_d3_4 : decode jdk_42_method_149_code 4 = .ok (.iload_n 3, 1) := by decide +kernel
theorem own_d3_5 : decode jdk_42_method_149_code 5 = .ok (.ifCond .ne 22, 3) := by decide +kernel
theorem own_d3_8 : decode jdk_42_method_149_code 8 = .ok (.aload_n 0, 1) := by decide +kernel
theorem own_d3_9 : decode jdk_42_method_149_code 9 = .ok (.ldc 7, 2) := by decide +kernel
theorem own_d3_11 : decode jdk_42_method_149_code 11 = .ok (.getfield 9, 3) := by decide +kernel
theorem own_d3_14 : decode jdk_42_method_149_code 14 = .ok (.putfield 9, 3) := by decide +kernel
theorem own_d3_17 : decode jdk_42_method_149_code 17 = .ok (.aload_n 0, 1) := by decide +kernel
theorem own_d3_18 : decode jdk_42_method_149_code 18 = .ok (.ldc 7, 2) := by decide +kernel
theorem own_d3_20 : decode jdk_42_method_149_code 20 = .ok (.getfield 15, 3) := by decide +kernel
theorem own_d3_23 : decode jdk_42_method_149_code 23 = .ok (.putfield 15, 3) := by decide +kernel
theorem own_d3_26 : decode jdk_42_method_149_code 26 = .ok (.return_, 1) := by decide +kernel
theorem own_pn_java_lang_String : plainName "java/lang/String" = true := by first | (simp [plainName, overriddenIn]; done) | decide +kernel
set_option maxRecDepth 65536 in
set_option maxHeartbeats 40000000 in
theorem own_s4_0 (l : Launch) (Z : State) (a0 : Array Value) (hw : ∀ d ∈ tables_1, d.before a0 Z = true) (ws : List Jvm.Cond) (o1 o2 : Addr) (h0 : Heap) (n0 : Nat) (Z0 : n0 ≤ h0.size) (E1 : Exa Z h0 o1 "java/lang/String") (g1 : n0 ≤ o1) (F1 : Fld Z h0 o1 "java/lang/String" "value" "[B" .null) (F2 : Fld Z h0 o1 "java/lang/String" "coder" "B" (.int (0 : Int32))) :
    MetFree l (⟨"java/lang/String", "<init>", "([CIILjava/lang/Void;)V"⟩ : MethodName) (head1 (Jvm.Cond.code (⟨"java/lang/String", "<init>", "([CIILjava/lang/Void;)V"⟩ : MethodName) jdk_42_method_149_code 6 none :: ws) ({ frames := 1, cells := 4, slots := 8, locals := 12 } : Room)) (fun a U => a = #[(.ref o1), (.ref o2), (.int (0 : Int32)), (.int (0 : Int32)), .null] ∧ Z.Warmed39 U.vm ∧ U.heap = h0 ∧ CHv Z own_EL U.vm h0) (fun _ _ _ _ _ => True) (fun _ U o U' => ∃ v L, o = .returned v ∧ Q_own_s4_0 Z o1 o2 h0 n0 v U'.heap L ∧ CHr Z own_EL U.vm U.heap U'.vm U'.heap ∧ ReturnedEndW U o U' L ({ frames := 1, cells := 4, slots := 8, locals := 12 } : Room).cells ({ frames := 1, cells := 4, slots := 8, locals := 12 } : Room).slots) := by
  refine MetFree.of_bodySF (plainFor_of_name own_pn_java_lang_String) hisR ?_
  intro p e s m args below meth c s₁ Bd hml0 hP hK
  obtain ⟨rfl, hZ, hh, hC0⟩ := hP
  have hx := Bd.exec
  have hby := Bd.bytes
  have hml : c.maxLocals = 6 := hml0
  have hown : s.vm.findClass "java/lang/String" = some m.cls := findClass_of_methodNamed Bd.named
  have hnm := (name_of_methodNamed Bd.named Bd.method).1
  have hlk : meth.locks = false := BodyLoose.notSynchronized Bd
  have X0 : Stand p l e ({ frames := 1, cells := 4, slots := 8, locals := 12 } : Room) (s.setVm s.vm) m #[(.ref o1), (.ref o2), (.int (0 : Int32)), (.int (0 : Int32)), .null] below meth c s₁ [] 0 0 := Stand.of_body Bd
  have hZ : Z.Warmed39 (s.setVm s.vm).vm := hZ
  have hown : (s.setVm s.vm).vm.findClass "java/lang/String" = some m.cls := hown
  have hSi : s.Since s.vm 0 := (State.WarmedH.refl s).since 0
  have kz : 0 ≤ h0.size := Nat.zero_le _
  have hEL := own_ew hw
  have Cr : CHr Z own_EL s.vm h0 s.vm h0 := CHr.refl hC0
  have e0 : s₁.heap = h0 := by rw [← hh, Bd.state]; rfl
  have N0 := Fr.nil n0
  show own_Go p e below #[(.ref o1), (.ref o2), (.int (0 : Int32)), (.int (0 : Int32)), .null] s (fun _ U o U' => ∃ v L, o = .returned v ∧ Q_own_s4_0 Z o1 o2 h0 n0 v U'.heap L ∧ CHr Z own_EL U.vm U.heap U'.vm U'.heap ∧ ReturnedEndW U o U' L ({ frames := 1, cells := 4, slots := 8, locals := 12 } : Room).cells ({ frames := 1, cells := 4, slots := 8, locals := 12 } : Room).slots) (s₁.setTop (entryFrame m #[(.ref o1), (.ref o2), (.int (0 : Int32)), (.int (0 : Int32)), .null] 6))
  refine own_st (V := s₁.setTop (mkF m 0 #[.val (.ref o1), .val (.ref o2), .val (.int (0 : Int32)), .val (.int (0 : Int32)), .val .null, .unset] [])) (fun t k => castTop (by first | (simp [entryFrame, mkF, argsToLocals, Value.category]; done) | rfl) k) ?_
  refine own_st (V := s₁.setTop (mkF m 1 #[.val (.ref o1), .val (.ref o2), .val (.int (0 : Int32)), .val (.int (0 : Int32)), .val .null, .unset] [(.ref o1)])) (fun t k => XS.aloadN X0.here hx rfl (hb hby own_d3_0) rfl rfl k) ?_
  obtain ⟨T1, X1, e1, st1⟩ := initO X0 hx hZ hown (hw _ (List.mem_of_getElem? (i := 15) rfl)) (hw _ (List.mem_of_getElem? (i := 16) rfl)) (hw _ (List.mem_of_getElem? (i := 17) rfl)) e0 (g := (mkF m 1 #[.val (.ref o1), .val (.ref o2), .val (.int (0 : Int32)), .val (.int (0 : Int32)), .val .null, .unset] [(.ref o1)])) rfl (by rw [hml]; rfl) rfl (hb hby own_d3_1) (by decide) (W := 0) (by show 2 * 0 + _ ≤ _; exact Nat.le_of_eq rfl) (by decide)
  refine own_st (V := T1.setTop (mkF m 4 #[.val (.ref o1), .val (.ref o2), .val (.int (0 : Int32)), .val (.int (0 : Int32)), .val .null, .unset] [])) (fun t k => st1 _ k) ?_
  refine own_st (V := T1.setTop (mkF m 5 #[.val (.ref o1), .val (.ref o2), .val (.int (0 : Int32)), .val (.int (0 : Int32)), .val .null, .unset] [(.int (0 : Int32))])) (fun t k => XS.iloadN X1.here hx rfl (hb hby own_d3_4) rfl k) ?_
  refine own_st (V := T1.setTop (mkF m 8 #[.val (.ref o1), .val (.ref o2), .val (.int (0 : Int32)), .val (.int (0 : Int32)), .val .null, .unset] [])) (fun t k => XS.ifNo X1.here hx rfl (hb hby own_d3_5) rfl ((if0 _ _).trans (teq (by decide : (0 : Int32) = (0 : Int32))).2) k) ?_
  refine own_st (V := T1.setTop (mkF m 9 #[.val (.ref o1), .val (.ref o2), .val (.int (0 : Int32)), .val (.int (0 : Int32)), .val .null, .unset] [(.ref o1)])) (fun t k => XS.aloadN X1.here hx rfl (hb hby own_d3_8) rfl rfl k) ?_
  obtain ⟨a2, T2, h2, kk2, bb2, kb2, X2, e2, E2, hS_2, hk_2, hZ_2, hown_2, Ea2, Fc2, Fv2, Vb2, la2, lb2, Cs2, Lt2, Sa2, st2⟩ := ldcCH (s := s) (vm0 := s.vm) X1 hx hZ hown (hw _ (List.mem_of_getElem? (i := 18) rfl)) (own_wS hw) e1 hSi kz hEL (List.mem_of_getElem? (i := 0) rfl) Cr.1 (vs := []) (z := (0 : Int32)) ⟨fun c h => (by simp at h), rfl⟩ (by decide) rfl (g := (mkF m 9 #[.val (.ref o1), .val (.ref o2), .val (.int (0 : Int32)), .val (.int (0 : Int32)), .val .null, .unset] [(.ref o1)])) rfl (hb hby own_d3_9) (n := 0) (by decide) (by decide) (by decide) (by decide)
  have Kc2 := (Keep.refl h0 [o1]).ext E2
  have Z0_2 : n0 ≤ h2.size := Nat.le_trans Z0 E2.1
  have F2_o1_value := F1.ext E2
  have F2_o1_coder := F2.ext E2
  have Ex2_o1 := E1.ext E2
  have Cr_2 := Cr.trans Cs2
  have Sf2_o1 : Safe Z own_EL T2.vm h2 o1 := own_safe hZ_2.alike Ex2_o1 F2_o1_value
  have sn2 := Sa2 o1 Sf2_o1
  refine own_st (V := T2.setTop (mkF m 11 #[.val (.ref o1), .val (.ref o2), .val (.int (0 : Int32)), .val (.int (0 : Int32)), .val .null, .unset] [(.ref a2), (.ref o1)])) (fun t k => st2 _ k) ?_
  obtain ⟨T3, X3, e3, st3⟩ := getF X2 hx hZ_2 hown_2 (host := "") (Or.inl (hw _ (List.mem_of_getElem? (i := 24) rfl))) Via.refl e2 Fv2 (g := (mkF m 11 #[.val (.ref o1), .val (.ref o2), .val (.int (0 : Int32)), .val (.int (0 : Int32)), .val .null, .unset] [(.ref a2), (.ref o1)])) rfl rfl (hb hby own_d3_11)
  refine own_st (V := T3.setTop (mkF m 14 #[.val (.ref o1), .val (.ref o2), .val (.int (0 : Int32)), .val (.int (0 : Int32)), .val .null, .unset] [(.ref bb2), (.ref o1)])) (fun t k => st3 _ k) ?_
  obtain ⟨T4, h4, X4, e4, W4, st4⟩ := putF X3 hx hZ_2 hown_2 (host := "") (Or.inl (hw _ (List.mem_of_getElem? (i := 24) rfl))) Via.refl e3 F2_o1_value Ex2_o1 (Or.inr ⟨(hw _ (List.mem_of_getElem? (i := 20) rfl)), rfl, hnm⟩) (hw _ (List.mem_of_getElem? (i := 5) rfl)) (ty := (.array .byte)) (by decide) rfl rfl (g := (mkF m 14 #[.val (.ref o1), .val (.ref o2), .val (.int (0 : Int32)), .val (.int (0 : Int32)), .val .null, .unset] [(.ref bb2), (.ref o1)])) rfl rfl (hb hby own_d3_14)
  have N4 := Fr.snoc X4 N0 g1
  have Z0_4 : n0 ≤ h4.size := by rw [W4.size]; exact Z0_2
  have F4_w := F2_o1_value.same W4
  have Kc4 := Kc2.wr W4 (Or.inl (List.mem_of_getElem? (i := 0) rfl))
  have F4_o1_coder := F2_o1_coder.other W4 (Or.inr (slot_ne (Or.inr (hw _ (List.mem_of_getElem? (i := 21) rfl))) (Or.inr (hw _ (List.mem_of_getElem? (i := 20) rfl))) (by decide) (t := .byte) (t' := (.array .byte)) (by decide) (by decide)))
  have F4_a2_value := Fv2.other W4 (Or.inl (Ne.symm sn2.1))
  have F4_a2_coder := Fc2.other W4 (Or.inl (Ne.symm sn2.1))
  have Ex4_o1 := Ex2_o1.wr W4
  have Ex4_a2 := Ea2.wr W4
  have V4_bb2 := Vb2.other W4 (Ne.symm sn2.2)
  have kz_4 : kk2 ≤ h4.size := by rw [W4.size]; exact hk_2
  have Sf4_o1 := Safe.wr W4 Sf2_o1 Cr_2.1 Sf2_o1
  have Cr_4 := Cr_2.trans (CHr.wr W4 Sf2_o1 Cr_2.1)
  refine own_st (V := T4.setTop (mkF m 17 #[.val (.ref o1), .val (.ref o2), .val (.int (0 : Int32)), .val (.int (0 : Int32)), .val .null, .unset] [])) (fun t k => st4 _ k) ?_
  refine own_st (V := T4.setTop (mkF m 18 #[.val (.ref o1), .val (.ref o2), .val (.int (0 : Int32)), .val (.int (0 : Int32)), .val .null, .unset] [(.ref o1)])) (fun t k => XS.aloadN X4.here hx rfl (hb hby own_d3_17) rfl rfl k) ?_
  obtain ⟨a5, T5, h5, kk5, bb5, kb5, X5, e5, E5, hS_5, hk_5, hZ_5, hown_5, Ea5, Fc5, Fv5, Vb5, la5, lb5, Cs5, Lt5, Sa5, st5⟩ := ldcCH (s := s) (vm0 := T2.vm) X4 hx hZ_2 hown_2 (hw _ (List.mem_of_getElem? (i := 18) rfl)) (own_wS hw) e4 hS_2 kz_4 hEL (List.mem_of_getElem? (i := 0) rfl) Cr_4.1 (vs := []) (z := (0 : Int32)) ⟨fun c h => (by simp at h), rfl⟩ (by decide) rfl (g := (mkF m 18 #[.val (.ref o1), .val (.ref o2), .val (.int (0 : Int32)), .val (.int (0 : Int32)), .val .null, .unset] [(.ref o1)])) rfl (hb hby own_d3_18) (n := 0) (by decide) (by decide) (by decide) (by decide)
  have Kc5 := Kc4.ext E5
  have Z0_5 : n0 ≤ h5.size := Nat.le_trans Z0_4 E5.1
  have F5_o1_value := F4_w.ext E5
  have F5_o1_coder := F4_o1_coder.ext E5
  have F5_a2_value := F4_a2_value.ext E5
  have F5_a2_coder := F4_a2_coder.ext E5
  have Ex5_o1 := Ex4_o1.ext E5
  have Ex5_a2 := Ex4_a2.ext E5
  have V5_bb2 := V4_bb2.ext E5
  have Cr_5 := Cr_4.trans Cs5
  have Sf5_o1 := CHr.safe Cs5 Ex4_o1.lt Sf4_o1
  have sn5 := Sa5 o1 Sf5_o1
  refine own_st (V := T5.setTop (mkF m 20 #[.val (.ref o1), .val (.ref o2), .val (.int (0 : Int32)), .val (.int (0 : Int32)), .val .null, .unset] [(.ref a5), (.ref o1)])) (fun t k => st5 _ k) ?_
  obtain ⟨T6, X6, e6, st6⟩ := getF X5 hx hZ_5 hown_5 (host := "") (Or.inl (hw _ (List.mem_of_getElem? (i := 25) rfl))) Via.refl e5 Fc5 (g := (mkF m 20 #[.val (.ref o1), .val (.ref o2), .val (.int (0 : Int32)), .val (.int (0 : Int32)), .val .null, .unset] [(.ref a5), (.ref o1)])) rfl rfl (hb hby own_d3_20)
  refine own_st (V := T6.setTop (mkF m 23 #[.val (.ref o1), .val (.ref o2), .val (.int (0 : Int32)), .val (.int (0 : Int32)), .val .null, .unset] [(.int (0 : Int32)), (.ref o1)])) (fun t k => st6 _ k) ?_
  obtain ⟨T7, h7, X7, e7, W7, st7⟩ := putFN X6 hx hZ_5 hown_5 (hw _ (List.mem_of_getElem? (i := 25) rfl)) Via.refl e6 F5_o1_coder Ex5_o1 (Or.inr ⟨(hw _ (List.mem_of_getElem? (i := 21) rfl)), rfl, hnm⟩) (hw _ (List.mem_of_getElem? (i := 5) rfl)) (ty := .byte) (v' := (.int (0 : Int32))) (by decide) (by decide +kernel) (by decide +kernel) (g := (mkF m 23 #[.val (.ref o1), .val (.ref o2), .val (.int (0 : Int32)), .val (.int (0 : Int32)), .val .null, .unset] [(.int (0 : Int32)), (.ref o1)])) rfl rfl (hb hby own_d3_23)
  have N7 := Fr.snoc X7 N4 g1
  have Z0_7 : n0 ≤ h7.size := by rw [W7.size]; exact Z0_5
  have F7_w := F5_o1_coder.same W7
  have Kc7 := Kc5.wr W7 (Or.inl (List.mem_of_getElem? (i := 0) rfl))
  have F7_o1_value := F5_o1_value.other W7 (Or.inr (slot_ne (Or.inr (hw _ (List.mem_of_getElem? (i := 20) rfl))) (Or.inr (hw _ (List.mem_of_getElem? (i := 21) rfl))) (by decide) (t := (.array .byte)) (t' := .byte) (by decide) (by decide)))
  have F7_a2_value := F5_a2_value.other W7 (Or.inl (Ne.symm sn2.1))
  have F7_a2_coder := F5_a2_coder.other W7 (Or.inl (Ne.symm sn2.1))
  have F7_a5_value := Fv5.other W7 (Or.inl (Ne.symm sn5.1))
  have F7_a5_coder := Fc5.other W7 (Or.inl (Ne.symm sn5.1))
  have Ex7_o1 := Ex5_o1.wr W7
  have Ex7_a2 := Ex5_a2.wr W7
  have Ex7_a5 := Ea5.wr W7
  have V7_bb2 := V5_bb2.other W7 (Ne.symm sn2.2)
  have V7_bb5 := Vb5.other W7 (Ne.symm sn5.2)
  have kz_7 : kk5 ≤ h7.size := by rw [W7.size]; exact hk_5
  have Sf7_o1 := Safe.wr W7 Sf5_o1 Cr_5.1 Sf5_o1
  have Cr_7 := Cr_5.trans (CHr.wr W7 Sf5_o1 Cr_5.1)
  refine own_st (V := T7.setTop (mkF m 26 #[.val (.ref o1), .val (.ref o2), .val (.int (0 : Int32)), .val (.int (0 : Int32)), .val .null, .unset] [])) (fun t k => st7 _ k) ?_
  exact own_ret0H (s := s) hS_5 (by rw [e7]; exact kz_7) (by rw [hh, e7]; exact Cr_7) hZ_5 hEL X7 hx hlk Bd.returns (hb hby own_d3_26) (by decide) (by decide) (by show Q_own_s4_0 Z o1 o2 h0 n0 _ T7.heap _; rw [e7]; exact ⟨rfl, N7, Kc7, Ex7_o1, _, _, F7_o1_value, V7_bb2⟩)
def Q_own_s1_0 (Z : State) (o1 o2 : Addr) (k2 : ClassId) (h0 : Heap) (n0 : Nat) (v : Option Value) (h : Heap) (L : List Loc) : Prop := v = none ∧ Fr n0 L ∧ Keep h0 h [o1] ∧ Exa Z h o1 "java/lang/String" ∧ ∃ t k, Fld Z h o1 "java/lang/String" "value" "[B" (.ref t) ∧ Arv Z h t k .byte (0 : Int32) [] (.int (0 : Int32))
theorem own_d2_0 : decode jdk_42_method_3_code 0 = .ok (.aload_n 0, 1) := by decide +kernel
theorem own_d2_1 : decode jdk_42_method_3_code 1 = .ok (.aload_n 1, 1) := by decide +kernel
theorem own_d2_2 : decode jdk_42_method_3_code 2 = .ok (.iconst 0, 1) := by decide +kernel
theorem own_d2_3 : decode jdk_42_method_3_code 3 = .ok (.aload_n 1, 1) := by decide +kernel
theorem own_d2_4 : decode jdk_42_method_3_code 4 = .ok (.arraylength, 1) := by decide +kernel
theorem own_d2_5 : decode jdk_42_method_3_code 5 = .ok (.aconst_null, 1) := by decide +kernel
theorem own_d2_6 : decode jdk_42_method_3_code 6 = .ok (.invokespecial 27, 3) := by decide +kernel
theorem own_pd0 : parseMethodDescriptor "([CIILjava/lang/Void;)V" = some ⟨[(.array .char), .int, .int, (.object "java/lang/Void")], none⟩ := by decide +kernel
theorem own_d2_9 : decode jdk_42_method_3_code 9 = .ok (.return_, 1) := by decide +kernel
set_option maxRecDepth 65536 in
set_option maxHeartbeats 40000000 in
theorem own_s1_0 (l : Launch) (Z : State) (a0 : Array Value) (hw : ∀ d ∈ tables_1, d.before a0 Z = true) (ws : List Jvm.Cond) (o1 o2 : Addr) (k2 : ClassId) (h0 : Heap) (n0 : Nat) (Z0 : n0 ≤ h0.size) (E1 : Exa Z h0 o1 "java/lang/String") (g1 : n0 ≤ o1) (F1 : Fld Z h0 o1 "java/lang/String" "value" "[B" .null) (F2 : Fld Z h0 o1 "java/lang/String" "coder" "B" (.int (0 : Int32))) (V2 : Arv Z h0 o2 k2 .char (0 : Int32) [] (.int (0 : Int32))) (n21 : o2 ≠ o1) :
    MetFree l (⟨"java/lang/String", "<init>", "([C)V"⟩ : MethodName) (head1 (Jvm.Cond.code (⟨"java/lang/String", "<init>", "([C)V"⟩ : MethodName) jdk_42_method_3_code 2 none :: ws) ({ frames := 2, cells := 4, slots := 8, locals := 29 } : Room)) (fun a U => a = #[(.ref o1), (.ref o2)] ∧ Z.Warmed39 U.vm ∧ U.heap = h0 ∧ CHv Z own_EL U.vm h0) (fun _ _ _ _ _ => True) (fun _ U o U' => ∃ v L, o = .returned v ∧ Q_own_s1_0 Z o1 o2 k2 h0 n0 v U'.heap L ∧ CHr Z own_EL U.vm U.heap U'.vm U'.heap ∧ ReturnedEndW U o U' L ({ frames := 2, cells := 4, slots := 8, locals := 29 } : Room).cells ({ frames := 2, cells := 4, slots := 8, locals := 29 } : Room).slots) := by
  refine MetFree.of_bodySF (plainFor_of_name own_pn_java_lang_String) hisR ?_
  intro p e s m args below meth c s₁ Bd hml0 hP hK
  obtain ⟨rfl, hZ, hh, hC0⟩ := hP
  have hx := Bd.exec
  have hby := Bd.bytes
  have hml : c.maxLocals = 2 := hml0
  have hown : s.vm.findClass "java/lang/String" = some m.cls := findClass_of_methodNamed Bd.named
  have hnm := (name_of_methodNamed Bd.named Bd.method).1
  have hlk : meth.locks = false := BodyLoose.notSynchronized Bd
  have X0 : Stand p l e ({ frames := 2, cells := 4, slots := 8, locals := 29 } : Room) (s.setVm s.vm) m #[(.ref o1), (.ref o2)] below meth c s₁ [] 0 0 := Stand.of_body Bd
  have hZ : Z.Warmed39 (s.setVm s.vm).vm := hZ
  have hown : (s.setVm s.vm).vm.findClass "java/lang/String" = some m.cls := hown
  have hSi : s.Since s.vm 0 := (State.WarmedH.refl s).since 0
  have kz : 0 ≤ h0.size := Nat.zero_le _
  have hEL := own_ew hw
  have Cr : CHr Z own_EL s.vm h0 s.vm h0 := CHr.refl hC0
  have e0 : s₁.heap = h0 := by rw [← hh, Bd.state]; rfl
  have N0 := Fr.nil n0
  show own_Go p e below #[(.ref o1), (.ref o2)] s (fun _ U o U' => ∃ v L, o = .returned v ∧ Q_own_s1_0 Z o1 o2 k2 h0 n0 v U'.heap L ∧ CHr Z own_EL U.vm U.heap U'.vm U'.heap ∧ ReturnedEndW U o U' L ({ frames := 2, cells := 4, slots := 8, locals := 29 } : Room).cells ({ frames := 2, cells := 4, slots := 8, locals := 29 } : Room).slots) (s₁.setTop (entryFrame m #[(.ref o1), (.ref o2)] 2))
  refine own_st (V := s₁.setTop (mkF m 0 #[.val (.ref o1), .val (.ref o2)] [])) (fun t k => castTop (by first | (simp [entryFrame, mkF, argsToLocals, Value.category]; done) | rfl) k) ?_
  refine own_st (V := s₁.setTop (mkF m 1 #[.val (.ref o1), .val (.ref o2)] [(.ref o1)])) (fun t k => XS.aloadN X0.here hx rfl (hb hby own_d2_0) rfl rfl k) ?_
  refine own_st (V := s₁.setTop (mkF m 2 #[.val (.ref o1), .val (.ref o2)] [(.ref o2), (.ref o1)])) (fun t k => XS.aloadN X0.here hx rfl (hb hby own_d2_1) rfl rfl k) ?_
  refine own_st (V := s₁.setTop (mkF m 3 #[.val (.ref o1), .val (.ref o2)] [(.int (0 : Int32)), (.ref o2), (.ref o1)])) (fun t k => XS.iconst X0.here hx rfl (hb hby own_d2_2) k) ?_
  refine own_st (V := s₁.setTop (mkF m 4 #[.val (.ref o1), .val (.ref o2)] [(.ref o2), (.int (0 : Int32)), (.ref o2), (.ref o1)])) (fun t k => XS.aloadN X0.here hx rfl (hb hby own_d2_3) rfl rfl k) ?_
  have Vk8 := V2
  obtain ⟨cl8, Ar8, qk8, sz8, nn8, hs8, fs8⟩ := Vk8
  refine own_st (V := s₁.setTop (mkF m 5 #[.val (.ref o1), .val (.ref o2)] [(.int (0 : Int32)), (.int (0 : Int32)), (.ref o2), (.ref o1)])) (fun t k => X0.arraylength hx (by rw [e0]; exact Ar8.1) (State.isArrayOf_alike hZ.alike Ar8.2.1) (g := (mkF m 4 #[.val (.ref o1), .val (.ref o2)] [(.ref o2), (.int (0 : Int32)), (.ref o2), (.ref o1)])) rfl rfl (hb hby own_d2_4) _ (by rw [len_of sz8 nn8]; exact k)) ?_
  refine own_st (V := s₁.setTop (mkF m 6 #[.val (.ref o1), .val (.ref o2)] [.null, (.int (0 : Int32)), (.int (0 : Int32)), (.ref o2), (.ref o1)])) (fun t k => XS.aconstNull X0.here hx rfl (hb hby own_d2_5) k) ?_
  obtain ⟨_, _, ⟨T9, L9, k9, n9⟩, -, X9, hSi9, hgr9, ⟨Lc9, hQ9, l9, y9, z9, hCr9⟩, st9⟩ := X0.specialBackS hx (y := (⟨"java/lang/String", "<init>", "([CIILjava/lang/Void;)V"⟩ : MethodName)) rfl hown (mvT hZ (hw _ (List.mem_of_getElem? (i := 11) rfl))) (mvT hZ (hw _ (List.mem_of_getElem? (i := 12) rfl))) (mvT hZ (hw _ (List.mem_of_getElem? (i := 14) rfl))) (by decide) (backOfSH (s := s) (vm0 := s.vm) (W := 0) (own_s4_0 l Z a0 hw [] o1 o2 h0 n0 Z0 E1 g1 F1 F2 ) hZ (hw _ (List.mem_of_getElem? (i := 14) rfl)) (hw _ (List.mem_of_getElem? (i := 6) rfl)) (by decide) (by decide) hEL Cr.1) (g := (mkF m 6 #[.val (.ref o1), .val (.ref o2)] [.null, (.int (0 : Int32)), (.int (0 : Int32)), (.ref o2), (.ref o1)])) rfl (by rw [hml]; rfl) (Steps.refl _) (a := o1) (argsL := [(.ref o2), (.int (0 : Int32)), (.int (0 : Int32)), .null]) (rest := []) (lenOf own_pd0 rfl) rfl (by show 2 * 0 + _ ≤ _; exact Nat.le_of_eq rfl) (hb hby own_d2_6) (fun _ _ => ⟨rfl, e0, (by decide : 0 + 4 ≤ _), (by decide : 0 + 8 ≤ _)⟩)
  dsimp only [Pt.U, Pt.locs, Pt.cells, Pt.slots] at X9 l9 y9 z9 st9 hQ9
  subst l9 y9 z9
  dsimp only [Pt.U] at hSi9 hgr9 hCr9
  obtain ⟨rfl, N9q, K9, Ex9_q, t9, kbt9, Fq9_0, Vq9⟩ := hQ9
  have N9 := Fr.app N0 N9q
  have Z0_9 : n0 ≤ T9.heap.size := Nat.le_trans Z0 K9.1
  have Kc9 := (Keep.refl h0 [o1]).trans K9 (fun x hx => Or.inl (by cases List.mem_singleton.mp hx; exact List.mem_of_getElem? (i := 0) rfl))
  have Ex9_o1 := E1.keep K9
  have V9_o2 := V2.keep K9 (ninS n21 nin0)
  have kz_9 : 0 ≤ T9.heap.size := Nat.le_trans kz K9.1
  have hZ_9 : Z.Warmed39 (s.setVm T9.vm).vm := State.Warmed39.trans hZ hSi9.1
  have hown_9 : (s.setVm T9.vm).vm.findClass "java/lang/String" = some m.cls := by rw [show (s.setVm T9.vm).vm = T9.vm from rfl, hSi9.1.alike.findClass]; exact hown
  have hS_9 : s.Since T9.vm T9.heap.size := foldS (s := s) hSi (by rw [e0]; exact kz) hSi9 hgr9
  have X9 : Stand p l e _ (s.setVm T9.vm) m _ below meth c T9 _ _ _ := X9
  have kz_9 : T9.heap.size ≤ T9.heap.size := Nat.le_refl _
  have Cr_9 := Cr.trans hCr9
  refine own_st (V := T9.setTop (mkF m 9 #[.val (.ref o1), .val (.ref o2)] [])) (fun t k => st9.trans k) ?_
  exact own_ret0H (s := s) hS_9 kz_9 (by rw [hh]; exact Cr_9) hZ_9 hEL X9 hx hlk Bd.returns (hb hby own_d2_9) (by decide) (by decide) (by show Q_own_s1_0 Z o1 o2 k2 h0 n0 _ T9.heap _; exact ⟨rfl, N9, Kc9, Ex9_q, _, _, Fq9_0, Vq9⟩)
def Q_own_str0 (Z : State) (q1 q2 : Int32) (h0 : Heap) (n0 : Nat) (v : Option Value) (h : Heap) (L : List Loc) : Prop := ∃ b, v = some (.ref b) ∧ Fr n0 L ∧ Keep h0 h [] ∧ Exa Z h b "java/lang/String" ∧ ∃ t k vs, Fld Z h b "java/lang/String" "value" "[B" (.ref t) ∧ Arv Z h t k .byte (0 : Int32) vs (.int (0 : Int32))
theorem own_d1_0 : decode method_2_code 0 = .ok (.iload_n 0, 1) := by decide +kernel
theorem own_d1_1 : decode method_2_code 1 = .ok (.ifCond .ne 14, 3) := by decide +kernel
theorem own_d1_4 : decode method_2_code 4 = .ok (.new 7, 3) := by decide +kernel
theorem own_d1_7 : decode method_2_code 7 = .ok (.dup, 1) := by decide +kernel
theorem own_d1_8 : decode method_2_code 8 = .ok (.iconst 0, 1) := by decide +kernel
theorem own_d1_9 : decode method_2_code 9 = .ok (.newarray .char, 2) := by decide +kernel
theorem own_d1_11 : decode method_2_code 11 = .ok (.invokespecial 9, 3) := by decide +kernel
theorem own_pd1 : parseMethodDescriptor "([C)V" = some ⟨[(.array .char)], none⟩ := by decide +kernel
theorem own_d1_14 : decode method_2_code 14 = .ok (.areturn, 1) := by decide +kernel
theorem own_pn_com_example_tempora_tempora_core_IssueIsGivenPinLaw : plainName "com/example/tempora/tempora/core/IssueIsGivenPinLaw" = true := by first | (simp [plainName, overriddenIn]; done) | decide +kernel
set_option maxRecDepth 65536 in
set_option maxHeartbeats 40000000 in
theorem own_str0 (l : Launch) (Z : State) (a0 : Array Value) (hw : ∀ d ∈ tables_1, d.before a0 Z = true) (ws : List Jvm.Cond) (q1 q2 : Int32) (h0 : Heap) (n0 : Nat) (Z0 : n0 ≤ h0.size) :
    MetFree l (⟨"com/example/tempora/tempora/core/IssueIsGivenPinLaw", "str", "(III)Ljava/lang/String;"⟩ : MethodName) (head1 (Jvm.Cond.code (⟨"com/example/tempora/tempora/core/IssueIsGivenPinLaw", "str", "(III)Ljava/lang/String;"⟩ : MethodName) method_2_code 4 (some (.object "java/lang/String")) :: ws) ({ frames := 3, cells := 6, slots := 12, locals := 43 } : Room)) (fun a U => a = #[(.int (0 : Int32)), (.int q1), (.int q2)] ∧ Z.Warmed39 U.vm ∧ U.heap = h0 ∧ CHv Z own_EL U.vm h0) (fun _ _ _ _ _ => True) (fun _ U o U' => ∃ v L, o = .returned v ∧ Q_own_str0 Z q1 q2 h0 n0 v U'.heap L ∧ CHr Z own_EL U.vm U.heap U'.vm U'.heap ∧ ReturnedEndW U o U' L ({ frames := 3, cells := 6, slots := 12, locals := 43 } : Room).cells ({ frames := 3, cells := 6, slots := 12, locals := 43 } : Room).slots) := by
  refine MetFree.of_bodySF (plainFor_of_name own_pn_com_example_tempora_tempora_core_IssueIsGivenPinLaw) hisR ?_
  intro p e s m args below meth c s₁ Bd hml0 hP hK
  obtain ⟨rfl, hZ, hh, hC0⟩ := hP
  have hx := Bd.exec
  have hby := Bd.bytes
  have hml : c.maxLocals = 4 := hml0
  have hown : s.vm.findClass "com/example/tempora/tempora/core/IssueIsGivenPinLaw" = some m.cls := findClass_of_methodNamed Bd.named
  have hnm := (name_of_methodNamed Bd.named Bd.method).1
  have hlk : meth.locks = false := BodyLoose.notSynchronized Bd
  have X0 : Stand p l e ({ frames := 3, cells := 6, slots := 12, locals := 43 } : Room) (s.setVm s.vm) m #[(.int (0 : Int32)), (.int q1), (.int q2)] below meth c s₁ [] 0 0 := Stand.of_body Bd
  have hZ : Z.Warmed39 (s.setVm s.vm).vm := hZ
  have hown : (s.setVm s.vm).vm.findClass "com/example/tempora/tempora/core/IssueIsGivenPinLaw" = some m.cls := hown
  have hSi : s.Since s.vm 0 := (State.WarmedH.refl s).since 0
  have kz : 0 ≤ h0.size := Nat.zero_le _
  have hEL := own_ew hw
  have Cr : CHr Z own_EL s.vm h0 s.vm h0 := CHr.refl hC0
  have e0 : s₁.heap = h0 := by rw [← hh, Bd.state]; rfl
  have N0 := Fr.nil n0
  show own_Go p e below #[(.int (0 : Int32)), (.int q1), (.int q2)] s (fun _ U o U' => ∃ v L, o = .returned v ∧ Q_own_str0 Z q1 q2 h0 n0 v U'.heap L ∧ CHr Z own_EL U.vm U.heap U'.vm U'.heap ∧ ReturnedEndW U o U' L ({ frames := 3, cells := 6, slots := 12, locals := 43 } : Room).cells ({ frames := 3, cells := 6, slots := 12, locals := 43 } : Room).slots) (s₁.setTop (entryFrame m #[(.int (0 : Int32)), (.int q1), (.int q2)] 4))
  refine own_st (V := s₁.setTop (mkF m 0 #[.val (.int (0 : Int32)), .val (.int q1), .val (.int q2), .unset] [])) (fun t k => castTop (by first | (simp [entryFrame, mkF, argsToLocals, Value.category]; done) | rfl) k) ?_
  refine own_st (V := s₁.setTop (mkF m 1 #[.val (.int (0 : Int32)), .val (.int q1), .val (.int q2), .unset] [(.int (0 : Int32))])) (fun t k => XS.iloadN X0.here hx rfl (hb hby own_d1_0) rfl k) ?_
  refine own_st (V := s₁.setTop (mkF m 4 #[.val (.int (0 : Int32)), .val (.int q1), .val (.int q2), .unset] [])) (fun t k => XS.ifNo X0.here hx rfl (hb hby own_d1_1) rfl ((if0 _ _).trans (teq (by decide : (0 : Int32) = (0 : Int32))).2) k) ?_
  obtain ⟨T10, h10, X10, e10, E10, A10, D10, -, st10⟩ := newO X0 hx hZ hown (hw _ (List.mem_of_getElem? (i := 4) rfl)) (hw _ (List.mem_of_getElem? (i := 5) rfl)) (hw _ (List.mem_of_getElem? (i := 6) rfl)) e0 (g := (mkF m 4 #[.val (.int (0 : Int32)), .val (.int q1), .val (.int q2), .unset] [])) rfl (hb hby own_d1_4) (by decide) (by decide)
  obtain ⟨b10, g10⟩ : ∃ z, z = h0.size := ⟨_, rfl⟩
  rw [← g10] at A10 D10 st10
  have gb_b10 : n0 ≤ b10 := Nat.le_trans Z0 (Nat.le_of_eq g10.symm)
  have Z0_10 : n0 ≤ h10.size := Nat.le_trans Z0 E10.1
  have sz_b10 : h0.size ≤ b10 := Nat.le_trans (Keep.refl h0 []).1 (Nat.le_of_eq g10.symm)
  have Kc10 := (Keep.refl h0 []).ext E10
  have kz_10 : 0 ≤ h10.size := Nat.le_trans kz E10.1
  have Cr_10 := Cr.trans (CHr.ext E10 Cr.1)
  have F10_b10_value : Fld Z h10 b10 "java/lang/String" "value" "[B" .null := D10 (Or.inr (hw _ (List.mem_of_getElem? (i := 20) rfl))) (ty := (.array .byte)) (by decide)
  have F10_b10_coder : Fld Z h10 b10 "java/lang/String" "coder" "B" (.int (0 : Int32)) := D10 (Or.inr (hw _ (List.mem_of_getElem? (i := 21) rfl))) (ty := .byte) (by decide)
  refine own_st (V := T10.setTop (mkF m 7 #[.val (.int (0 : Int32)), .val (.int q1), .val (.int q2), .unset] [(.ref b10)])) (fun t k => st10 _ k) ?_
  refine own_st (V := T10.setTop (mkF m 8 #[.val (.int (0 : Int32)), .val (.int q1), .val (.int q2), .unset] [(.ref b10), (.ref b10)])) (fun t k => XS.dup X10.here hx rfl (hb hby own_d1_7) rfl rfl k) ?_
  refine own_st (V := T10.setTop (mkF m 9 #[.val (.int (0 : Int32)), .val (.int q1), .val (.int q2), .unset] [(.int (0 : Int32)), (.ref b10), (.ref b10)])) (fun t k => XS.iconst X10.here hx rfl (hb hby own_d1_8) k) ?_
  obtain ⟨T11, h11, k11, X11, e11, E11, A11, st11⟩ := newP X10 hx hZ (hw _ (List.mem_of_getElem? (i := 7) rfl)) e10 (g := (mkF m 9 #[.val (.int (0 : Int32)), .val (.int q1), .val (.int q2), .unset] [(.int (0 : Int32)), (.ref b10), (.ref b10)])) rfl (hb hby own_d1_9) rfl (by decide) (cap := 0) (by decide) (by decide) (by decide) (by decide)
  obtain ⟨b11, g11⟩ : ∃ z, z = h10.size := ⟨_, rfl⟩
  rw [← g11] at A11 st11
  have gb_b11 : n0 ≤ b11 := Nat.le_trans Z0_10 (Nat.le_of_eq g11.symm)
  have Z0_11 : n0 ≤ h11.size := Nat.le_trans Z0_10 E11.1
  have sz_b11 : h0.size ≤ b11 := Nat.le_trans Kc10.1 (Nat.le_of_eq g11.symm)
  have Kc11 := Kc10.ext E11
  have ne_b10_b11 : b10 ≠ b11 := Nat.ne_of_lt (Nat.lt_of_lt_of_le A10.lt (Nat.le_of_eq g11.symm))
  have F11_b10_value := F10_b10_value.ext E11
  have F11_b10_coder := F10_b10_coder.ext E11
  have Ex11_b10 := A10.ext E11
  have kz_11 : 0 ≤ h11.size := Nat.le_trans kz_10 E11.1
  have Cr_11 := Cr_10.trans (CHr.ext E11 Cr_10.1)
  have V11_b11 : Arv Z h11 b11 k11 .char (0 : Int32) [] (.int (0 : Int32)) := (Arv.new A11 (by decide)).pad (pad_rep [] (.int (0 : Int32)) 0)
  refine own_st (V := T11.setTop (mkF m 11 #[.val (.int (0 : Int32)), .val (.int q1), .val (.int q2), .unset] [(.ref b11), (.ref b10), (.ref b10)])) (fun t k => st11 _ k) ?_
  obtain ⟨_, _, ⟨T12, L12, k12, n12⟩, -, X12, hSi12, hgr12, ⟨Lc12, hQ12, l12, y12, z12, hCr12⟩, st12⟩ := X11.specialBackS hx (y := (⟨"java/lang/String", "<init>", "([C)V"⟩ : MethodName)) rfl hown (mvT hZ (hw _ (List.mem_of_getElem? (i := 8) rfl))) (mvT hZ (hw _ (List.mem_of_getElem? (i := 9) rfl))) (mvT hZ (hw _ (List.mem_of_getElem? (i := 10) rfl))) (by decide) (backOfSH (s := s) (vm0 := s.vm) (W := 1) (own_s1_0 l Z a0 hw [] b10 b11 k11 h11 n0 Z0_11 Ex11_b10 gb_b10 F11_b10_value F11_b10_coder V11_b11 (Ne.symm ne_b10_b11)) hZ (hw _ (List.mem_of_getElem? (i := 10) rfl)) (hw _ (List.mem_of_getElem? (i := 6) rfl)) (by decide) (by decide) hEL Cr_11.1) (g := (mkF m 11 #[.val (.int (0 : Int32)), .val (.int q1), .val (.int q2), .unset] [(.ref b11), (.ref b10), (.ref b10)])) rfl (by rw [hml]; rfl) (Steps.refl _) (a := b10) (argsL := [(.ref b11)]) (rest := [(.ref b10)]) (lenOf own_pd1 rfl) rfl (by show 2 * 0 + _ ≤ _; exact Nat.le_of_eq rfl) (hb hby own_d1_11) (fun _ _ => ⟨rfl, e11, (by decide : 2 + 4 ≤ _), (by decide : 4 + 8 ≤ _)⟩)
  dsimp only [Pt.U, Pt.locs, Pt.cells, Pt.slots] at X12 l12 y12 z12 st12 hQ12
  subst l12 y12 z12
  dsimp only [Pt.U] at hSi12 hgr12 hCr12
  obtain ⟨rfl, N12q, K12, Ex12_q, t12, kbt12, Fq12_0, Vq12⟩ := hQ12
  have N12 := Fr.app N0 N12q
  have Z0_12 : n0 ≤ T12.heap.size := Nat.le_trans Z0_11 K12.1
  have Kc12 := Kc11.trans K12 (fun x hx => Or.inr (by cases List.mem_singleton.mp hx; exact sz_b10))
  have Ex12_b10 := Ex11_b10.keep K12
  have V12_b11 := V11_b11.keep K12 (ninS (Ne.symm ne_b10_b11) nin0)
  have kz_12 : 0 ≤ T12.heap.size := Nat.le_trans kz_11 K12.1
  have hZ_12 : Z.Warmed39 (s.setVm T12.vm).vm := State.Warmed39.trans hZ hSi12.1
  have hown_12 : (s.setVm T12.vm).vm.findClass "com/example/tempora/tempora/core/IssueIsGivenPinLaw" = some m.cls := by rw [show (s.setVm T12.vm).vm = T12.vm from rfl, hSi12.1.alike.findClass]; exact hown
  have hS_12 : s.Since T12.vm T12.heap.size := foldS (s := s) hSi (by rw [e11]; exact kz_11) hSi12 hgr12
  have X12 : Stand p l e _ (s.setVm T12.vm) m _ below meth c T12 _ _ _ := X12
  have kz_12 : T12.heap.size ≤ T12.heap.size := Nat.le_refl _
  have Cr_12 := Cr_11.trans hCr12
  refine own_st (V := T12.setTop (mkF m 14 #[.val (.int (0 : Int32)), .val (.int q1), .val (.int q2), .unset] [(.ref b10)])) (fun t k => st12.trans k) ?_
  exact own_retH (s := s) hS_12 kz_12 (by rw [hh]; exact Cr_12) hZ_12 hEL X12 hx hlk Bd.returns rfl (Or.inr (Or.inr (Or.inr (Or.inr ⟨rfl, rfl, rfl⟩)))) (hb hby own_d1_14) (by decide) (by decide) (by show Q_own_str0 Z q1 q2 h0 n0 _ T12.heap _; exact ⟨_, rfl, N12, Kc12, Ex12_q, _, _, _, Fq12_0, Vq12⟩)
theorem own_ch2 (x : Int32) : ¬ ((255 : Int32) < (nar .char ((x &&& (255 : Int32)).toUInt32.toUInt16.toUInt32.toInt32))) := by
  show ¬ ((255 : Int32) < ((((x &&& (255 : Int32)).toUInt32.toUInt16.toUInt32.toInt32)).toUInt32.toUInt16.toUInt32.toInt32))
  rw [i2c_mask, i2c_mask]
  have h := c_mask x 255 8 (by decide) (by decide)
  have e : (255 : Int32).toInt = 255 := by decide
  rw [Int32.lt_iff_toInt_lt, e]; omega
def Q_own_c5_1 (Z : State) (o1 o2 : Addr) (k1 k2 : ClassId) (x1 : Int32) (h0 : Heap) (n0 : Nat) (v : Option Value) (h : Heap) (L : List Loc) : Prop := v = some (.int (1 : Int32)) ∧ Fr n0 L ∧ Keep h0 h [o2] ∧ ∃ vs, Arv Z h o2 k2 .byte (1 : Int32) vs (.int (0 : Int32))
theorem own_d10_0 : decode jdk_52_method_21_code 0 = .ok (.iconst 0, 1) := by decide +kernel
theorem own_d10_1 : decode jdk_52_method_21_code 1 = .ok (.istore 5, 2) := by decide +kernel
theorem own_d10_3 : decode jdk_52_method_21_code 3 = .ok (.iload 5, 2) := by decide +kernel
theorem own_d10_5 : decode jdk_52_method_21_code 5 = .ok (.iload 4, 2) := by decide +kernel
theorem own_d10_7 : decode jdk_52_method_21_code 7 = .ok (.if_icmp .ge 37, 3) := by decide +kernel
theorem own_d10_10 : decode jdk_52_method_21_code 10 = .ok (.aload_n 0, 1) := by decide +kernel
theorem own_d10_11 : decode jdk_52_method_21_code 11 = .ok (.iload_n 1, 1) := by decide +kernel
theorem own_d10_12 : decode jdk_52_method_21_code 12 = .ok (.caload, 1) := by decide +kernel
theorem own_d10_13 : decode jdk_52_method_21_code 13 = .ok (.istore 6, 2) := by decide +kernel
theorem own_d10_15 : decode jdk_52_method_21_code 15 = .ok (.iload 6, 2) := by decide +kernel
theorem own_d10_17 : decode jdk_52_method_21_code 17 = .ok (.sipush 255, 3) := by decide +kernel
theorem own_d10_20 : decode jdk_52_method_21_code 20 = .ok (.if_icmp .le 6, 3) := by decide +kernel
theorem own_d10_26 : decode jdk_52_method_21_code 26 = .ok (.aload_n 2, 1) := by decide +kernel
theorem own_d10_27 : decode jdk_52_method_21_code 27 = .ok (.iload_n 3, 1) := by decide +kernel
theorem own_d10_28 : decode jdk_52_method_21_code 28 = .ok (.iload 6, 2) := by decide +kernel
theorem own_d10_30 : decode jdk_52_method_21_code 30 = .ok (.i2b, 1) := by decide +kernel
theorem own_d10_31 : decode jdk_52_method_21_code 31 = .ok (.bastore, 1) := by decide +kernel
theorem own_d10_32 : decode jdk_52_method_21_code 32 = .ok (.iinc 1 1, 3) := by decide +kernel
theorem own_d10_35 : decode jdk_52_method_21_code 35 = .ok (.iinc 3 1, 3) := by decide +kernel
theorem own_d10_38 : decode jdk_52_method_21_code 38 = .ok (.iinc 5 1, 3) := by decide +kernel
theorem own_d10_41 : decode jdk_52_method_21_code 41 = .ok (.goto (-38), 3) := by decide +kernel
theorem own_d10_44 : decode jdk_52_method_21_code 44 = .ok (.iload 4, 2) := by decide +kernel
theorem own_d10_46 : decode jdk_52_method_21_code 46 = .ok (.ireturn, 1) := by decide +kernel
theorem own_pn_java_lang_StringUTF16 : plainName "java/lang/StringUTF16" = true := by first | (simp [plainName, overriddenIn]; done) | decide +kernel
set_option maxRecDepth 65536 in
set_option maxHeartbeats 40000000 in
theorem own_c5_1 (l : Launch) (Z : State) (a0 : Array Value) (hw : ∀ d ∈ tables_1, d.before a0 Z = true) (ws : List Jvm.Cond) (o1 o2 : Addr) (k1 k2 : ClassId) (x1 : Int32) (h0 : Heap) (n0 : Nat) (Z0 : n0 ≤ h0.size) (V1 : Arv Z h0 o1 k1 .char (1 : Int32) [(.int x1)] (.int (0 : Int32))) (V2 : Arv Z h0 o2 k2 .byte (1 : Int32) [(.int (0 : Int32))] (.int (0 : Int32))) (n12 : o1 ≠ o2) (g2 : n0 ≤ o2) (hx1 : ¬ ((255 : Int32) < x1)) :
    MetFree l (⟨"java/lang/StringUTF16", "compress", "([CI[BII)I"⟩ : MethodName) (head1 (Jvm.Cond.code (⟨"java/lang/StringUTF16", "compress", "([CI[BII)I"⟩ : MethodName) jdk_52_method_21_code 7 (some .int) :: ws) ({ frames := 0, cells := 0, slots := 0, locals := 0 } : Room)) (fun a U => a = #[(.ref o1), (.int (0 : Int32)), (.ref o2), (.int (0 : Int32)), (.int (1 : Int32))] ∧ Z.Warmed39 U.vm ∧ U.heap = h0) (fun _ _ _ _ _ => True) (fun _ U o U' => ∃ v L, o = .returned v ∧ Q_own_c5_1 Z o1 o2 k1 k2 x1 h0 n0 v U'.heap L ∧ FrameEnd U o U' L ({ frames := 0, cells := 0, slots := 0, locals := 0 } : Room).cells ({ frames := 0, cells := 0, slots := 0, locals := 0 } : Room).slots) := by
  refine MetFree.of_bodySF (plainFor_of_name own_pn_java_lang_StringUTF16) hisR ?_
  intro p e s m args below meth c s₁ Bd hml0 hP hK
  obtain ⟨rfl, hZ, hh⟩ := hP
  have hx := Bd.exec
  have hby := Bd.bytes
  have hml : c.maxLocals = 7 := hml0
  have hown : s.vm.findClass "java/lang/StringUTF16" = some m.cls := findClass_of_methodNamed Bd.named
  have hnm := (name_of_methodNamed Bd.named Bd.method).1
  have hlk : meth.locks = false := BodyLoose.notSynchronized Bd
  have X0 : Stand p l e ({ frames := 0, cells := 0, slots := 0, locals := 0 } : Room) s m #[(.ref o1), (.int (0 : Int32)), (.ref o2), (.int (0 : Int32)), (.int (1 : Int32))] below meth c s₁ [] 0 0 := Stand.of_body Bd
  have e0 : s₁.heap = h0 := by rw [← hh, Bd.state]; rfl
  have N0 := Fr.nil n0
  show own_Go p e below #[(.ref o1), (.int (0 : Int32)), (.ref o2), (.int (0 : Int32)), (.int (1 : Int32))] s (fun _ U o U' => ∃ v L, o = .returned v ∧ Q_own_c5_1 Z o1 o2 k1 k2 x1 h0 n0 v U'.heap L ∧ FrameEnd U o U' L ({ frames := 0, cells := 0, slots := 0, locals := 0 } : Room).cells ({ frames := 0, cells := 0, slots := 0, locals := 0 } : Room).slots) (s₁.setTop (entryFrame m #[(.ref o1), (.int (0 : Int32)), (.ref o2), (.int (0 : Int32)), (.int (1 : Int32))] 7))
  refine own_st (V := s₁.setTop (mkF m 0 #[.val (.ref o1), .val (.int (0 : Int32)), .val (.ref o2), .val (.int (0 : Int32)), .val (.int (1 : Int32)), .unset, .unset] [])) (fun t k => castTop (by first | (simp [entryFrame, mkF, argsToLocals, Value.category]; done) | rfl) k) ?_
  refine own_st (V := s₁.setTop (mkF m 1 #[.val (.ref o1), .val (.int (0 : Int32)), .val (.ref o2), .val (.int (0 : Int32)), .val (.int (1 : Int32)), .unset, .unset] [(.int (0 : Int32))])) (fun t k => XS.iconst X0.here hx rfl (hb hby own_d10_0) k) ?_
  refine own_st (V := s₁.setTop (mkF m 3 #[.val (.ref o1), .val (.int (0 : Int32)), .val (.ref o2), .val (.int (0 : Int32)), .val (.int (1 : Int32)), .val (.int (0 : Int32)), .unset] [])) (fun t k => XS.istore X0.here hx rfl (hb hby own_d10_1) rfl (l' := #[.val (.ref o1), .val (.int (0 : Int32)), .val (.ref o2), .val (.int (0 : Int32)), .val (.int (1 : Int32)), .val (.int (0 : Int32)), .unset]) rfl k) ?_
  refine own_st (V := s₁.setTop (mkF m 5 #[.val (.ref o1), .val (.int (0 : Int32)), .val (.ref o2), .val (.int (0 : Int32)), .val (.int (1 : Int32)), .val (.int (0 : Int32)), .unset] [(.int (0 : Int32))])) (fun t k => XS.iload X0.here hx rfl (hb hby own_d10_3) rfl k) ?_
  refine own_st (V := s₁.setTop (mkF m 7 #[.val (.ref o1), .val (.int (0 : Int32)), .val (.ref o2), .val (.int (0 : Int32)), .val (.int (1 : Int32)), .val (.int (0 : Int32)), .unset] [(.int (1 : Int32)), (.int (0 : Int32))])) (fun t k => XS.iload X0.here hx rfl (hb hby own_d10_5) rfl k) ?_
  refine own_st (V := s₁.setTop (mkF m 10 #[.val (.ref o1), .val (.int (0 : Int32)), .val (.ref o2), .val (.int (0 : Int32)), .val (.int (1 : Int32)), .val (.int (0 : Int32)), .unset] [])) (fun t k => XS.icmpNo X0.here hx rfl (hb hby own_d10_7) rfl (tlt (by decide : (0 : Int32) < (1 : Int32))).2.1 k) ?_
  refine own_st (V := s₁.setTop (mkF m 11 #[.val (.ref o1), .val (.int (0 : Int32)), .val (.ref o2), .val (.int (0 : Int32)), .val (.int (1 : Int32)), .val (.int (0 : Int32)), .unset] [(.ref o1)])) (fun t k => XS.aloadN X0.here hx rfl (hb hby own_d10_10) rfl rfl k) ?_
  refine own_st (V := s₁.setTop (mkF m 12 #[.val (.ref o1), .val (.int (0 : Int32)), .val (.ref o2), .val (.int (0 : Int32)), .val (.int (1 : Int32)), .val (.int (0 : Int32)), .unset] [(.int (0 : Int32)), (.ref o1)])) (fun t k => XS.iloadN X0.here hx rfl (hb hby own_d10_11) rfl k) ?_
  have Vk13 := V1
  obtain ⟨cl13, Ar13, qk13, sz13, nn13, hs13, fs13⟩ := Vk13
  have hin13 : ¬ ((0 : Int32) < 0 ∨ cl13.slots.size ≤ ((0 : Int32)).toNatClampNeg) := inb_of sz13 ⟨by decide, by decide⟩
  refine own_st (V := s₁.setTop (mkF m 13 #[.val (.ref o1), .val (.int (0 : Int32)), .val (.ref o2), .val (.int (0 : Int32)), .val (.int (1 : Int32)), .val (.int (0 : Int32)), .unset] [(.int x1)])) (fun t k => X0.caload hx (j := (0 : Int32)) (v := (.int x1)) (by rw [e0]; exact Ar13.1) (State.isArrayOf_alike hZ.alike Ar13.2.1) Ar13.2.2 hin13 (Has.at hs13 hin13 rfl) (g := (mkF m 12 #[.val (.ref o1), .val (.int (0 : Int32)), .val (.ref o2), .val (.int (0 : Int32)), .val (.int (1 : Int32)), .val (.int (0 : Int32)), .unset] [(.int (0 : Int32)), (.ref o1)])) rfl rfl (hb hby own_d10_12) _ k) ?_
  refine own_st (V := s₁.setTop (mkF m 15 #[.val (.ref o1), .val (.int (0 : Int32)), .val (.ref o2), .val (.int (0 : Int32)), .val (.int (1 : Int32)), .val (.int (0 : Int32)), .val (.int x1)] [])) (fun t k => XS.istore X0.here hx rfl (hb hby own_d10_13) rfl (l' := #[.val (.ref o1), .val (.int (0 : Int32)), .val (.ref o2), .val (.int (0 : Int32)), .val (.int (1 : Int32)), .val (.int (0 : Int32)), .val (.int x1)]) rfl k) ?_
  refine own_st (V := s₁.setTop (mkF m 17 #[.val (.ref o1), .val (.int (0 : Int32)), .val (.ref o2), .val (.int (0 : Int32)), .val (.int (1 : Int32)), .val (.int (0 : Int32)), .val (.int x1)] [(.int x1)])) (fun t k => XS.iload X0.here hx rfl (hb hby own_d10_15) rfl k) ?_
  refine own_st (V := s₁.setTop (mkF m 20 #[.val (.ref o1), .val (.int (0 : Int32)), .val (.ref o2), .val (.int (0 : Int32)), .val (.int (1 : Int32)), .val (.int (0 : Int32)), .val (.int x1)] [(.int (255 : Int32)), (.int x1)])) (fun t k => XS.sipush X0.here hx rfl (hb hby own_d10_17) k) ?_
  refine own_st (V := s₁.setTop (mkF m 26 #[.val (.ref o1), .val (.int (0 : Int32)), .val (.ref o2), .val (.int (0 : Int32)), .val (.int (1 : Int32)), .val (.int (0 : Int32)), .val (.int x1)] [])) (fun t k => XS.icmpYes X0.here hx rfl (pc0 := 20) (pc' := 26) rfl (hb hby own_d10_20) rfl (flt hx1).2.2.2 (by decide) (by decide) k) ?_
  refine own_st (V := s₁.setTop (mkF m 27 #[.val (.ref o1), .val (.int (0 : Int32)), .val (.ref o2), .val (.int (0 : Int32)), .val (.int (1 : Int32)), .val (.int (0 : Int32)), .val (.int x1)] [(.ref o2)])) (fun t k => XS.aloadN X0.here hx rfl (hb hby own_d10_26) rfl rfl k) ?_
  refine own_st (V := s₁.setTop (mkF m 28 #[.val (.ref o1), .val (.int (0 : Int32)), .val (.ref o2), .val (.int (0 : Int32)), .val (.int (1 : Int32)), .val (.int (0 : Int32)), .val (.int x1)] [(.int (0 : Int32)), (.ref o2)])) (fun t k => XS.iloadN X0.here hx rfl (hb hby own_d10_27) rfl k) ?_
  refine own_st (V := s₁.setTop (mkF m 30 #[.val (.ref o1), .val (.int (0 : Int32)), .val (.ref o2), .val (.int (0 : Int32)), .val (.int (1 : Int32)), .val (.int (0 : Int32)), .val (.int x1)] [(.int x1), (.int (0 : Int32)), (.ref o2)])) (fun t k => XS.iload X0.here hx rfl (hb hby own_d10_28) rfl k) ?_
  refine own_st (V := s₁.setTop (mkF m 31 #[.val (.ref o1), .val (.int (0 : Int32)), .val (.ref o2), .val (.int (0 : Int32)), .val (.int (1 : Int32)), .val (.int (0 : Int32)), .val (.int x1)] [(.int (x1.toInt8.toInt32)), (.int (0 : Int32)), (.ref o2)])) (fun t k => XS.i2b X0.here hx rfl (hb hby own_d10_30) rfl k) ?_
  have Vk14 := V2
  obtain ⟨cl14, Ar14, qk14, sz14, nn14, hs14, fs14⟩ := Vk14
  have hin14 : ¬ ((0 : Int32) < 0 ∨ cl14.slots.size ≤ ((0 : Int32)).toNatClampNeg) := inb_of sz14 ⟨by decide, by decide⟩
  obtain ⟨T14, h14, X14, e14, W14, st14⟩ := stB X0 hx hZ e0 Ar14 (j := (0 : Int32)) hin14 (g := (mkF m 31 #[.val (.ref o1), .val (.int (0 : Int32)), .val (.ref o2), .val (.int (0 : Int32)), .val (.int (1 : Int32)), .val (.int (0 : Int32)), .val (.int x1)] [(.int (x1.toInt8.toInt32)), (.int (0 : Int32)), (.ref o2)])) rfl rfl (hb hby own_d10_31)
  have V14_o2 := Arv.set Ar14 qk14 sz14 nn14 hs14 fs14 (fits_nar_byte _) W14 0 rfl (Nat.le_of_ble_eq_true rfl)
  have N14 := Fr.snoc X14 N0 g2
  have Z0_14 : n0 ≤ h14.size := by rw [W14.size]; exact Z0
  have Kc14 := (Keep.refl h0 [o2]).wr W14 (Or.inl (List.mem_of_getElem? (i := 0) rfl))
  have V14_o1 := V1.other W14 n12
  refine own_st (V := T14.setTop (mkF m 32 #[.val (.ref o1), .val (.int (0 : Int32)), .val (.ref o2), .val (.int (0 : Int32)), .val (.int (1 : Int32)), .val (.int (0 : Int32)), .val (.int x1)] [])) (fun t k => st14 _ k) ?_
  refine own_st (V := T14.setTop (mkF m 35 #[.val (.ref o1), .val (.int ((0 : Int32) + (1 : Int32))), .val (.ref o2), .val (.int (0 : Int32)), .val (.int (1 : Int32)), .val (.int (0 : Int32)), .val (.int x1)] [])) (fun t k => XS.iinc X14.here hx rfl (hb hby own_d10_32) rfl (l' := #[.val (.ref o1), .val (.int ((0 : Int32) + (1 : Int32))), .val (.ref o2), .val (.int (0 : Int32)), .val (.int (1 : Int32)), .val (.int (0 : Int32)), .val (.int x1)]) rfl k) ?_
  rw [show ((0 : Int32) + (1 : Int32)) = (1 : Int32) from by decide +kernel]
  refine own_st (V := T14.setTop (mkF m 38 #[.val (.ref o1), .val (.int (1 : Int32)), .val (.ref o2), .val (.int ((0 : Int32) + (1 : Int32))), .val (.int (1 : Int32)), .val (.int (0 : Int32)), .val (.int x1)] [])) (fun t k => XS.iinc X14.here hx rfl (hb hby own_d10_35) rfl (l' := #[.val (.ref o1), .val (.int (1 : Int32)), .val (.ref o2), .val (.int ((0 : Int32) + (1 : Int32))), .val (.int (1 : Int32)), .val (.int (0 : Int32)), .val (.int x1)]) rfl k) ?_
  rw [show ((0 : Int32) + (1 : Int32)) = (1 : Int32) from by decide +kernel]
  refine own_st (V := T14.setTop (mkF m 41 #[.val (.ref o1), .val (.int (1 : Int32)), .val (.ref o2), .val (.int (1 : Int32)), .val (.int (1 : Int32)), .val (.int ((0 : Int32) + (1 : Int32))), .val (.int x1)] [])) (fun t k => XS.iinc X14.here hx rfl (hb hby own_d10_38) rfl (l' := #[.val (.ref o1), .val (.int (1 : Int32)), .val (.ref o2), .val (.int (1 : Int32)), .val (.int (1 : Int32)), .val (.int ((0 : Int32) + (1 : Int32))), .val (.int x1)]) rfl k) ?_
  rw [show ((0 : Int32) + (1 : Int32)) = (1 : Int32) from by decide +kernel]
  refine own_st (V := T14.setTop (mkF m 3 #[.val (.ref o1), .val (.int (1 : Int32)), .val (.ref o2), .val (.int (1 : Int32)), .val (.int (1 : Int32)), .val (.int (1 : Int32)), .val (.int x1)] [])) (fun t k => XS.goto X14.here hx rfl (pc0 := 41) (pc' := 3) rfl (hb hby own_d10_41) (by decide) (by decide) k) ?_
  refine own_st (V := T14.setTop (mkF m 5 #[.val (.ref o1), .val (.int (1 : Int32)), .val (.ref o2), .val (.int (1 : Int32)), .val (.int (1 : Int32)), .val (.int (1 : Int32)), .val (.int x1)] [(.int (1 : Int32))])) (fun t k => XS.iload X14.here hx rfl (hb hby own_d10_3) rfl k) ?_
  refine own_st (V := T14.setTop (mkF m 7 #[.val (.ref o1), .val (.int (1 : Int32)), .val (.ref o2), .val (.int (1 : Int32)), .val (.int (1 : Int32)), .val (.int (1 : Int32)), .val (.int x1)] [(.int (1 : Int32)), (.int (1 : Int32))])) (fun t k => XS.iload X14.here hx rfl (hb hby own_d10_5) rfl k) ?_
  refine own_st (V := T14.setTop (mkF m 44 #[.val (.ref o1), .val (.int (1 : Int32)), .val (.ref o2), .val (.int (1 : Int32)), .val (.int (1 : Int32)), .val (.int (1 : Int32)), .val (.int x1)] [])) (fun t k => XS.icmpYes X14.here hx rfl (pc0 := 7) (pc' := 44) rfl (hb hby own_d10_7) rfl (flt (by decide : ¬ ((1 : Int32) < (1 : Int32)))).2.1 (by decide) (by decide) k) ?_
  refine own_st (V := T14.setTop (mkF m 46 #[.val (.ref o1), .val (.int (1 : Int32)), .val (.ref o2), .val (.int (1 : Int32)), .val (.int (1 : Int32)), .val (.int (1 : Int32)), .val (.int x1)] [(.int (1 : Int32))])) (fun t k => XS.iload X14.here hx rfl (hb hby own_d10_44) rfl k) ?_
  exact own_ret X14 hx hlk Bd.returns rfl (Or.inl ⟨rfl, by simp, _, rfl⟩) (hb hby own_d10_46) (by decide) (by decide) (by show Q_own_c5_1 Z o1 o2 k1 k2 x1 h0 n0 _ T14.heap _; rw [e14]; exact ⟨rfl, N14, Kc14, _, V14_o2⟩)
def Q_own_c3_1 (Z : State) (o1 : Addr) (k1 : ClassId) (x1 : Int32) (h0 : Heap) (n0 : Nat) (v : Option Value) (h : Heap) (L : List Loc) : Prop := ∃ b, v = some (.ref b) ∧ Fr n0 L ∧ Keep h0 h [] ∧ h0.size ≤ b ∧ n0 ≤ b ∧ ∃ k2 vs, Arv Z h b k2 .byte (1 : Int32) vs (.int (0 : Int32))
theorem own_d9_0 : decode jdk_52_method_16_code 0 = .ok (.iload_n 2, 1) := by decide +kernel
theorem own_d9_1 : decode jdk_52_method_16_code 1 = .ok (.newarray .byte, 2) := by decide +kernel
theorem own_d9_3 : decode jdk_52_method_16_code 3 = .ok (.astore_n 3, 1) := by decide +kernel
theorem own_d9_4 : decode jdk_52_method_16_code 4 = .ok (.aload_n 0, 1) := by decide +kernel
theorem own_d9_5 : decode jdk_52_method_16_code 5 = .ok (.iload_n 1, 1) := by decide +kernel
theorem own_d9_6 : decode jdk_52_method_16_code 6 = .ok (.aload_n 3, 1) := by decide +kernel
theorem own_d9_7 : decode jdk_52_method_16_code 7 = .ok (.iconst 0, 1) := by decide +kernel
theorem own_d9_8 : decode jdk_52_method_16_code 8 = .ok (.iload_n 2, 1) := by decide +kernel
theorem own_d9_9 : decode jdk_52_method_16_code 9 = .ok (.invokestatic 115, 3) := by decide +kernel
theorem own_pd2 : parseMethodDescriptor "([CI[BII)I" = some ⟨[(.array .char), .int, (.array .byte), .int, .int], some .int⟩ := by decide +kernel
theorem own_d9_12 : decode jdk_52_method_16_code 12 = .ok (.istore 4, 2) := by decide +kernel
theorem own_d9_14 : decode jdk_52_method_16_code 14 = .ok (.iload 4, 2) := by decide +kernel
theorem own_d9_16 : decode jdk_52_method_16_code 16 = .ok (.iload_n 2, 1) := by decide +kernel
theorem own_d9_17 : decode jdk_52_method_16_code 17 = .ok (.if_icmp .eq 40, 3) := by decide +kernel
theorem own_d9_57 : decode jdk_52_method_16_code 57 = .ok (.aload_n 3, 1) := by decide +kernel
theorem own_d9_58 : decode jdk_52_method_16_code 58 = .ok (.areturn, 1) := by decide +kernel
set_option maxRecDepth 65536 in
set_option maxHeartbeats 40000000 in
theorem own_c3_1 (l : Launch) (Z : State) (a0 : Array Value) (hw : ∀ d ∈ tables_1, d.before a0 Z = true) (ws : List Jvm.Cond) (o1 : Addr) (k1 : ClassId) (x1 : Int32) (h0 : Heap) (n0 : Nat) (Z0 : n0 ≤ h0.size) (V1 : Arv Z h0 o1 k1 .char (1 : Int32) [(.int x1)] (.int (0 : Int32))) (hx1 : ¬ ((255 : Int32) < x1)) :
    MetFree l (⟨"java/lang/StringUTF16", "compress", "([CII)[B"⟩ : MethodName) (head1 (Jvm.Cond.code (⟨"java/lang/StringUTF16", "compress", "([CII)[B"⟩ : MethodName) jdk_52_method_16_code 6 (some (.array .byte)) :: ws) ({ frames := 1, cells := 1, slots := 1, locals := 18 } : Room)) (fun a U => a = #[(.ref o1), (.int (0 : Int32)), (.int (1 : Int32))] ∧ Z.Warmed39 U.vm ∧ U.heap = h0) (fun _ _ _ _ _ => True) (fun _ U o U' => ∃ v L, o = .returned v ∧ Q_own_c3_1 Z o1 k1 x1 h0 n0 v U'.heap L ∧ FrameEnd U o U' L ({ frames := 1, cells := 1, slots := 1, locals := 18 } : Room).cells ({ frames := 1, cells := 1, slots := 1, locals := 18 } : Room).slots) := by
  refine MetFree.of_bodySF (plainFor_of_name own_pn_java_lang_StringUTF16) hisR ?_
  intro p e s m args below meth c s₁ Bd hml0 hP hK
  obtain ⟨rfl, hZ, hh⟩ := hP
  have hx := Bd.exec
  have hby := Bd.bytes
  have hml : c.maxLocals = 6 := hml0
  have hown : s.vm.findClass "java/lang/StringUTF16" = some m.cls := findClass_of_methodNamed Bd.named
  have hnm := (name_of_methodNamed Bd.named Bd.method).1
  have hlk : meth.locks = false := BodyLoose.notSynchronized Bd
  have X0 : Stand p l e ({ frames := 1, cells := 1, slots := 1, locals := 18 } : Room) s m #[(.ref o1), (.int (0 : Int32)), (.int (1 : Int32))] below meth c s₁ [] 0 0 := Stand.of_body Bd
  have e0 : s₁.heap = h0 := by rw [← hh, Bd.state]; rfl
  have N0 := Fr.nil n0
  show own_Go p e below #[(.ref o1), (.int (0 : Int32)), (.int (1 : Int32))] s (fun _ U o U' => ∃ v L, o = .returned v ∧ Q_own_c3_1 Z o1 k1 x1 h0 n0 v U'.heap L ∧ FrameEnd U o U' L ({ frames := 1, cells := 1, slots := 1, locals := 18 } : Room).cells ({ frames := 1, cells := 1, slots := 1, locals := 18 } : Room).slots) (s₁.setTop (entryFrame m #[(.ref o1), (.int (0 : Int32)), (.int (1 : Int32))] 6))
  refine own_st (V := s₁.setTop (mkF m 0 #[.val (.ref o1), .val (.int (0 : Int32)), .val (.int (1 : Int32)), .unset, .unset, .unset] [])) (fun t k => castTop (by first | (simp [entryFrame, mkF, argsToLocals, Value.category]; done) | rfl) k) ?_
  refine own_st (V := s₁.setTop (mkF m 1 #[.val (.ref o1), .val (.int (0 : Int32)), .val (.int (1 : Int32)), .unset, .unset, .unset] [(.int (1 : Int32))])) (fun t k => XS.iloadN X0.here hx rfl (hb hby own_d9_0) rfl k) ?_
  obtain ⟨T15, h15, k15, X15, e15, E15, A15, st15⟩ := newP X0 hx hZ (hw _ (List.mem_of_getElem? (i := 19) rfl)) e0 (g := (mkF m 1 #[.val (.ref o1), .val (.int (0 : Int32)), .val (.int (1 : Int32)), .unset, .unset, .unset] [(.int (1 : Int32))])) rfl (hb hby own_d9_1) rfl (by decide) (cap := 1) (by decide) (by decide) (by decide) (by decide)
  obtain ⟨b15, g15⟩ : ∃ z, z = h0.size := ⟨_, rfl⟩
  rw [← g15] at A15 st15
  have gb_b15 : n0 ≤ b15 := Nat.le_trans Z0 (Nat.le_of_eq g15.symm)
  have Z0_15 : n0 ≤ h15.size := Nat.le_trans Z0 E15.1
  have sz_b15 : h0.size ≤ b15 := Nat.le_trans (Keep.refl h0 []).1 (Nat.le_of_eq g15.symm)
  have Kc15 := (Keep.refl h0 []).ext E15
  have ne_o1_b15 : o1 ≠ b15 := Nat.ne_of_lt (Nat.lt_of_lt_of_le V1.lt (Nat.le_of_eq g15.symm))
  have V15_o1 := V1.ext E15
  have V15_b15 : Arv Z h15 b15 k15 .byte (1 : Int32) [(.int (0 : Int32))] (.int (0 : Int32)) := (Arv.new A15 (by decide)).pad (pad_rep [] (.int (0 : Int32)) 1)
  refine own_st (V := T15.setTop (mkF m 3 #[.val (.ref o1), .val (.int (0 : Int32)), .val (.int (1 : Int32)), .unset, .unset, .unset] [(.ref b15)])) (fun t k => st15 _ k) ?_
  refine own_st (V := T15.setTop (mkF m 4 #[.val (.ref o1), .val (.int (0 : Int32)), .val (.int (1 : Int32)), .val (.ref b15), .unset, .unset] [])) (fun t k => XS.astoreN X15.here hx rfl (hb hby own_d9_3) rfl rfl (l' := #[.val (.ref o1), .val (.int (0 : Int32)), .val (.int (1 : Int32)), .val (.ref b15), .unset, .unset]) rfl k) ?_
  refine own_st (V := T15.setTop (mkF m 5 #[.val (.ref o1), .val (.int (0 : Int32)), .val (.int (1 : Int32)), .val (.ref b15), .unset, .unset] [(.ref o1)])) (fun t k => XS.aloadN X15.here hx rfl (hb hby own_d9_4) rfl rfl k) ?_
  refine own_st (V := T15.setTop (mkF m 6 #[.val (.ref o1), .val (.int (0 : Int32)), .val (.int (1 : Int32)), .val (.ref b15), .unset, .unset] [(.int (0 : Int32)), (.ref o1)])) (fun t k => XS.iloadN X15.here hx rfl (hb hby own_d9_5) rfl k) ?_
  refine own_st (V := T15.setTop (mkF m 7 #[.val (.ref o1), .val (.int (0 : Int32)), .val (.int (1 : Int32)), .val (.ref b15), .unset, .unset] [(.ref b15), (.int (0 : Int32)), (.ref o1)])) (fun t k => XS.aloadN X15.here hx rfl (hb hby own_d9_6) rfl rfl k) ?_
  refine own_st (V := T15.setTop (mkF m 8 #[.val (.ref o1), .val (.int (0 : Int32)), .val (.int (1 : Int32)), .val (.ref b15), .unset, .unset] [(.int (0 : Int32)), (.ref b15), (.int (0 : Int32)), (.ref o1)])) (fun t k => XS.iconst X15.here hx rfl (hb hby own_d9_7) k) ?_
  refine own_st (V := T15.setTop (mkF m 9 #[.val (.ref o1), .val (.int (0 : Int32)), .val (.int (1 : Int32)), .val (.ref b15), .unset, .unset] [(.int (1 : Int32)), (.int (0 : Int32)), (.ref b15), (.int (0 : Int32)), (.ref o1)])) (fun t k => XS.iloadN X15.here hx rfl (hb hby own_d9_8) rfl k) ?_
  obtain ⟨_, _, ⟨T16, L16, k16, n16⟩, -, X16, ⟨Lc16, hQ16, l16, y16, z16⟩, st16⟩ := Jvm.LawKit.callS X15 hx (y := (⟨"java/lang/StringUTF16", "compress", "([CI[BII)I"⟩ : MethodName)) hown (mvT hZ (hw _ (List.mem_of_getElem? (i := 57) rfl))) (mvT hZ (hw _ (List.mem_of_getElem? (i := 58) rfl))) (mvT hZ (hw _ (List.mem_of_getElem? (i := 55) rfl))) (mvT hZ (hw _ (List.mem_of_getElem? (i := 59) rfl))) (by decide) (backOf (W := 0) (own_c5_1 l Z a0 hw [] o1 b15 k1 k15 x1 h15 n0 Z0_15 V15_o1 V15_b15 ne_o1_b15 gb_b15 hx1) hZ (hw _ (List.mem_of_getElem? (i := 59) rfl)) (hw _ (List.mem_of_getElem? (i := 55) rfl)) (by decide) (by decide)) (g := (mkF m 9 #[.val (.ref o1), .val (.int (0 : Int32)), .val (.int (1 : Int32)), .val (.ref b15), .unset, .unset] [(.int (1 : Int32)), (.int (0 : Int32)), (.ref b15), (.int (0 : Int32)), (.ref o1)])) rfl (by rw [hml]; rfl) (argsL := [(.ref o1), (.int (0 : Int32)), (.ref b15), (.int (0 : Int32)), (.int (1 : Int32))]) (rest := []) (lenOf own_pd2 rfl) rfl (by show 2 * 0 + _ ≤ _; exact Nat.le_of_eq rfl) (hb hby own_d9_9) (fun _ _ => ⟨rfl, e15, (by decide : 1 + 0 ≤ _), (by decide : 1 + 0 ≤ _)⟩)
  dsimp only [Pt.U, Pt.locs, Pt.cells, Pt.slots] at X16 l16 y16 z16 st16 hQ16
  subst l16 y16 z16
  obtain ⟨rfl, N16q, K16, vs16, Vq16⟩ := hQ16
  have N16 := Fr.app N0 N16q
  have Z0_16 : n0 ≤ T16.heap.size := Nat.le_trans Z0_15 K16.1
  have Kc16 := Kc15.trans K16 (fun x hx => Or.inr (by cases List.mem_singleton.mp hx; exact sz_b15))
  have V16_o1 := V15_o1.keep K16 (ninS ne_o1_b15 nin0)
  refine own_st (V := T16.setTop (mkF m 12 #[.val (.ref o1), .val (.int (0 : Int32)), .val (.int (1 : Int32)), .val (.ref b15), .unset, .unset] [(.int (1 : Int32))])) (fun t k => st16 _ k) ?_
  refine own_st (V := T16.setTop (mkF m 14 #[.val (.ref o1), .val (.int (0 : Int32)), .val (.int (1 : Int32)), .val (.ref b15), .val (.int (1 : Int32)), .unset] [])) (fun t k => XS.istore X16.here hx rfl (hb hby own_d9_12) rfl (l' := #[.val (.ref o1), .val (.int (0 : Int32)), .val (.int (1 : Int32)), .val (.ref b15), .val (.int (1 : Int32)), .unset]) rfl k) ?_
  refine own_st (V := T16.setTop (mkF m 16 #[.val (.ref o1), .val (.int (0 : Int32)), .val (.int (1 : Int32)), .val (.ref b15), .val (.int (1 : Int32)), .unset] [(.int (1 : Int32))])) (fun t k => XS.iload X16.here hx rfl (hb hby own_d9_14) rfl k) ?_
  refine own_st (V := T16.setTop (mkF m 17 #[.val (.ref o1), .val (.int (0 : Int32)), .val (.int (1 : Int32)), .val (.ref b15), .val (.int (1 : Int32)), .unset] [(.int (1 : Int32)), (.int (1 : Int32))])) (fun t k => XS.iloadN X16.here hx rfl (hb hby own_d9_16) rfl k) ?_
  refine own_st (V := T16.setTop (mkF m 57 #[.val (.ref o1), .val (.int (0 : Int32)), .val (.int (1 : Int32)), .val (.ref b15), .val (.int (1 : Int32)), .unset] [])) (fun t k => XS.icmpYes X16.here hx rfl (pc0 := 17) (pc' := 57) rfl (hb hby own_d9_17) rfl (teq (by decide : (1 : Int32) = (1 : Int32))).1 (by decide) (by decide) k) ?_
  refine own_st (V := T16.setTop (mkF m 58 #[.val (.ref o1), .val (.int (0 : Int32)), .val (.int (1 : Int32)), .val (.ref b15), .val (.int (1 : Int32)), .unset] [(.ref b15)])) (fun t k => XS.aloadN X16.here hx rfl (hb hby own_d9_57) rfl rfl k) ?_
  exact own_ret X16 hx hlk Bd.returns rfl (Or.inr (Or.inr (Or.inr (Or.inr ⟨rfl, rfl, rfl⟩)))) (hb hby own_d9_58) (by decide) (by decide) (by show Q_own_c3_1 Z o1 k1 x1 h0 n0 _ T16.heap _; exact ⟨_, rfl, N16, Kc16, sz_b15, gb_b15, _, _, Vq16⟩)
def Q_own_cf_1 (Z : State) (o1 : Addr) (k1 : ClassId) (vs : List Value) (h0 : Heap) (n0 : Nat) (v : Option Value) (h : Heap) (L : List Loc) : Prop := v = some (.int (0 : Int32)) ∧ Fr n0 L ∧ h = h0
theorem own_d11_0 : decode jdk_52_method_15_code 0 = .ok (.iload_n 1, 1) := by decide +kernel
theorem own_d11_1 : decode jdk_52_method_15_code 1 = .ok (.aload_n 0, 1) := by decide +kernel
theorem own_d11_2 : decode jdk_52_method_15_code 2 = .ok (.arraylength, 1) := by decide +kernel
theorem own_d11_3 : decode jdk_52_method_15_code 3 = .ok (.isub, 1) := by decide +kernel
theorem own_d11_4 : decode jdk_52_method_15_code 4 = .ok (.bipush 31, 2) := by decide +kernel
theorem own_d11_6 : decode jdk_52_method_15_code 6 = .ok (.iushr, 1) := by decide +kernel
theorem own_d11_7 : decode jdk_52_method_15_code 7 = .ok (.i2b, 1) := by decide +kernel
theorem own_d11_8 : decode jdk_52_method_15_code 8 = .ok (.ireturn, 1) := by decide +kernel
set_option maxRecDepth 65536 in
set_option maxHeartbeats 40000000 in
theorem own_cf_1 (l : Launch) (Z : State) (a0 : Array Value) (hw : ∀ d ∈ tables_1, d.before a0 Z = true) (ws : List Jvm.Cond) (o1 : Addr) (k1 : ClassId) (vs : List Value) (h0 : Heap) (n0 : Nat) (Z0 : n0 ≤ h0.size) (V1 : Arv Z h0 o1 k1 .byte (1 : Int32) vs (.int (0 : Int32))) :
    MetFree l (⟨"java/lang/StringUTF16", "coderFromArrayLen", "([BI)B"⟩ : MethodName) (head1 (Jvm.Cond.code (⟨"java/lang/StringUTF16", "coderFromArrayLen", "([BI)B"⟩ : MethodName) jdk_52_method_15_code 2 (some .byte) :: ws) ({ frames := 0, cells := 0, slots := 0, locals := 0 } : Room)) (fun a U => a = #[(.ref o1), (.int (1 : Int32))] ∧ Z.Warmed39 U.vm ∧ U.heap = h0) (fun _ _ _ _ _ => True) (fun _ U o U' => ∃ v L, o = .returned v ∧ Q_own_cf_1 Z o1 k1 vs h0 n0 v U'.heap L ∧ FrameEnd U o U' L ({ frames := 0, cells := 0, slots := 0, locals := 0 } : Room).cells ({ frames := 0, cells := 0, slots := 0, locals := 0 } : Room).slots) := by
  refine MetFree.of_bodySF (plainFor_of_name own_pn_java_lang_StringUTF16) hisR ?_
  intro p e s m args below meth c s₁ Bd hml0 hP hK
  obtain ⟨rfl, hZ, hh⟩ := hP
  have hx := Bd.exec
  have hby := Bd.bytes
  have hml : c.maxLocals = 2 := hml0
  have hown : s.vm.findClass "java/lang/StringUTF16" = some m.cls := findClass_of_methodNamed Bd.named
  have hnm := (name_of_methodNamed Bd.named Bd.method).1
  have hlk : meth.locks = false := BodyLoose.notSynchronized Bd
  have X0 : Stand p l e ({ frames := 0, cells := 0, slots := 0, locals := 0 } : Room) s m #[(.ref o1), (.int (1 : Int32))] below meth c s₁ [] 0 0 := Stand.of_body Bd
  have e0 : s₁.heap = h0 := by rw [← hh, Bd.state]; rfl
  have N0 := Fr.nil n0
  show own_Go p e below #[(.ref o1), (.int (1 : Int32))] s (fun _ U o U' => ∃ v L, o = .returned v ∧ Q_own_cf_1 Z o1 k1 vs h0 n0 v U'.heap L ∧ FrameEnd U o U' L ({ frames := 0, cells := 0, slots := 0, locals := 0 } : Room).cells ({ frames := 0, cells := 0, slots := 0, locals := 0 } : Room).slots) (s₁.setTop (entryFrame m #[(.ref o1), (.int (1 : Int32))] 2))
  refine own_st (V := s₁.setTop (mkF m 0 #[.val (.ref o1), .val (.int (1 : Int32))] [])) (fun t k => castTop (by first | (simp [entryFrame, mkF, argsToLocals, Value.category]; done) | rfl) k) ?_
  refine own_st (V := s₁.setTop (mkF m 1 #[.val (.ref o1), .val (.int (1 : Int32))] [(.int (1 : Int32))])) (fun t k => XS.iloadN X0.here hx rfl (hb hby own_d11_0) rfl k) ?_
  refine own_st (V := s₁.setTop (mkF m 2 #[.val (.ref o1), .val (.int (1 : Int32))] [(.ref o1), (.int (1 : Int32))])) (fun t k => XS.aloadN X0.here hx rfl (hb hby own_d11_1) rfl rfl k) ?_
  have Vk17 := V1
  obtain ⟨cl17, Ar17, qk17, sz17, nn17, hs17, fs17⟩ := Vk17
  refine own_st (V := s₁.setTop (mkF m 3 #[.val (.ref o1), .val (.int (1 : Int32))] [(.int (1 : Int32)), (.int (1 : Int32))])) (fun t k => X0.arraylength hx (by rw [e0]; exact Ar17.1) (State.isArrayOf_alike hZ.alike Ar17.2.1) (g := (mkF m 2 #[.val (.ref o1), .val (.int (1 : Int32))] [(.ref o1), (.int (1 : Int32))])) rfl rfl (hb hby own_d11_2) _ (by rw [len_of sz17 nn17]; exact k)) ?_
  refine own_st (V := s₁.setTop (mkF m 4 #[.val (.ref o1), .val (.int (1 : Int32))] [(.int ((1 : Int32) - (1 : Int32)))])) (fun t k => XS.isub X0.here hx rfl (hb hby own_d11_3) rfl k) ?_
  refine own_st (V := s₁.setTop (mkF m 6 #[.val (.ref o1), .val (.int (1 : Int32))] [(.int (31 : Int32)), (.int ((1 : Int32) - (1 : Int32)))])) (fun t k => XS.bipush X0.here hx rfl (hb hby own_d11_4) k) ?_
  refine own_st (V := s₁.setTop (mkF m 7 #[.val (.ref o1), .val (.int (1 : Int32))] [(.int ((((1 : Int32) - (1 : Int32)).toUInt32 >>> ((31 : Int32) &&& 31).toUInt32).toInt32))])) (fun t k => XS.iushr X0.here hx rfl (hb hby own_d11_6) rfl k) ?_
  refine own_st (V := s₁.setTop (mkF m 8 #[.val (.ref o1), .val (.int (1 : Int32))] [(.int (((((1 : Int32) - (1 : Int32)).toUInt32 >>> ((31 : Int32) &&& 31).toUInt32).toInt32).toInt8.toInt32))])) (fun t k => XS.i2b X0.here hx rfl (hb hby own_d11_7) rfl k) ?_
  rw [show (((((1 : Int32) - (1 : Int32)).toUInt32 >>> ((31 : Int32) &&& 31).toUInt32).toInt32).toInt8.toInt32) = (0 : Int32) from by decide +kernel]
  exact own_ret X0 hx hlk Bd.returns (by decide +kernel) (Or.inl ⟨rfl, by simp, _, rfl⟩) (hb hby own_d11_8) (by decide) (by decide) (by show Q_own_cf_1 Z o1 k1 vs h0 n0 _ s₁.heap _; rw [e0]; exact ⟨rfl, N0, rfl⟩)
def Q_own_s4_1 (Z : State) (o1 o2 : Addr) (k2 : ClassId) (cs : Int32) (x1 : Int32) (h0 : Heap) (n0 : Nat) (v : Option Value) (h : Heap) (L : List Loc) : Prop := v = none ∧ Fr n0 L ∧ Keep h0 h [o1] ∧ Exa Z h o1 "java/lang/String" ∧ ∃ b k vs, h0.size ≤ b ∧ Fld Z h o1 "java/lang/String" "value" "[B" (.ref b) ∧ Arv Z h b k .byte (1 : Int32) vs (.int (0 : Int32))
theorem own_d3_27 : decode jdk_42_method_149_code 27 = .ok (.getstatic 38, 3) := by decide +kernel
theorem own_d3_30 : decode jdk_42_method_149_code 30 = .ok (.ifCond .eq 28, 3) := by decide +kernel
theorem own_d3_33 : decode jdk_42_method_149_code 33 = .ok (.aload_n 1, 1) := by decide +kernel
theorem own_d3_34 : decode jdk_42_method_149_code 34 = .ok (.iload_n 2, 1) := by decide +kernel
theorem own_d3_35 : decode jdk_42_method_149_code 35 = .ok (.iload_n 3, 1) := by decide +kernel
theorem own_d3_36 : decode jdk_42_method_149_code 36 = .ok (.invokestatic 177, 3) := by decide +kernel
theorem own_pd3 : parseMethodDescriptor "([CII)[B" = some ⟨[(.array .char), .int, .int], some (.array .byte)⟩ := by decide +kernel
theorem own_d3_39 : decode jdk_42_method_149_code 39 = .ok (.astore 5, 2) := by decide +kernel
theorem own_d3_41 : decode jdk_42_method_149_code 41 = .ok (.aload_n 0, 1) := by decide +kernel
theorem own_d3_42 : decode jdk_42_method_149_code 42 = .ok (.aload 5, 2) := by decide +kernel
theorem own_d3_44 : decode jdk_42_method_149_code 44 = .ok (.iload_n 3, 1) := by decide +kernel
theorem own_d3_45 : decode jdk_42_method_149_code 45 = .ok (.invokestatic 47, 3) := by decide +kernel
theorem own_pd4 : parseMethodDescriptor "([BI)B" = some ⟨[(.array .byte), .int], some .byte⟩ := by decide +kernel
theorem own_d3_48 : decode jdk_42_method_149_code 48 = .ok (.putfield 15, 3) := by decide +kernel
theorem own_d3_51 : decode jdk_42_method_149_code 51 = .ok (.aload_n 0, 1) := by decide +kernel
theorem own_d3_52 : decode jdk_42_method_149_code 52 = .ok (.aload 5, 2) := by decide +kernel
theorem own_d3_54 : decode jdk_42_method_149_code 54 = .ok (.putfield 9, 3) := by decide +kernel
theorem own_d3_57 : decode jdk_42_method_149_code 57 = .ok (.return_, 1) := by decide +kernel
set_option maxRecDepth 65536 in
set_option maxHeartbeats 40000000 in
theorem own_s4_1 (l : Launch) (Z : State) (a0 : Array Value) (hw : ∀ d ∈ tables_1, d.before a0 Z = true) (ws : List Jvm.Cond) (o1 o2 : Addr) (k2 : ClassId) (cs : Int32) (x1 : Int32) (h0 : Heap) (n0 : Nat) (Z0 : n0 ≤ h0.size) (Od : Old Z n0 h0) (SC : Sta Z Z.heap "java/lang/String" "COMPACT_STRINGS" "Z" (.int cs)) (hcs : ¬ (cs = (0 : Int32))) (E1 : Exa Z h0 o1 "java/lang/String") (g1 : n0 ≤ o1) (F1 : Fld Z h0 o1 "java/lang/String" "value" "[B" .null) (F2 : Fld Z h0 o1 "java/lang/String" "coder" "B" (.int (0 : Int32))) (V2 : Arv Z h0 o2 k2 .char (1 : Int32) [(.int x1)] (.int (0 : Int32))) (n21 : o2 ≠ o1) (hx1 : ¬ ((255 : Int32) < x1)) :
    MetFree l (⟨"java/lang/String", "<init>", "([CIILjava/lang/Void;)V"⟩ : MethodName) (head1 (Jvm.Cond.code (⟨"java/lang/String", "<init>", "([CIILjava/lang/Void;)V"⟩ : MethodName) jdk_42_method_149_code 6 none :: ws) ({ frames := 2, cells := 1, slots := 1, locals := 35 } : Room)) (fun a U => a = #[(.ref o1), (.ref o2), (.int (0 : Int32)), (.int (1 : Int32)), .null] ∧ Z.Warmed39 U.vm ∧ U.heap = h0) (fun _ _ _ _ _ => True) (fun _ U o U' => ∃ v L, o = .returned v ∧ Q_own_s4_1 Z o1 o2 k2 cs x1 h0 n0 v U'.heap L ∧ FrameEnd U o U' L ({ frames := 2, cells := 1, slots := 1, locals := 35 } : Room).cells ({ frames := 2, cells := 1, slots := 1, locals := 35 } : Room).slots) := by
  refine MetFree.of_bodySF (plainFor_of_name own_pn_java_lang_String) hisR ?_
  intro p e s m args below meth c s₁ Bd hml0 hP hK
  obtain ⟨rfl, hZ, hh⟩ := hP
  have hx := Bd.exec
  have hby := Bd.bytes
  have hml : c.maxLocals = 6 := hml0
  have hown : s.vm.findClass "java/lang/String" = some m.cls := findClass_of_methodNamed Bd.named
  have hnm := (name_of_methodNamed Bd.named Bd.method).1
  have hlk : meth.locks = false := BodyLoose.notSynchronized Bd
  have X0 : Stand p l e ({ frames := 2, cells := 1, slots := 1, locals := 35 } : Room) s m #[(.ref o1), (.ref o2), (.int (0 : Int32)), (.int (1 : Int32)), .null] below meth c s₁ [] 0 0 := Stand.of_body Bd
  have e0 : s₁.heap = h0 := by rw [← hh, Bd.state]; rfl
  have N0 := Fr.nil n0
  show own_Go p e below #[(.ref o1), (.ref o2), (.int (0 : Int32)), (.int (1 : Int32)), .null] s (fun _ U o U' => ∃ v L, o = .returned v ∧ Q_own_s4_1 Z o1 o2 k2 cs x1 h0 n0 v U'.heap L ∧ FrameEnd U o U' L ({ frames := 2, cells := 1, slots := 1, locals := 35 } : Room).cells ({ frames := 2, cells := 1, slots := 1, locals := 35 } : Room).slots) (s₁.setTop (entryFrame m #[(.ref o1), (.ref o2), (.int (0 : Int32)), (.int (1 : Int32)), .null] 6))
  refine own_st (V := s₁.setTop (mkF m 0 #[.val (.ref o1), .val (.ref o2), .val (.int (0 : Int32)), .val (.int (1 : Int32)), .val .null, .unset] [])) (fun t k => castTop (by first | (simp [entryFrame, mkF, argsToLocals, Value.category]; done) | rfl) k) ?_
  refine own_st (V := s₁.setTop (mkF m 1 #[.val (.ref o1), .val (.ref o2), .val (.int (0 : Int32)), .val (.int (1 : Int32)), .val .null, .unset] [(.ref o1)])) (fun t k => XS.aloadN X0.here hx rfl (hb hby own_d3_0) rfl rfl k) ?_
  obtain ⟨T18, X18, e18, st18⟩ := initO X0 hx hZ hown (hw _ (List.mem_of_getElem? (i := 15) rfl)) (hw _ (List.mem_of_getElem? (i := 16) rfl)) (hw _ (List.mem_of_getElem? (i := 17) rfl)) e0 (g := (mkF m 1 #[.val (.ref o1), .val (.ref o2), .val (.int (0 : Int32)), .val (.int (1 : Int32)), .val .null, .unset] [(.ref o1)])) rfl (by rw [hml]; rfl) rfl (hb hby own_d3_1) (by decide) (W := 0) (by show 2 * 0 + _ ≤ _; exact Nat.le_of_eq rfl) (by decide)
  refine own_st (V := T18.setTop (mkF m 4 #[.val (.ref o1), .val (.ref o2), .val (.int (0 : Int32)), .val (.int (1 : Int32)), .val .null, .unset] [])) (fun t k => st18 _ k) ?_
  refine own_st (V := T18.setTop (mkF m 5 #[.val (.ref o1), .val (.ref o2), .val (.int (0 : Int32)), .val (.int (1 : Int32)), .val .null, .unset] [(.int (1 : Int32))])) (fun t k => XS.iloadN X18.here hx rfl (hb hby own_d3_4) rfl k) ?_
  refine own_st (V := T18.setTop (mkF m 27 #[.val (.ref o1), .val (.ref o2), .val (.int (0 : Int32)), .val (.int (1 : Int32)), .val .null, .unset] [])) (fun t k => XS.ifYes X18.here hx rfl (pc0 := 5) (pc' := 27) rfl (hb hby own_d3_5) rfl ((if0 _ _).trans (feq (by decide : ¬ ((1 : Int32) = (0 : Int32)))).2) (by decide) (by decide) k) ?_
  obtain ⟨T19, X19, e19, st19⟩ := getS2 X18 hx hZ hown (host := "") (Or.inl (hw _ (List.mem_of_getElem? (i := 52) rfl))) Via.refl e18 (own_so Od SC) (g := (mkF m 27 #[.val (.ref o1), .val (.ref o2), .val (.int (0 : Int32)), .val (.int (1 : Int32)), .val .null, .unset] [])) rfl (hb hby own_d3_27)
  refine own_st (V := T19.setTop (mkF m 30 #[.val (.ref o1), .val (.ref o2), .val (.int (0 : Int32)), .val (.int (1 : Int32)), .val .null, .unset] [(.int cs)])) (fun t k => st19 _ k) ?_
  refine own_st (V := T19.setTop (mkF m 33 #[.val (.ref o1), .val (.ref o2), .val (.int (0 : Int32)), .val (.int (1 : Int32)), .val .null, .unset] [])) (fun t k => XS.ifNo X19.here hx rfl (hb hby own_d3_30) rfl ((if0 _ _).trans (feq hcs).1) k) ?_
  refine own_st (V := T19.setTop (mkF m 34 #[.val (.ref o1), .val (.ref o2), .val (.int (0 : Int32)), .val (.int (1 : Int32)), .val .null, .unset] [(.ref o2)])) (fun t k => XS.aloadN X19.here hx rfl (hb hby own_d3_33) rfl rfl k) ?_
  refine own_st (V := T19.setTop (mkF m 35 #[.val (.ref o1), .val (.ref o2), .val (.int (0 : Int32)), .val (.int (1 : Int32)), .val .null, .unset] [(.int (0 : Int32)), (.ref o2)])) (fun t k => XS.iloadN X19.here hx rfl (hb hby own_d3_34) rfl k) ?_
  refine own_st (V := T19.setTop (mkF m 36 #[.val (.ref o1), .val (.ref o2), .val (.int (0 : Int32)), .val (.int (1 : Int32)), .val .null, .unset] [(.int (1 : Int32)), (.int (0 : Int32)), (.ref o2)])) (fun t k => XS.iloadN X19.here hx rfl (hb hby own_d3_35) rfl k) ?_
  obtain ⟨_, _, ⟨T20, L20, k20, n20⟩, -, X20, ⟨Lc20, hQ20, l20, y20, z20⟩, st20⟩ := Jvm.LawKit.callS X19 hx (y := (⟨"java/lang/StringUTF16", "compress", "([CII)[B"⟩ : MethodName)) hown (mvT hZ (hw _ (List.mem_of_getElem? (i := 53) rfl))) (mvT hZ (hw _ (List.mem_of_getElem? (i := 54) rfl))) (mvT hZ (hw _ (List.mem_of_getElem? (i := 55) rfl))) (mvT hZ (hw _ (List.mem_of_getElem? (i := 56) rfl))) (by decide) (backOf (W := 0) (own_c3_1 l Z a0 hw [] o2 k2 x1 h0 n0 Z0 V2 hx1) hZ (hw _ (List.mem_of_getElem? (i := 56) rfl)) (hw _ (List.mem_of_getElem? (i := 55) rfl)) (by decide) (by decide)) (g := (mkF m 36 #[.val (.ref o1), .val (.ref o2), .val (.int (0 : Int32)), .val (.int (1 : Int32)), .val .null, .unset] [(.int (1 : Int32)), (.int (0 : Int32)), (.ref o2)])) rfl (by rw [hml]; rfl) (argsL := [(.ref o2), (.int (0 : Int32)), (.int (1 : Int32))]) (rest := []) (lenOf own_pd3 rfl) rfl (by show 2 * 0 + _ ≤ _; exact Nat.le_of_eq rfl) (hb hby own_d3_36) (fun _ _ => ⟨rfl, e19, (by decide : 0 + 1 ≤ _), (by decide : 0 + 1 ≤ _)⟩)
  dsimp only [Pt.U, Pt.locs, Pt.cells, Pt.slots] at X20 l20 y20 z20 st20 hQ20
  subst l20 y20 z20
  obtain ⟨s20, rfl, N20q, K20, szs20', gb_s20, kbs20, vss20, Vq20⟩ := hQ20
  have N20 := Fr.app N0 N20q
  have Z0_20 : n0 ≤ T20.heap.size := Nat.le_trans Z0 K20.1
  have Kc20 := (Keep.refl h0 [o1]).trans K20 all0
  have sz_s20 : h0.size ≤ s20 := Nat.le_trans (Keep.refl h0 [o1]).1 szs20'
  have ne_o1_s20 : o1 ≠ s20 := Nat.ne_of_lt (Nat.lt_of_lt_of_le E1.lt szs20')
  have ne_o2_s20 : o2 ≠ s20 := Nat.ne_of_lt (Nat.lt_of_lt_of_le V2.lt szs20')
  have F20_o1_value := F1.keep K20 nin0
  have F20_o1_coder := F2.keep K20 nin0
  have Ex20_o1 := E1.keep K20
  have V20_o2 := V2.keep K20 nin0
  have Od20 := Od.keep K20 all0
  refine own_st (V := T20.setTop (mkF m 39 #[.val (.ref o1), .val (.ref o2), .val (.int (0 : Int32)), .val (.int (1 : Int32)), .val .null, .unset] [(.ref s20)])) (fun t k => st20 _ k) ?_
  refine own_st (V := T20.setTop (mkF m 41 #[.val (.ref o1), .val (.ref o2), .val (.int (0 : Int32)), .val (.int (1 : Int32)), .val .null, .val (.ref s20)] [])) (fun t k => XS.astore X20.here hx rfl (hb hby own_d3_39) rfl rfl (l' := #[.val (.ref o1), .val (.ref o2), .val (.int (0 : Int32)), .val (.int (1 : Int32)), .val .null, .val (.ref s20)]) rfl k) ?_
  refine own_st (V := T20.setTop (mkF m 42 #[.val (.ref o1), .val (.ref o2), .val (.int (0 : Int32)), .val (.int (1 : Int32)), .val .null, .val (.ref s20)] [(.ref o1)])) (fun t k => XS.aloadN X20.here hx rfl (hb hby own_d3_41) rfl rfl k) ?_
  refine own_st (V := T20.setTop (mkF m 44 #[.val (.ref o1), .val (.ref o2), .val (.int (0 : Int32)), .val (.int (1 : Int32)), .val .null, .val (.ref s20)] [(.ref s20), (.ref o1)])) (fun t k => XS.aload X20.here hx rfl (hb hby own_d3_42) rfl rfl k) ?_
  refine own_st (V := T20.setTop (mkF m 45 #[.val (.ref o1), .val (.ref o2), .val (.int (0 : Int32)), .val (.int (1 : Int32)), .val .null, .val (.ref s20)] [(.int (1 : Int32)), (.ref s20), (.ref o1)])) (fun t k => XS.iloadN X20.here hx rfl (hb hby own_d3_44) rfl k) ?_
  obtain ⟨_, _, ⟨T21, L21, k21, n21⟩, -, X21, ⟨Lc21, hQ21, l21, y21, z21⟩, st21⟩ := Jvm.LawKit.callS X20 hx (y := (⟨"java/lang/StringUTF16", "coderFromArrayLen", "([BI)B"⟩ : MethodName)) hown (mvT hZ (hw _ (List.mem_of_getElem? (i := 60) rfl))) (mvT hZ (hw _ (List.mem_of_getElem? (i := 61) rfl))) (mvT hZ (hw _ (List.mem_of_getElem? (i := 55) rfl))) (mvT hZ (hw _ (List.mem_of_getElem? (i := 62) rfl))) (by decide) (backOf (W := 1) (own_cf_1 l Z a0 hw [] s20 kbs20 vss20 T20.heap n0 Z0_20 Vq20) hZ (hw _ (List.mem_of_getElem? (i := 62) rfl)) (hw _ (List.mem_of_getElem? (i := 55) rfl)) (by decide) (by decide)) (g := (mkF m 45 #[.val (.ref o1), .val (.ref o2), .val (.int (0 : Int32)), .val (.int (1 : Int32)), .val .null, .val (.ref s20)] [(.int (1 : Int32)), (.ref s20), (.ref o1)])) rfl (by rw [hml]; rfl) (argsL := [(.ref s20), (.int (1 : Int32))]) (rest := [(.ref o1)]) (lenOf own_pd4 rfl) rfl (by show 2 * 0 + _ ≤ _; exact Nat.le_of_eq rfl) (hb hby own_d3_45) (fun _ _ => ⟨rfl, rfl, (by decide : 1 + 0 ≤ _), (by decide : 1 + 0 ≤ _)⟩)
  dsimp only [Pt.U, Pt.locs, Pt.cells, Pt.slots] at X21 l21 y21 z21 st21 hQ21
  subst l21 y21 z21
  obtain ⟨rfl, N21q, e21⟩ := hQ21
  have N21 := Fr.app N20 N21q
  refine own_st (V := T21.setTop (mkF m 48 #[.val (.ref o1), .val (.ref o2), .val (.int (0 : Int32)), .val (.int (1 : Int32)), .val .null, .val (.ref s20)] [(.int (0 : Int32)), (.ref o1)])) (fun t k => st21 _ k) ?_
  obtain ⟨T22, h22, X22, e22, W22, st22⟩ := putFN X21 hx hZ hown (hw _ (List.mem_of_getElem? (i := 25) rfl)) Via.refl e21 F20_o1_coder Ex20_o1 (Or.inr ⟨(hw _ (List.mem_of_getElem? (i := 21) rfl)), rfl, hnm⟩) (hw _ (List.mem_of_getElem? (i := 5) rfl)) (ty := .byte) (v' := (.int (0 : Int32))) (by decide) (by decide +kernel) (by decide +kernel) (g := (mkF m 48 #[.val (.ref o1), .val (.ref o2), .val (.int (0 : Int32)), .val (.int (1 : Int32)), .val .null, .val (.ref s20)] [(.int (0 : Int32)), (.ref o1)])) rfl rfl (hb hby own_d3_48)
  have N22 := Fr.snoc X22 N21 g1
  have Z0_22 : n0 ≤ h22.size := by rw [W22.size]; exact Z0_20
  have F22_w := F20_o1_coder.same W22
  have Kc22 := Kc20.wr W22 (Or.inl (List.mem_of_getElem? (i := 0) rfl))
  have F22_o1_value := F20_o1_value.other W22 (Or.inr (slot_ne (Or.inr (hw _ (List.mem_of_getElem? (i := 20) rfl))) (Or.inr (hw _ (List.mem_of_getElem? (i := 21) rfl))) (by decide) (t := (.array .byte)) (t' := .byte) (by decide) (by decide)))
  have Ex22_o1 := Ex20_o1.wr W22
  have V22_o2 := V20_o2.other W22 n21
  have V22_s20 := Vq20.other W22 (Ne.symm ne_o1_s20)
  have Od22 := Od20.wr W22 g1
  refine own_st (V := T22.setTop (mkF m 51 #[.val (.ref o1), .val (.ref o2), .val (.int (0 : Int32)), .val (.int (1 : Int32)), .val .null, .val (.ref s20)] [])) (fun t k => st22 _ k) ?_
  refine own_st (V := T22.setTop (mkF m 52 #[.val (.ref o1), .val (.ref o2), .val (.int (0 : Int32)), .val (.int (1 : Int32)), .val .null, .val (.ref s20)] [(.ref o1)])) (fun t k => XS.aloadN X22.here hx rfl (hb hby own_d3_51) rfl rfl k) ?_
  refine own_st (V := T22.setTop (mkF m 54 #[.val (.ref o1), .val (.ref o2), .val (.int (0 : Int32)), .val (.int (1 : Int32)), .val .null, .val (.ref s20)] [(.ref s20), (.ref o1)])) (fun t k => XS.aload X22.here hx rfl (hb hby own_d3_52) rfl rfl k) ?_
  obtain ⟨T23, h23, X23, e23, W23, st23⟩ := putF X22 hx hZ hown (host := "") (Or.inl (hw _ (List.mem_of_getElem? (i := 24) rfl))) Via.refl e22 F22_o1_value Ex22_o1 (Or.inr ⟨(hw _ (List.mem_of_getElem? (i := 20) rfl)), rfl, hnm⟩) (hw _ (List.mem_of_getElem? (i := 5) rfl)) (ty := (.array .byte)) (by decide) rfl rfl (g := (mkF m 54 #[.val (.ref o1), .val (.ref o2), .val (.int (0 : Int32)), .val (.int (1 : Int32)), .val .null, .val (.ref s20)] [(.ref s20), (.ref o1)])) rfl rfl (hb hby own_d3_54)
  have N23 := Fr.snoc X23 N22 g1
  have Z0_23 : n0 ≤ h23.size := by rw [W23.size]; exact Z0_22
  have F23_w := F22_o1_value.same W23
  have Kc23 := Kc22.wr W23 (Or.inl (List.mem_of_getElem? (i := 0) rfl))
  have F23_o1_coder := F22_w.other W23 (Or.inr (slot_ne (Or.inr (hw _ (List.mem_of_getElem? (i := 21) rfl))) (Or.inr (hw _ (List.mem_of_getElem? (i := 20) rfl))) (by decide) (t := .byte) (t' := (.array .byte)) (by decide) (by decide)))
  have Ex23_o1 := Ex22_o1.wr W23
  have V23_o2 := V22_o2.other W23 n21
  have V23_s20 := V22_s20.other W23 (Ne.symm ne_o1_s20)
  have Od23 := Od22.wr W23 g1
  refine own_st (V := T23.setTop (mkF m 57 #[.val (.ref o1), .val (.ref o2), .val (.int (0 : Int32)), .val (.int (1 : Int32)), .val .null, .val (.ref s20)] [])) (fun t k => st23 _ k) ?_
  exact own_ret0 X23 hx hlk Bd.returns (hb hby own_d3_57) (by decide) (by decide) (by show Q_own_s4_1 Z o1 o2 k2 cs x1 h0 n0 _ T23.heap _; rw [e23]; exact ⟨rfl, N23, Kc23, Ex23_o1, s20, _, _, sz_s20, F23_w, V23_s20⟩)
def Q_own_s1_1 (Z : State) (o1 o2 : Addr) (k2 : ClassId) (cs : Int32) (x1 : Int32) (h0 : Heap) (n0 : Nat) (v : Option Value) (h : Heap) (L : List Loc) : Prop := v = none ∧ Fr n0 L ∧ Keep h0 h [o1] ∧ Exa Z h o1 "java/lang/String" ∧ ∃ b k vs, h0.size ≤ b ∧ Fld Z h o1 "java/lang/String" "value" "[B" (.ref b) ∧ Arv Z h b k .byte (1 : Int32) vs (.int (0 : Int32))
set_option maxRecDepth 65536 in
set_option maxHeartbeats 40000000 in
theorem own_s1_1 (l : Launch) (Z : State) (a0 : Array Value) (hw : ∀ d ∈ tables_1, d.before a0 Z = true) (ws : List Jvm.Cond) (o1 o2 : Addr) (k2 : ClassId) (cs : Int32) (x1 : Int32) (h0 : Heap) (n0 : Nat) (Z0 : n0 ≤ h0.size) (Od : Old Z n0 h0) (SC : Sta Z Z.heap "java/lang/String" "COMPACT_STRINGS" "Z" (.int cs)) (hcs : ¬ (cs = (0 : Int32))) (E1 : Exa Z h0 o1 "java/lang/String") (g1 : n0 ≤ o1) (F1 : Fld Z h0 o1 "java/lang/String" "value" "[B" .null) (F2 : Fld Z h0 o1 "java/lang/String" "coder" "B" (.int (0 : Int32))) (V2 : Arv Z h0 o2 k2 .char (1 : Int32) [(.int x1)] (.int (0 : Int32))) (n21 : o2 ≠ o1) (hx1 : ¬ ((255 : Int32) < x1)) :
    MetFree l (⟨"java/lang/String", "<init>", "([C)V"⟩ : MethodName) (head1 (Jvm.Cond.code (⟨"java/lang/String", "<init>", "([C)V"⟩ : MethodName) jdk_42_method_3_code 2 none :: ws) ({ frames := 3, cells := 1, slots := 1, locals := 52 } : Room)) (fun a U => a = #[(.ref o1), (.ref o2)] ∧ Z.Warmed39 U.vm ∧ U.heap = h0) (fun _ _ _ _ _ => True) (fun _ U o U' => ∃ v L, o = .returned v ∧ Q_own_s1_1 Z o1 o2 k2 cs x1 h0 n0 v U'.heap L ∧ FrameEnd U o U' L ({ frames := 3, cells := 1, slots := 1, locals := 52 } : Room).cells ({ frames := 3, cells := 1, slots := 1, locals := 52 } : Room).slots) := by
  refine MetFree.of_bodySF (plainFor_of_name own_pn_java_lang_String) hisR ?_
  intro p e s m args below meth c s₁ Bd hml0 hP hK
  obtain ⟨rfl, hZ, hh⟩ := hP
  have hx := Bd.exec
  have hby := Bd.bytes
  have hml : c.maxLocals = 2 := hml0
  have hown : s.vm.findClass "java/lang/String" = some m.cls := findClass_of_methodNamed Bd.named
  have hnm := (name_of_methodNamed Bd.named Bd.method).1
  have hlk : meth.locks = false := BodyLoose.notSynchronized Bd
  have X0 : Stand p l e ({ frames := 3, cells := 1, slots := 1, locals := 52 } : Room) s m #[(.ref o1), (.ref o2)] below meth c s₁ [] 0 0 := Stand.of_body Bd
  have e0 : s₁.heap = h0 := by rw [← hh, Bd.state]; rfl
  have N0 := Fr.nil n0
  show own_Go p e below #[(.ref o1), (.ref o2)] s (fun _ U o U' => ∃ v L, o = .returned v ∧ Q_own_s1_1 Z o1 o2 k2 cs x1 h0 n0 v U'.heap L ∧ FrameEnd U o U' L ({ frames := 3, cells := 1, slots := 1, locals := 52 } : Room).cells ({ frames := 3, cells := 1, slots := 1, locals := 52 } : Room).slots) (s₁.setTop (entryFrame m #[(.ref o1), (.ref o2)] 2))
  refine own_st (V := s₁.setTop (mkF m 0 #[.val (.ref o1), .val (.ref o2)] [])) (fun t k => castTop (by first | (simp [entryFrame, mkF, argsToLocals, Value.category]; done) | rfl) k) ?_
  refine own_st (V := s₁.setTop (mkF m 1 #[.val (.ref o1), .val (.ref o2)] [(.ref o1)])) (fun t k => XS.aloadN X0.here hx rfl (hb hby own_d2_0) rfl rfl k) ?_
  refine own_st (V := s₁.setTop (mkF m 2 #[.val (.ref o1), .val (.ref o2)] [(.ref o2), (.ref o1)])) (fun t k => XS.aloadN X0.here hx rfl (hb hby own_d2_1) rfl rfl k) ?_
  refine own_st (V := s₁.setTop (mkF m 3 #[.val (.ref o1), .val (.ref o2)] [(.int (0 : Int32)), (.ref o2), (.ref o1)])) (fun t k => XS.iconst X0.here hx rfl (hb hby own_d2_2) k) ?_
  refine own_st (V := s₁.setTop (mkF m 4 #[.val (.ref o1), .val (.ref o2)] [(.ref o2), (.int (0 : Int32)), (.ref o2), (.ref o1)])) (fun t k => XS.aloadN X0.here hx rfl (hb hby own_d2_3) rfl rfl k) ?_
  have Vk24 := V2
  obtain ⟨cl24, Ar24, qk24, sz24, nn24, hs24, fs24⟩ := Vk24
  refine own_st (V := s₁.setTop (mkF m 5 #[.val (.ref o1), .val (.ref o2)] [(.int (1 : Int32)), (.int (0 : Int32)), (.ref o2), (.ref o1)])) (fun t k => X0.arraylength hx (by rw [e0]; exact Ar24.1) (State.isArrayOf_alike hZ.alike Ar24.2.1) (g := (mkF m 4 #[.val (.ref o1), .val (.ref o2)] [(.ref o2), (.int (0 : Int32)), (.ref o2), (.ref o1)])) rfl rfl (hb hby own_d2_4) _ (by rw [len_of sz24 nn24]; exact k)) ?_
  refine own_st (V := s₁.setTop (mkF m 6 #[.val (.ref o1), .val (.ref o2)] [.null, (.int (1 : Int32)), (.int (0 : Int32)), (.ref o2), (.ref o1)])) (fun t k => XS.aconstNull X0.here hx rfl (hb hby own_d2_5) k) ?_
  obtain ⟨_, _, ⟨T25, L25, k25, n25⟩, -, X25, ⟨Lc25, hQ25, l25, y25, z25⟩, st25⟩ := X0.specialBack hx (y := (⟨"java/lang/String", "<init>", "([CIILjava/lang/Void;)V"⟩ : MethodName)) rfl hown (mvT hZ (hw _ (List.mem_of_getElem? (i := 11) rfl))) (mvT hZ (hw _ (List.mem_of_getElem? (i := 12) rfl))) (mvT hZ (hw _ (List.mem_of_getElem? (i := 14) rfl))) (by decide) (backOf (W := 0) (own_s4_1 l Z a0 hw [] o1 o2 k2 cs x1 h0 n0 Z0 Od SC hcs E1 g1 F1 F2 V2 n21 hx1) hZ (hw _ (List.mem_of_getElem? (i := 14) rfl)) (hw _ (List.mem_of_getElem? (i := 6) rfl)) (by decide) (by decide)) (g := (mkF m 6 #[.val (.ref o1), .val (.ref o2)] [.null, (.int (1 : Int32)), (.int (0 : Int32)), (.ref o2), (.ref o1)])) rfl (by rw [hml]; rfl) (Steps.refl _) (a := o1) (argsL := [(.ref o2), (.int (0 : Int32)), (.int (1 : Int32)), .null]) (rest := []) (lenOf own_pd0 rfl) rfl (by show 2 * 0 + _ ≤ _; exact Nat.le_of_eq rfl) (hb hby own_d2_6) (fun _ _ => ⟨rfl, e0, (by decide : 0 + 1 ≤ _), (by decide : 0 + 1 ≤ _)⟩)
  dsimp only [Pt.U, Pt.locs, Pt.cells, Pt.slots] at X25 l25 y25 z25 st25 hQ25
  subst l25 y25 z25
  obtain ⟨rfl, N25q, K25, Ex25_q, t25, kbt25, vst25, szt25', Fq25_0, Vq25⟩ := hQ25
  have N25 := Fr.app N0 N25q
  have Z0_25 : n0 ≤ T25.heap.size := Nat.le_trans Z0 K25.1
  have Kc25 := (Keep.refl h0 [o1]).trans K25 (fun x hx => Or.inl (by cases List.mem_singleton.mp hx; exact List.mem_of_getElem? (i := 0) rfl))
  have sz_t25 : h0.size ≤ t25 := Nat.le_trans (Keep.refl h0 [o1]).1 szt25'
  have ne_o1_t25 : o1 ≠ t25 := Nat.ne_of_lt (Nat.lt_of_lt_of_le E1.lt szt25')
  have ne_o2_t25 : o2 ≠ t25 := Nat.ne_of_lt (Nat.lt_of_lt_of_le V2.lt szt25')
  have Ex25_o1 := E1.keep K25
  have V25_o2 := V2.keep K25 (ninS n21 nin0)
  have Od25 := Od.keep K25 (allS g1 all0)
  refine own_st (V := T25.setTop (mkF m 9 #[.val (.ref o1), .val (.ref o2)] [])) (fun t k => st25.trans k) ?_
  exact own_ret0 X25 hx hlk Bd.returns (hb hby own_d2_9) (by decide) (by decide) (by show Q_own_s1_1 Z o1 o2 k2 cs x1 h0 n0 _ T25.heap _; exact ⟨rfl, N25, Kc25, Ex25_q, t25, _, _, sz_t25, Fq25_0, Vq25⟩)
def Q_own_c5_2 (Z : State) (o1 o2 : Addr) (k1 k2 : ClassId) (x1 x2 : Int32) (h0 : Heap) (n0 : Nat) (v : Option Value) (h : Heap) (L : List Loc) : Prop := v = some (.int (2 : Int32)) ∧ Fr n0 L ∧ Keep h0 h [o2] ∧ ∃ vs, Arv Z h o2 k2 .byte (2 : Int32) vs (.int (0 : Int32))
set_option maxRecDepth 65536 in
set_option maxHeartbeats 40000000 in
theorem own_c5_2 (l : Launch) (Z : State) (a0 : Array Value) (hw : ∀ d ∈ tables_1, d.before a0 Z = true) (ws : List Jvm.Cond) (o1 o2 : Addr) (k1 k2 : ClassId) (x1 x2 : Int32) (h0 : Heap) (n0 : Nat) (Z0 : n0 ≤ h0.size) (V1 : Arv Z h0 o1 k1 .char (2 : Int32) [(.int x1), (.int x2)] (.int (0 : Int32))) (V2 : Arv Z h0 o2 k2 .byte (2 : Int32) [(.int (0 : Int32)), (.int (0 : Int32))] (.int (0 : Int32))) (n12 : o1 ≠ o2) (g2 : n0 ≤ o2) (hx1 : ¬ ((255 : Int32) < x1)) (hx2 : ¬ ((255 : Int32) < x2)) :
    MetFree l (⟨"java/lang/StringUTF16", "compress", "([CI[BII)I"⟩ : MethodName) (head1 (Jvm.Cond.code (⟨"java/lang/StringUTF16", "compress", "([CI[BII)I"⟩ : MethodName) jdk_52_method_21_code 7 (some .int) :: ws) ({ frames := 0, cells := 0, slots := 0, locals := 0 } : Room)) (fun a U => a = #[(.ref o1), (.int (0 : Int32)), (.ref o2), (.int (0 : Int32)), (.int (2 : Int32))] ∧ Z.Warmed39 U.vm ∧ U.heap = h0) (fun _ _ _ _ _ => True) (fun _ U o U' => ∃ v L, o = .returned v ∧ Q_own_c5_2 Z o1 o2 k1 k2 x1 x2 h0 n0 v U'.heap L ∧ FrameEnd U o U' L ({ frames := 0, cells := 0, slots := 0, locals := 0 } : Room).cells ({ frames := 0, cells := 0, slots := 0, locals := 0 } : Room).slots) := by
  refine MetFree.of_bodySF (plainFor_of_name own_pn_java_lang_StringUTF16) hisR ?_
  intro p e s m args below meth c s₁ Bd hml0 hP hK
  obtain ⟨rfl, hZ, hh⟩ := hP
  have hx := Bd.exec
  have hby := Bd.bytes
  have hml : c.maxLocals = 7 := hml0
  have hown : s.vm.findClass "java/lang/StringUTF16" = some m.cls := findClass_of_methodNamed Bd.named
  have hnm := (name_of_methodNamed Bd.named Bd.method).1
  have hlk : meth.locks = false := BodyLoose.notSynchronized Bd
  have X0 : Stand p l e ({ frames := 0, cells := 0, slots := 0, locals := 0 } : Room) s m #[(.ref o1), (.int (0 : Int32)), (.ref o2), (.int (0 : Int32)), (.int (2 : Int32))] below meth c s₁ [] 0 0 := Stand.of_body Bd
  have e0 : s₁.heap = h0 := by rw [← hh, Bd.state]; rfl
  have N0 := Fr.nil n0
  show own_Go p e below #[(.ref o1), (.int (0 : Int32)), (.ref o2), (.int (0 : Int32)), (.int (2 : Int32))] s (fun _ U o U' => ∃ v L, o = .returned v ∧ Q_own_c5_2 Z o1 o2 k1 k2 x1 x2 h0 n0 v U'.heap L ∧ FrameEnd U o U' L ({ frames := 0, cells := 0, slots := 0, locals := 0 } : Room).cells ({ frames := 0, cells := 0, slots := 0, locals := 0 } : Room).slots) (s₁.setTop (entryFrame m #[(.ref o1), (.int (0 : Int32)), (.ref o2), (.int (0 : Int32)), (.int (2 : Int32))] 7))
  refine own_st (V := s₁.setTop (mkF m 0 #[.val (.ref o1), .val (.int (0 : Int32)), .val (.ref o2), .val (.int (0 : Int32)), .val (.int (2 : Int32)), .unset, .unset] [])) (fun t k => castTop (by first | (simp [entryFrame, mkF, argsToLocals, Value.category]; done) | rfl) k) ?_
  refine own_st (V := s₁.setTop (mkF m 1 #[.val (.ref o1), .val (.int (0 : Int32)), .val (.ref o2), .val (.int (0 : Int32)), .val (.int (2 : Int32)), .unset, .unset] [(.int (0 : Int32))])) (fun t k => XS.iconst X0.here hx rfl (hb hby own_d10_0) k) ?_
  refine own_st (V := s₁.setTop (mkF m 3 #[.val (.ref o1), .val (.int (0 : Int32)), .val (.ref o2), .val (.int (0 : Int32)), .val (.int (2 : Int32)), .val (.int (0 : Int32)), .unset] [])) (fun t k => XS.istore X0.here hx rfl (hb hby own_d10_1) rfl (l' := #[.val (.ref o1), .val (.int (0 : Int32)), .val (.ref o2), .val (.int (0 : Int32)), .val (.int (2 : Int32)), .val (.int (0 : Int32)), .unset]) rfl k) ?_
  refine own_st (V := s₁.setTop (mkF m 5 #[.val (.ref o1), .val (.int (0 : Int32)), .val (.ref o2), .val (.int (0 : Int32)), .val (.int (2 : Int32)), .val (.int (0 : Int32)), .unset] [(.int (0 : Int32))])) (fun t k => XS.iload X0.here hx rfl (hb hby own_d10_3) rfl k) ?_
  refine own_st (V := s₁.setTop (mkF m 7 #[.val (.ref o1), .val (.int (0 : Int32)), .val (.ref o2), .val (.int (0 : Int32)), .val (.int (2 : Int32)), .val (.int (0 : Int32)), .unset] [(.int (2 : Int32)), (.int (0 : Int32))])) (fun t k => XS.iload X0.here hx rfl (hb hby own_d10_5) rfl k) ?_
  refine own_st (V := s₁.setTop (mkF m 10 #[.val (.ref o1), .val (.int (0 : Int32)), .val (.ref o2), .val (.int (0 : Int32)), .val (.int (2 : Int32)), .val (.int (0 : Int32)), .unset] [])) (fun t k => XS.icmpNo X0.here hx rfl (hb hby own_d10_7) rfl (tlt (by decide : (0 : Int32) < (2 : Int32))).2.1 k) ?_
  refine own_st (V := s₁.setTop (mkF m 11 #[.val (.ref o1), .val (.int (0 : Int32)), .val (.ref o2), .val (.int (0 : Int32)), .val (.int (2 : Int32)), .val (.int (0 : Int32)), .unset] [(.ref o1)])) (fun t k => XS.aloadN X0.here hx rfl (hb hby own_d10_10) rfl rfl k) ?_
  refine own_st (V := s₁.setTop (mkF m 12 #[.val (.ref o1), .val (.int (0 : Int32)), .val (.ref o2), .val (.int (0 : Int32)), .val (.int (2 : Int32)), .val (.int (0 : Int32)), .unset] [(.int (0 : Int32)), (.ref o1)])) (fun t k => XS.iloadN X0.here hx rfl (hb hby own_d10_11) rfl k) ?_
  have Vk26 := V1
  obtain ⟨cl26, Ar26, qk26, sz26, nn26, hs26, fs26⟩ := Vk26
  have hin26 : ¬ ((0 : Int32) < 0 ∨ cl26.slots.size ≤ ((0 : Int32)).toNatClampNeg) := inb_of sz26 ⟨by decide, by decide⟩
  refine own_st (V := s₁.setTop (mkF m 13 #[.val (.ref o1), .val (.int (0 : Int32)), .val (.ref o2), .val (.int (0 : Int32)), .val (.int (2 : Int32)), .val (.int (0 : Int32)), .unset] [(.int x1)])) (fun t k => X0.caload hx (j := (0 : Int32)) (v := (.int x1)) (by rw [e0]; exact Ar26.1) (State.isArrayOf_alike hZ.alike Ar26.2.1) Ar26.2.2 hin26 (Has.at hs26 hin26 rfl) (g := (mkF m 12 #[.val (.ref o1), .val (.int (0 : Int32)), .val (.ref o2), .val (.int (0 : Int32)), .val (.int (2 : Int32)), .val (.int (0 : Int32)), .unset] [(.int (0 : Int32)), (.ref o1)])) rfl rfl (hb hby own_d10_12) _ k) ?_
  refine own_st (V := s₁.setTop (mkF m 15 #[.val (.ref o1), .val (.int (0 : Int32)), .val (.ref o2), .val (.int (0 : Int32)), .val (.int (2 : Int32)), .val (.int (0 : Int32)), .val (.int x1)] [])) (fun t k => XS.istore X0.here hx rfl (hb hby own_d10_13) rfl (l' := #[.val (.ref o1), .val (.int (0 : Int32)), .val (.ref o2), .val (.int (0 : Int32)), .val (.int (2 : Int32)), .val (.int (0 : Int32)), .val (.int x1)]) rfl k) ?_
  refine own_st (V := s₁.setTop (mkF m 17 #[.val (.ref o1), .val (.int (0 : Int32)), .val (.ref o2), .val (.int (0 : Int32)), .val (.int (2 : Int32)), .val (.int (0 : Int32)), .val (.int x1)] [(.int x1)])) (fun t k => XS.iload X0.here hx rfl (hb hby own_d10_15) rfl k) ?_
  refine own_st (V := s₁.setTop (mkF m 20 #[.val (.ref o1), .val (.int (0 : Int32)), .val (.ref o2), .val (.int (0 : Int32)), .val (.int (2 : Int32)), .val (.int (0 : Int32)), .val (.int x1)] [(.int (255 : Int32)), (.int x1)])) (fun t k => XS.sipush X0.here hx rfl (hb hby own_d10_17) k) ?_
  refine own_st (V := s₁.setTop (mkF m 26 #[.val (.ref o1), .val (.int (0 : Int32)), .val (.ref o2), .val (.int (0 : Int32)), .val (.int (2 : Int32)), .val (.int (0 : Int32)), .val (.int x1)] [])) (fun t k => XS.icmpYes X0.here hx rfl (pc0 := 20) (pc' := 26) rfl (hb hby own_d10_20) rfl (flt hx1).2.2.2 (by decide) (by decide) k) ?_
  refine own_st (V := s₁.setTop (mkF m 27 #[.val (.ref o1), .val (.int (0 : Int32)), .val (.ref o2), .val (.int (0 : Int32)), .val (.int (2 : Int32)), .val (.int (0 : Int32)), .val (.int x1)] [(.ref o2)])) (fun t k => XS.aloadN X0.here hx rfl (hb hby own_d10_26) rfl rfl k) ?_
  refine own_st (V := s₁.setTop (mkF m 28 #[.val (.ref o1), .val (.int (0 : Int32)), .val (.ref o2), .val (.int (0 : Int32)), .val (.int (2 : Int32)), .val (.int (0 : Int32)), .val (.int x1)] [(.int (0 : Int32)), (.ref o2)])) (fun t k => XS.iloadN X0.here hx rfl (hb hby own_d10_27) rfl k) ?_
  refine own_st (V := s₁.setTop (mkF m 30 #[.val (.ref o1), .val (.int (0 : Int32)), .val (.ref o2), .val (.int (0 : Int32)), .val (.int (2 : Int32)), .val (.int (0 : Int32)), .val (.int x1)] [(.int x1), (.int (0 : Int32)), (.ref o2)])) (fun t k => XS.iload X0.here hx rfl (hb hby own_d10_28) rfl k) ?_
  refine own_st (V := s₁.setTop (mkF m 31 #[.val (.ref o1), .val (.int (0 : Int32)), .val (.ref o2), .val (.int (0 : Int32)), .val (.int (2 : Int32)), .val (.int (0 : Int32)), .val (.int x1)] [(.int (x1.toInt8.toInt32)), (.int (0 : Int32)), (.ref o2)])) (fun t k => XS.i2b X0.here hx rfl (hb hby own_d10_30) rfl k) ?_
  have Vk27 := V2
  obtain ⟨cl27, Ar27, qk27, sz27, nn27, hs27, fs27⟩ := Vk27
  have hin27 : ¬ ((0 : Int32) < 0 ∨ cl27.slots.size ≤ ((0 : Int32)).toNatClampNeg) := inb_of sz27 ⟨by decide, by decide⟩
  obtain ⟨T27, h27, X27, e27, W27, st27⟩ := stB X0 hx hZ e0 Ar27 (j := (0 : Int32)) hin27 (g := (mkF m 31 #[.val (.ref o1), .val (.int (0 : Int32)), .val (.ref o2), .val (.int (0 : Int32)), .val (.int (2 : Int32)), .val (.int (0 : Int32)), .val (.int x1)] [(.int (x1.toInt8.toInt32)), (.int (0 : Int32)), (.ref o2)])) rfl rfl (hb hby own_d10_31)
  have V27_o2 := Arv.set Ar27 qk27 sz27 nn27 hs27 fs27 (fits_nar_byte _) W27 0 rfl (Nat.le_of_ble_eq_true rfl)
  have N27 := Fr.snoc X27 N0 g2
  have Z0_27 : n0 ≤ h27.size := by rw [W27.size]; exact Z0
  have Kc27 := (Keep.refl h0 [o2]).wr W27 (Or.inl (List.mem_of_getElem? (i := 0) rfl))
  have V27_o1 := V1.other W27 n12
  refine own_st (V := T27.setTop (mkF m 32 #[.val (.ref o1), .val (.int (0 : Int32)), .val (.ref o2), .val (.int (0 : Int32)), .val (.int (2 : Int32)), .val (.int (0 : Int32)), .val (.int x1)] [])) (fun t k => st27 _ k) ?_
  refine own_st (V := T27.setTop (mkF m 35 #[.val (.ref o1), .val (.int ((0 : Int32) + (1 : Int32))), .val (.ref o2), .val (.int (0 : Int32)), .val (.int (2 : Int32)), .val (.int (0 : Int32)), .val (.int x1)] [])) (fun t k => XS.iinc X27.here hx rfl (hb hby own_d10_32) rfl (l' := #[.val (.ref o1), .val (.int ((0 : Int32) + (1 : Int32))), .val (.ref o2), .val (.int (0 : Int32)), .val (.int (2 : Int32)), .val (.int (0 : Int32)), .val (.int x1)]) rfl k) ?_
  rw [show ((0 : Int32) + (1 : Int32)) = (1 : Int32) from by decide +kernel]
  refine own_st (V := T27.setTop (mkF m 38 #[.val (.ref o1), .val (.int (1 : Int32)), .val (.ref o2), .val (.int ((0 : Int32) + (1 : Int32))), .val (.int (2 : Int32)), .val (.int (0 : Int32)), .val (.int x1)] [])) (fun t k => XS.iinc X27.here hx rfl (hb hby own_d10_35) rfl (l' := #[.val (.ref o1), .val (.int (1 : Int32)), .val (.ref o2), .val (.int ((0 : Int32) + (1 : Int32))), .val (.int (2 : Int32)), .val (.int (0 : Int32)), .val (.int x1)]) rfl k) ?_
  rw [show ((0 : Int32) + (1 : Int32)) = (1 : Int32) from by decide +kernel]
  refine own_st (V := T27.setTop (mkF m 41 #[.val (.ref o1), .val (.int (1 : Int32)), .val (.ref o2), .val (.int (1 : Int32)), .val (.int (2 : Int32)), .val (.int ((0 : Int32) + (1 : Int32))), .val (.int x1)] [])) (fun t k => XS.iinc X27.here hx rfl (hb hby own_d10_38) rfl (l' := #[.val (.ref o1), .val (.int (1 : Int32)), .val (.ref o2), .val (.int (1 : Int32)), .val (.int (2 : Int32)), .val (.int ((0 : Int32) + (1 : Int32))), .val (.int x1)]) rfl k) ?_
  rw [show ((0 : Int32) + (1 : Int32)) = (1 : Int32) from by decide +kernel]
  refine own_st (V := T27.setTop (mkF m 3 #[.val (.ref o1), .val (.int (1 : Int32)), .val (.ref o2), .val (.int (1 : Int32)), .val (.int (2 : Int32)), .val (.int (1 : Int32)), .val (.int x1)] [])) (fun t k => XS.goto X27.here hx rfl (pc0 := 41) (pc' := 3) rfl (hb hby own_d10_41) (by decide) (by decide) k) ?_
  refine own_st (V := T27.setTop (mkF m 5 #[.val (.ref o1), .val (.int (1 : Int32)), .val (.ref o2), .val (.int (1 : Int32)), .val (.int (2 : Int32)), .val (.int (1 : Int32)), .val (.int x1)] [(.int (1 : Int32))])) (fun t k => XS.iload X27.here hx rfl (hb hby own_d10_3) rfl k) ?_
  refine own_st (V := T27.setTop (mkF m 7 #[.val (.ref o1), .val (.int (1 : Int32)), .val (.ref o2), .val (.int (1 : Int32)), .val (.int (2 : Int32)), .val (.int (1 : Int32)), .val (.int x1)] [(.int (2 : Int32)), (.int (1 : Int32))])) (fun t k => XS.iload X27.here hx rfl (hb hby own_d10_5) rfl k) ?_
  refine own_st (V := T27.setTop (mkF m 10 #[.val (.ref o1), .val (.int (1 : Int32)), .val (.ref o2), .val (.int (1 : Int32)), .val (.int (2 : Int32)), .val (.int (1 : Int32)), .val (.int x1)] [])) (fun t k => XS.icmpNo X27.here hx rfl (hb hby own_d10_7) rfl (tlt (by decide : (1 : Int32) < (2 : Int32))).2.1 k) ?_
  refine own_st (V := T27.setTop (mkF m 11 #[.val (.ref o1), .val (.int (1 : Int32)), .val (.ref o2), .val (.int (1 : Int32)), .val (.int (2 : Int32)), .val (.int (1 : Int32)), .val (.int x1)] [(.ref o1)])) (fun t k => XS.aloadN X27.here hx rfl (hb hby own_d10_10) rfl rfl k) ?_
  refine own_st (V := T27.setTop (mkF m 12 #[.val (.ref o1), .val (.int (1 : Int32)), .val (.ref o2), .val (.int (1 : Int32)), .val (.int (2 : Int32)), .val (.int (1 : Int32)), .val (.int x1)] [(.int (1 : Int32)), (.ref o1)])) (fun t k => XS.iloadN X27.here hx rfl (hb hby own_d10_11) rfl k) ?_
  have Vk28 := V27_o1
  obtain ⟨cl28, Ar28, qk28, sz28, nn28, hs28, fs28⟩ := Vk28
  have hin28 : ¬ ((1 : Int32) < 0 ∨ cl28.slots.size ≤ ((1 : Int32)).toNatClampNeg) := inb_of sz28 ⟨by decide, by decide⟩
  refine own_st (V := T27.setTop (mkF m 13 #[.val (.ref o1), .val (.int (1 : Int32)), .val (.ref o2), .val (.int (1 : Int32)), .val (.int (2 : Int32)), .val (.int (1 : Int32)), .val (.int x1)] [(.int x2)])) (fun t k => X27.caload hx (j := (1 : Int32)) (v := (.int x2)) (by rw [e27]; exact Ar28.1) (State.isArrayOf_alike hZ.alike Ar28.2.1) Ar28.2.2 hin28 (Has.at hs28 hin28 rfl) (g := (mkF m 12 #[.val (.ref o1), .val (.int (1 : Int32)), .val (.ref o2), .val (.int (1 : Int32)), .val (.int (2 : Int32)), .val (.int (1 : Int32)), .val (.int x1)] [(.int (1 : Int32)), (.ref o1)])) rfl rfl (hb hby own_d10_12) _ k) ?_
  refine own_st (V := T27.setTop (mkF m 15 #[.val (.ref o1), .val (.int (1 : Int32)), .val (.ref o2), .val (.int (1 : Int32)), .val (.int (2 : Int32)), .val (.int (1 : Int32)), .val (.int x2)] [])) (fun t k => XS.istore X27.here hx rfl (hb hby own_d10_13) rfl (l' := #[.val (.ref o1), .val (.int (1 : Int32)), .val (.ref o2), .val (.int (1 : Int32)), .val (.int (2 : Int32)), .val (.int (1 : Int32)), .val (.int x2)]) rfl k) ?_
  refine own_st (V := T27.setTop (mkF m 17 #[.val (.ref o1), .val (.int (1 : Int32)), .val (.ref o2), .val (.int (1 : Int32)), .val (.int (2 : Int32)), .val (.int (1 : Int32)), .val (.int x2)] [(.int x2)])) (fun t k => XS.iload X27.here hx rfl (hb hby own_d10_15) rfl k) ?_
  refine own_st (V := T27.setTop (mkF m 20 #[.val (.ref o1), .val (.int (1 : Int32)), .val (.ref o2), .val (.int (1 : Int32)), .val (.int (2 : Int32)), .val (.int (1 : Int32)), .val (.int x2)] [(.int (255 : Int32)), (.int x2)])) (fun t k => XS.sipush X27.here hx rfl (hb hby own_d10_17) k) ?_
  refine own_st (V := T27.setTop (mkF m 26 #[.val (.ref o1), .val (.int (1 : Int32)), .val (.ref o2), .val (.int (1 : Int32)), .val (.int (2 : Int32)), .val (.int (1 : Int32)), .val (.int x2)] [])) (fun t k => XS.icmpYes X27.here hx rfl (pc0 := 20) (pc' := 26) rfl (hb hby own_d10_20) rfl (flt hx2).2.2.2 (by decide) (by decide) k) ?_
  refine own_st (V := T27.setTop (mkF m 27 #[.val (.ref o1), .val (.int (1 : Int32)), .val (.ref o2), .val (.int (1 : Int32)), .val (.int (2 : Int32)), .val (.int (1 : Int32)), .val (.int x2)] [(.ref o2)])) (fun t k => XS.aloadN X27.here hx rfl (hb hby own_d10_26) rfl rfl k) ?_
  refine own_st (V := T27.setTop (mkF m 28 #[.val (.ref o1), .val (.int (1 : Int32)), .val (.ref o2), .val (.int (1 : Int32)), .val (.int (2 : Int32)), .val (.int (1 : Int32)), .val (.int x2)] [(.int (1 : Int32)), (.ref o2)])) (fun t k => XS.iloadN X27.here hx rfl (hb hby own_d10_27) rfl k) ?_
  refine own_st (V := T27.setTop (mkF m 30 #[.val (.ref o1), .val (.int (1 : Int32)), .val (.ref o2), .val (.int (1 : Int32)), .val (.int (2 : Int32)), .val (.int (1 : Int32)), .val (.int x2)] [(.int x2), (.int (1 : Int32)), (.ref o2)])) (fun t k => XS.iload X27.here hx rfl (hb hby own_d10_28) rfl k) ?_
  refine own_st (V := T27.setTop (mkF m 31 #[.val (.ref o1), .val (.int (1 : Int32)), .val (.ref o2), .val (.int (1 : Int32)), .val (.int (2 : Int32)), .val (.int (1 : Int32)), .val (.int x2)] [(.int (x2.toInt8.toInt32)), (.int (1 : Int32)), (.ref o2)])) (fun t k => XS.i2b X27.here hx rfl (hb hby own_d10_30) rfl k) ?_
  have Vk29 := V27_o2
  obtain ⟨cl29, Ar29, qk29, sz29, nn29, hs29, fs29⟩ := Vk29
  have hin29 : ¬ ((1 : Int32) < 0 ∨ cl29.slots.size ≤ ((1 : Int32)).toNatClampNeg) := inb_of sz29 ⟨by decide, by decide⟩
  obtain ⟨T29, h29, X29, e29, W29, st29⟩ := stB X27 hx hZ e27 Ar29 (j := (1 : Int32)) hin29 (g := (mkF m 31 #[.val (.ref o1), .val (.int (1 : Int32)), .val (.ref o2), .val (.int (1 : Int32)), .val (.int (2 : Int32)), .val (.int (1 : Int32)), .val (.int x2)] [(.int (x2.toInt8.toInt32)), (.int (1 : Int32)), (.ref o2)])) rfl rfl (hb hby own_d10_31)
  have V29_o2 := Arv.set Ar29 qk29 sz29 nn29 hs29 fs29 (fits_nar_byte _) W29 1 rfl (Nat.le_of_ble_eq_true rfl)
  have N29 := Fr.snoc X29 N27 g2
  have Z0_29 : n0 ≤ h29.size := by rw [W29.size]; exact Z0_27
  have Kc29 := Kc27.wr W29 (Or.inl (List.mem_of_getElem? (i := 0) rfl))
  have V29_o1 := V27_o1.other W29 n12
  refine own_st (V := T29.setTop (mkF m 32 #[.val (.ref o1), .val (.int (1 : Int32)), .val (.ref o2), .val (.int (1 : Int32)), .val (.int (2 : Int32)), .val (.int (1 : Int32)), .val (.int x2)] [])) (fun t k => st29 _ k) ?_
  refine own_st (V := T29.setTop (mkF m 35 #[.val (.ref o1), .val (.int ((1 : Int32) + (1 : Int32))), .val (.ref o2), .val (.int (1 : Int32)), .val (.int (2 : Int32)), .val (.int (1 : Int32)), .val (.int x2)] [])) (fun t k => XS.iinc X29.here hx rfl (hb hby own_d10_32) rfl (l' := #[.val (.ref o1), .val (.int ((1 : Int32) + (1 : Int32))), .val (.ref o2), .val (.int (1 : Int32)), .val (.int (2 : Int32)), .val (.int (1 : Int32)), .val (.int x2)]) rfl k) ?_
  rw [show ((1 : Int32) + (1 : Int32)) = (2 : Int32) from by decide +kernel]
  refine own_st (V := T29.setTop (mkF m 38 #[.val (.ref o1), .val (.int (2 : Int32)), .val (.ref o2), .val (.int ((1 : Int32) + (1 : Int32))), .val (.int (2 : Int32)), .val (.int (1 : Int32)), .val (.int x2)] [])) (fun t k => XS.iinc X29.here hx rfl (hb hby own_d10_35) rfl (l' := #[.val (.ref o1), .val (.int (2 : Int32)), .val (.ref o2), .val (.int ((1 : Int32) + (1 : Int32))), .val (.int (2 : Int32)), .val (.int (1 : Int32)), .val (.int x2)]) rfl k) ?_
  rw [show ((1 : Int32) + (1 : Int32)) = (2 : Int32) from by decide +kernel]
  refine own_st (V := T29.setTop (mkF m 41 #[.val (.ref o1), .val (.int (2 : Int32)), .val (.ref o2), .val (.int (2 : Int32)), .val (.int (2 : Int32)), .val (.int ((1 : Int32) + (1 : Int32))), .val (.int x2)] [])) (fun t k => XS.iinc X29.here hx rfl (hb hby own_d10_38) rfl (l' := #[.val (.ref o1), .val (.int (2 : Int32)), .val (.ref o2), .val (.int (2 : Int32)), .val (.int (2 : Int32)), .val (.int ((1 : Int32) + (1 : Int32))), .val (.int x2)]) rfl k) ?_
  rw [show ((1 : Int32) + (1 : Int32)) = (2 : Int32) from by decide +kernel]
  refine own_st (V := T29.setTop (mkF m 3 #[.val (.ref o1), .val (.int (2 : Int32)), .val (.ref o2), .val (.int (2 : Int32)), .val (.int (2 : Int32)), .val (.int (2 : Int32)), .val (.int x2)] [])) (fun t k => XS.goto X29.here hx rfl (pc0 := 41) (pc' := 3) rfl (hb hby own_d10_41) (by decide) (by decide) k) ?_
  refine own_st (V := T29.setTop (mkF m 5 #[.val (.ref o1), .val (.int (2 : Int32)), .val (.ref o2), .val (.int (2 : Int32)), .val (.int (2 : Int32)), .val (.int (2 : Int32)), .val (.int x2)] [(.int (2 : Int32))])) (fun t k => XS.iload X29.here hx rfl (hb hby own_d10_3) rfl k) ?_
  refine own_st (V := T29.setTop (mkF m 7 #[.val (.ref o1), .val (.int (2 : Int32)), .val (.ref o2), .val (.int (2 : Int32)), .val (.int (2 : Int32)), .val (.int (2 : Int32)), .val (.int x2)] [(.int (2 : Int32)), (.int (2 : Int32))])) (fun t k => XS.iload X29.here hx rfl (hb hby own_d10_5) rfl k) ?_
  refine own_st (V := T29.setTop (mkF m 44 #[.val (.ref o1), .val (.int (2 : Int32)), .val (.ref o2), .val (.int (2 : Int32)), .val (.int (2 : Int32)), .val (.int (2 : Int32)), .val (.int x2)] [])) (fun t k => XS.icmpYes X29.here hx rfl (pc0 := 7) (pc' := 44) rfl (hb hby own_d10_7) rfl (flt (by decide : ¬ ((2 : Int32) < (2 : Int32)))).2.1 (by decide) (by decide) k) ?_
  refine own_st (V := T29.setTop (mkF m 46 #[.val (.ref o1), .val (.int (2 : Int32)), .val (.ref o2), .val (.int (2 : Int32)), .val (.int (2 : Int32)), .val (.int (2 : Int32)), .val (.int x2)] [(.int (2 : Int32))])) (fun t k => XS.iload X29.here hx rfl (hb hby own_d10_44) rfl k) ?_
  exact own_ret X29 hx hlk Bd.returns rfl (Or.inl ⟨rfl, by simp, _, rfl⟩) (hb hby own_d10_46) (by decide) (by decide) (by show Q_own_c5_2 Z o1 o2 k1 k2 x1 x2 h0 n0 _ T29.heap _; rw [e29]; exact ⟨rfl, N29, Kc29, _, V29_o2⟩)
def Q_own_c3_2 (Z : State) (o1 : Addr) (k1 : ClassId) (x1 x2 : Int32) (h0 : Heap) (n0 : Nat) (v : Option Value) (h : Heap) (L : List Loc) : Prop := ∃ b, v = some (.ref b) ∧ Fr n0 L ∧ Keep h0 h [] ∧ h0.size ≤ b ∧ n0 ≤ b ∧ ∃ k2 vs, Arv Z h b k2 .byte (2 : Int32) vs (.int (0 : Int32))
set_option maxRecDepth 65536 in
set_option maxHeartbeats 40000000 in
theorem own_c3_2 (l : Launch) (Z : State) (a0 : Array Value) (hw : ∀ d ∈ tables_1, d.before a0 Z = true) (ws : List Jvm.Cond) (o1 : Addr) (k1 : ClassId) (x1 x2 : Int32) (h0 : Heap) (n0 : Nat) (Z0 : n0 ≤ h0.size) (V1 : Arv Z h0 o1 k1 .char (2 : Int32) [(.int x1), (.int x2)] (.int (0 : Int32))) (hx1 : ¬ ((255 : Int32) < x1)) (hx2 : ¬ ((255 : Int32) < x2)) :
    MetFree l (⟨"java/lang/StringUTF16", "compress", "([CII)[B"⟩ : MethodName) (head1 (Jvm.Cond.code (⟨"java/lang/StringUTF16", "compress", "([CII)[B"⟩ : MethodName) jdk_52_method_16_code 6 (some (.array .byte)) :: ws) ({ frames := 1, cells := 1, slots := 2, locals := 18 } : Room)) (fun a U => a = #[(.ref o1), (.int (0 : Int32)), (.int (2 : Int32))] ∧ Z.Warmed39 U.vm ∧ U.heap = h0) (fun _ _ _ _ _ => True) (fun _ U o U' => ∃ v L, o = .returned v ∧ Q_own_c3_2 Z o1 k1 x1 x2 h0 n0 v U'.heap L ∧ FrameEnd U o U' L ({ frames := 1, cells := 1, slots := 2, locals := 18 } : Room).cells ({ frames := 1, cells := 1, slots := 2, locals := 18 } : Room).slots) := by
  refine MetFree.of_bodySF (plainFor_of_name own_pn_java_lang_StringUTF16) hisR ?_
  intro p e s m args below meth c s₁ Bd hml0 hP hK
  obtain ⟨rfl, hZ, hh⟩ := hP
  have hx := Bd.exec
  have hby := Bd.bytes
  have hml : c.maxLocals = 6 := hml0
  have hown : s.vm.findClass "java/lang/StringUTF16" = some m.cls := findClass_of_methodNamed Bd.named
  have hnm := (name_of_methodNamed Bd.named Bd.method).1
  have hlk : meth.locks = false := BodyLoose.notSynchronized Bd
  have X0 : Stand p l e ({ frames := 1, cells := 1, slots := 2, locals := 18 } : Room) s m #[(.ref o1), (.int (0 : Int32)), (.int (2 : Int32))] below meth c s₁ [] 0 0 := Stand.of_body Bd
  have e0 : s₁.heap = h0 := by rw [← hh, Bd.state]; rfl
  have N0 := Fr.nil n0
  show own_Go p e below #[(.ref o1), (.int (0 : Int32)), (.int (2 : Int32))] s (fun _ U o U' => ∃ v L, o = .returned v ∧ Q_own_c3_2 Z o1 k1 x1 x2 h0 n0 v U'.heap L ∧ FrameEnd U o U' L ({ frames := 1, cells := 1, slots := 2, locals := 18 } : Room).cells ({ frames := 1, cells := 1, slots := 2, locals := 18 } : Room).slots) (s₁.setTop (entryFrame m #[(.ref o1), (.int (0 : Int32)), (.int (2 : Int32))] 6))
  refine own_st (V := s₁.setTop (mkF m 0 #[.val (.ref o1), .val (.int (0 : Int32)), .val (.int (2 : Int32)), .unset, .unset, .unset] [])) (fun t k => castTop (by first | (simp [entryFrame, mkF, argsToLocals, Value.category]; done) | rfl) k) ?_
  refine own_st (V := s₁.setTop (mkF m 1 #[.val (.ref o1), .val (.int (0 : Int32)), .val (.int (2 : Int32)), .unset, .unset, .unset] [(.int (2 : Int32))])) (fun t k => XS.iloadN X0.here hx rfl (hb hby own_d9_0) rfl k) ?_
  obtain ⟨T30, h30, k30, X30, e30, E30, A30, st30⟩ := newP X0 hx hZ (hw _ (List.mem_of_getElem? (i := 19) rfl)) e0 (g := (mkF m 1 #[.val (.ref o1), .val (.int (0 : Int32)), .val (.int (2 : Int32)), .unset, .unset, .unset] [(.int (2 : Int32))])) rfl (hb hby own_d9_1) rfl (by decide) (cap := 2) (by decide) (by decide) (by decide) (by decide)
  obtain ⟨b30, g30⟩ : ∃ z, z = h0.size := ⟨_, rfl⟩
  rw [← g30] at A30 st30
  have gb_b30 : n0 ≤ b30 := Nat.le_trans Z0 (Nat.le_of_eq g30.symm)
  have Z0_30 : n0 ≤ h30.size := Nat.le_trans Z0 E30.1
  have sz_b30 : h0.size ≤ b30 := Nat.le_trans (Keep.refl h0 []).1 (Nat.le_of_eq g30.symm)
  have Kc30 := (Keep.refl h0 []).ext E30
  have ne_o1_b30 : o1 ≠ b30 := Nat.ne_of_lt (Nat.lt_of_lt_of_le V1.lt (Nat.le_of_eq g30.symm))
  have V30_o1 := V1.ext E30
  have V30_b30 : Arv Z h30 b30 k30 .byte (2 : Int32) [(.int (0 : Int32)), (.int (0 : Int32))] (.int (0 : Int32)) := (Arv.new A30 (by decide)).pad (pad_rep [] (.int (0 : Int32)) 2)
  refine own_st (V := T30.setTop (mkF m 3 #[.val (.ref o1), .val (.int (0 : Int32)), .val (.int (2 : Int32)), .unset, .unset, .unset] [(.ref b30)])) (fun t k => st30 _ k) ?_
  refine own_st (V := T30.setTop (mkF m 4 #[.val (.ref o1), .val (.int (0 : Int32)), .val (.int (2 : Int32)), .val (.ref b30), .unset, .unset] [])) (fun t k => XS.astoreN X30.here hx rfl (hb hby own_d9_3) rfl rfl (l' := #[.val (.ref o1), .val (.int (0 : Int32)), .val (.int (2 : Int32)), .val (.ref b30), .unset, .unset]) rfl k) ?_
  refine own_st (V := T30.setTop (mkF m 5 #[.val (.ref o1), .val (.int (0 : Int32)), .val (.int (2 : Int32)), .val (.ref b30), .unset, .unset] [(.ref o1)])) (fun t k => XS.aloadN X30.here hx rfl (hb hby own_d9_4) rfl rfl k) ?_
  refine own_st (V := T30.setTop (mkF m 6 #[.val (.ref o1), .val (.int (0 : Int32)), .val (.int (2 : Int32)), .val (.ref b30), .unset, .unset] [(.int (0 : Int32)), (.ref o1)])) (fun t k => XS.iloadN X30.here hx rfl (hb hby own_d9_5) rfl k) ?_
  refine own_st (V := T30.setTop (mkF m 7 #[.val (.ref o1), .val (.int (0 : Int32)), .val (.int (2 : Int32)), .val (.ref b30), .unset, .unset] [(.ref b30), (.int (0 : Int32)), (.ref o1)])) (fun t k => XS.aloadN X30.here hx rfl (hb hby own_d9_6) rfl rfl k) ?_
  refine own_st (V := T30.setTop (mkF m 8 #[.val (.ref o1), .val (.int (0 : Int32)), .val (.int (2 : Int32)), .val (.ref b30), .unset, .unset] [(.int (0 : Int32)), (.ref b30), (.int (0 : Int32)), (.ref o1)])) (fun t k => XS.iconst X30.here hx rfl (hb hby own_d9_7) k) ?_
  refine own_st (V := T30.setTop (mkF m 9 #[.val (.ref o1), .val (.int (0 : Int32)), .val (.int (2 : Int32)), .val (.ref b30), .unset, .unset] [(.int (2 : Int32)), (.int (0 : Int32)), (.ref b30), (.int (0 : Int32)), (.ref o1)])) (fun t k => XS.iloadN X30.here hx rfl (hb hby own_d9_8) rfl k) ?_
  obtain ⟨_, _, ⟨T31, L31, k31, n31⟩, -, X31, ⟨Lc31, hQ31, l31, y31, z31⟩, st31⟩ := Jvm.LawKit.callS X30 hx (y := (⟨"java/lang/StringUTF16", "compress", "([CI[BII)I"⟩ : MethodName)) hown (mvT hZ (hw _ (List.mem_of_getElem? (i := 57) rfl))) (mvT hZ (hw _ (List.mem_of_getElem? (i := 58) rfl))) (mvT hZ (hw _ (List.mem_of_getElem? (i := 55) rfl))) (mvT hZ (hw _ (List.mem_of_getElem? (i := 59) rfl))) (by decide) (backOf (W := 0) (own_c5_2 l Z a0 hw [] o1 b30 k1 k30 x1 x2 h30 n0 Z0_30 V30_o1 V30_b30 ne_o1_b30 gb_b30 hx1 hx2) hZ (hw _ (List.mem_of_getElem? (i := 59) rfl)) (hw _ (List.mem_of_getElem? (i := 55) rfl)) (by decide) (by decide)) (g := (mkF m 9 #[.val (.ref o1), .val (.int (0 : Int32)), .val (.int (2 : Int32)), .val (.ref b30), .unset, .unset] [(.int (2 : Int32)), (.int (0 : Int32)), (.ref b30), (.int (0 : Int32)), (.ref o1)])) rfl (by rw [hml]; rfl) (argsL := [(.ref o1), (.int (0 : Int32)), (.ref b30), (.int (0 : Int32)), (.int (2 : Int32))]) (rest := []) (lenOf own_pd2 rfl) rfl (by show 2 * 0 + _ ≤ _; exact Nat.le_of_eq rfl) (hb hby own_d9_9) (fun _ _ => ⟨rfl, e30, (by decide : 1 + 0 ≤ _), (by decide : 2 + 0 ≤ _)⟩)
  dsimp only [Pt.U, Pt.locs, Pt.cells, Pt.slots] at X31 l31 y31 z31 st31 hQ31
  subst l31 y31 z31
  obtain ⟨rfl, N31q, K31, vs31, Vq31⟩ := hQ31
  have N31 := Fr.app N0 N31q
  have Z0_31 : n0 ≤ T31.heap.size := Nat.le_trans Z0_30 K31.1
  have Kc31 := Kc30.trans K31 (fun x hx => Or.inr (by cases List.mem_singleton.mp hx; exact sz_b30))
  have V31_o1 := V30_o1.keep K31 (ninS ne_o1_b30 nin0)
  refine own_st (V := T31.setTop (mkF m 12 #[.val (.ref o1), .val (.int (0 : Int32)), .val (.int (2 : Int32)), .val (.ref b30), .unset, .unset] [(.int (2 : Int32))])) (fun t k => st31 _ k) ?_
  refine own_st (V := T31.setTop (mkF m 14 #[.val (.ref o1), .val (.int (0 : Int32)), .val (.int (2 : Int32)), .val (.ref b30), .val (.int (2 : Int32)), .unset] [])) (fun t k => XS.istore X31.here hx rfl (hb hby own_d9_12) rfl (l' := #[.val (.ref o1), .val (.int (0 : Int32)), .val (.int (2 : Int32)), .val (.ref b30), .val (.int (2 : Int32)), .unset]) rfl k) ?_
  refine own_st (V := T31.setTop (mkF m 16 #[.val (.ref o1), .val (.int (0 : Int32)), .val (.int (2 : Int32)), .val (.ref b30), .val (.int (2 : Int32)), .unset] [(.int (2 : Int32))])) (fun t k => XS.iload X31.here hx rfl (hb hby own_d9_14) rfl k) ?_
  refine own_st (V := T31.setTop (mkF m 17 #[.val (.ref o1), .val (.int (0 : Int32)), .val (.int (2 : Int32)), .val (.ref b30), .val (.int (2 : Int32)), .unset] [(.int (2 : Int32)), (.int (2 : Int32))])) (fun t k => XS.iloadN X31.here hx rfl (hb hby own_d9_16) rfl k) ?_
  refine own_st (V := T31.setTop (mkF m 57 #[.val (.ref o1), .val (.int (0 : Int32)), .val (.int (2 : Int32)), .val (.ref b30), .val (.int (2 : Int32)), .unset] [])) (fun t k => XS.icmpYes X31.here hx rfl (pc0 := 17) (pc' := 57) rfl (hb hby own_d9_17) rfl (teq (by decide : (2 : Int32) = (2 : Int32))).1 (by decide) (by decide) k) ?_
  refine own_st (V := T31.setTop (mkF m 58 #[.val (.ref o1), .val (.int (0 : Int32)), .val (.int (2 : Int32)), .val (.ref b30), .val (.int (2 : Int32)), .unset] [(.ref b30)])) (fun t k => XS.aloadN X31.here hx rfl (hb hby own_d9_57) rfl rfl k) ?_
  exact own_ret X31 hx hlk Bd.returns rfl (Or.inr (Or.inr (Or.inr (Or.inr ⟨rfl, rfl, rfl⟩)))) (hb hby own_d9_58) (by decide) (by decide) (by show Q_own_c3_2 Z o1 k1 x1 x2 h0 n0 _ T31.heap _; exact ⟨_, rfl, N31, Kc31, sz_b30, gb_b30, _, _, Vq31⟩)
def Q_own_cf_2 (Z : State) (o1 : Addr) (k1 : ClassId) (vs : List Value) (h0 : Heap) (n0 : Nat) (v : Option Value) (h : Heap) (L : List Loc) : Prop := v = some (.int (0 : Int32)) ∧ Fr n0 L ∧ h = h0
set_option maxRecDepth 65536 in
set_option maxHeartbeats 40000000 in
theorem own_cf_2 (l : Launch) (Z : State) (a0 : Array Value) (hw : ∀ d ∈ tables_1, d.before a0 Z = true) (ws : List Jvm.Cond) (o1 : Addr) (k1 : ClassId) (vs : List Value) (h0 : Heap) (n0 : Nat) (Z0 : n0 ≤ h0.size) (V1 : Arv Z h0 o1 k1 .byte (2 : Int32) vs (.int (0 : Int32))) :
    MetFree l (⟨"java/lang/StringUTF16", "coderFromArrayLen", "([BI)B"⟩ : MethodName) (head1 (Jvm.Cond.code (⟨"java/lang/StringUTF16", "coderFromArrayLen", "([BI)B"⟩ : MethodName) jdk_52_method_15_code 2 (some .byte) :: ws) ({ frames := 0, cells := 0, slots := 0, locals := 0 } : Room)) (fun a U => a = #[(.ref o1), (.int (2 : Int32))] ∧ Z.Warmed39 U.vm ∧ U.heap = h0) (fun _ _ _ _ _ => True) (fun _ U o U' => ∃ v L, o = .returned v ∧ Q_own_cf_2 Z o1 k1 vs h0 n0 v U'.heap L ∧ FrameEnd U o U' L ({ frames := 0, cells := 0, slots := 0, locals := 0 } : Room).cells ({ frames := 0, cells := 0, slots := 0, locals := 0 } : Room).slots) := by
  refine MetFree.of_bodySF (plainFor_of_name own_pn_java_lang_StringUTF16) hisR ?_
  intro p e s m args below meth c s₁ Bd hml0 hP hK
  obtain ⟨rfl, hZ, hh⟩ := hP
  have hx := Bd.exec
  have hby := Bd.bytes
  have hml : c.maxLocals = 2 := hml0
  have hown : s.vm.findClass "java/lang/StringUTF16" = some m.cls := findClass_of_methodNamed Bd.named
  have hnm := (name_of_methodNamed Bd.named Bd.method).1
  have hlk : meth.locks = false := BodyLoose.notSynchronized Bd
  have X0 : Stand p l e ({ frames := 0, cells := 0, slots := 0, locals := 0 } : Room) s m #[(.ref o1), (.int (2 : Int32))] below meth c s₁ [] 0 0 := Stand.of_body Bd
  have e0 : s₁.heap = h0 := by rw [← hh, Bd.state]; rfl
  have N0 := Fr.nil n0
  show own_Go p e below #[(.ref o1), (.int (2 : Int32))] s (fun _ U o U' => ∃ v L, o = .returned v ∧ Q_own_cf_2 Z o1 k1 vs h0 n0 v U'.heap L ∧ FrameEnd U o U' L ({ frames := 0, cells := 0, slots := 0, locals := 0 } : Room).cells ({ frames := 0, cells := 0, slots := 0, locals := 0 } : Room).slots) (s₁.setTop (entryFrame m #[(.ref o1), (.int (2 : Int32))] 2))
  refine own_st (V := s₁.setTop (mkF m 0 #[.val (.ref o1), .val (.int (2 : Int32))] [])) (fun t k => castTop (by first | (simp [entryFrame, mkF, argsToLocals, Value.category]; done) | rfl) k) ?_
  refine own_st (V := s₁.setTop (mkF m 1 #[.val (.ref o1), .val (.int (2 : Int32))] [(.int (2 : Int32))])) (fun t k => XS.iloadN X0.here hx rfl (hb hby own_d11_0) rfl k) ?_
  refine own_st (V := s₁.setTop (mkF m 2 #[.val (.ref o1), .val (.int (2 : Int32))] [(.ref o1), (.int (2 : Int32))])) (fun t k => XS.aloadN X0.here hx rfl (hb hby own_d11_1) rfl rfl k) ?_
  have Vk32 := V1
  obtain ⟨cl32, Ar32, qk32, sz32, nn32, hs32, fs32⟩ := Vk32
  refine own_st (V := s₁.setTop (mkF m 3 #[.val (.ref o1), .val (.int (2 : Int32))] [(.int (2 : Int32)), (.int (2 : Int32))])) (fun t k => X0.arraylength hx (by rw [e0]; exact Ar32.1) (State.isArrayOf_alike hZ.alike Ar32.2.1) (g := (mkF m 2 #[.val (.ref o1), .val (.int (2 : Int32))] [(.ref o1), (.int (2 : Int32))])) rfl rfl (hb hby own_d11_2) _ (by rw [len_of sz32 nn32]; exact k)) ?_
  refine own_st (V := s₁.setTop (mkF m 4 #[.val (.ref o1), .val (.int (2 : Int32))] [(.int ((2 : Int32) - (2 : Int32)))])) (fun t k => XS.isub X0.here hx rfl (hb hby own_d11_3) rfl k) ?_
  refine own_st (V := s₁.setTop (mkF m 6 #[.val (.ref o1), .val (.int (2 : Int32))] [(.int (31 : Int32)), (.int ((2 : Int32) - (2 : Int32)))])) (fun t k => XS.bipush X0.here hx rfl (hb hby own_d11_4) k) ?_
  refine own_st (V := s₁.setTop (mkF m 7 #[.val (.ref o1), .val (.int (2 : Int32))] [(.int ((((2 : Int32) - (2 : Int32)).toUInt32 >>> ((31 : Int32) &&& 31).toUInt32).toInt32))])) (fun t k => XS.iushr X0.here hx rfl (hb hby own_d11_6) rfl k) ?_
  refine own_st (V := s₁.setTop (mkF m 8 #[.val (.ref o1), .val (.int (2 : Int32))] [(.int (((((2 : Int32) - (2 : Int32)).toUInt32 >>> ((31 : Int32) &&& 31).toUInt32).toInt32).toInt8.toInt32))])) (fun t k => XS.i2b X0.here hx rfl (hb hby own_d11_7) rfl k) ?_
  rw [show (((((2 : Int32) - (2 : Int32)).toUInt32 >>> ((31 : Int32) &&& 31).toUInt32).toInt32).toInt8.toInt32) = (0 : Int32) from by decide +kernel]
  exact own_ret X0 hx hlk Bd.returns (by decide +kernel) (Or.inl ⟨rfl, by simp, _, rfl⟩) (hb hby own_d11_8) (by decide) (by decide) (by show Q_own_cf_2 Z o1 k1 vs h0 n0 _ s₁.heap _; rw [e0]; exact ⟨rfl, N0, rfl⟩)
def Q_own_s4_2 (Z : State) (o1 o2 : Addr) (k2 : ClassId) (cs : Int32) (x1 x2 : Int32) (h0 : Heap) (n0 : Nat) (v : Option Value) (h : Heap) (L : List Loc) : Prop := v = none ∧ Fr n0 L ∧ Keep h0 h [o1] ∧ Exa Z h o1 "java/lang/String" ∧ ∃ b k vs, h0.size ≤ b ∧ Fld Z h o1 "java/lang/String" "value" "[B" (.ref b) ∧ Arv Z h b k .byte (2 : Int32) vs (.int (0 : Int32))
set_option maxRecDepth 65536 in
set_option maxHeartbeats 40000000 in
theorem own_s4_2 (l : Launch) (Z : State) (a0 : Array Value) (hw : ∀ d ∈ tables_1, d.before a0 Z = true) (ws : List Jvm.Cond) (o1 o2 : Addr) (k2 : ClassId) (cs : Int32) (x1 x2 : Int32) (h0 : Heap) (n0 : Nat) (Z0 : n0 ≤ h0.size) (Od : Old Z n0 h0) (SC : Sta Z Z.heap "java/lang/String" "COMPACT_STRINGS" "Z" (.int cs)) (hcs : ¬ (cs = (0 : Int32))) (E1 : Exa Z h0 o1 "java/lang/String") (g1 : n0 ≤ o1) (F1 : Fld Z h0 o1 "java/lang/String" "value" "[B" .null) (F2 : Fld Z h0 o1 "java/lang/String" "coder" "B" (.int (0 : Int32))) (V2 : Arv Z h0 o2 k2 .char (2 : Int32) [(.int x1), (.int x2)] (.int (0 : Int32))) (n21 : o2 ≠ o1) (hx1 : ¬ ((255 : Int32) < x1)) (hx2 : ¬ ((255 : Int32) < x2)) :
    MetFree l (⟨"java/lang/String", "<init>", "([CIILjava/lang/Void;)V"⟩ : MethodName) (head1 (Jvm.Cond.code (⟨"java/lang/String", "<init>", "([CIILjava/lang/Void;)V"⟩ : MethodName) jdk_42_method_149_code 6 none :: ws) ({ frames := 2, cells := 1, slots := 2, locals := 35 } : Room)) (fun a U => a = #[(.ref o1), (.ref o2), (.int (0 : Int32)), (.int (2 : Int32)), .null] ∧ Z.Warmed39 U.vm ∧ U.heap = h0) (fun _ _ _ _ _ => True) (fun _ U o U' => ∃ v L, o = .returned v ∧ Q_own_s4_2 Z o1 o2 k2 cs x1 x2 h0 n0 v U'.heap L ∧ FrameEnd U o U' L ({ frames := 2, cells := 1, slots := 2, locals := 35 } : Room).cells ({ frames := 2, cells := 1, slots := 2, locals := 35 } : Room).slots) := by
  refine MetFree.of_bodySF (plainFor_of_name own_pn_java_lang_String) hisR ?_
  intro p e s m args below meth c s₁ Bd hml0 hP hK
  obtain ⟨rfl, hZ, hh⟩ := hP
  have hx := Bd.exec
  have hby := Bd.bytes
  have hml : c.maxLocals = 6 := hml0
  have hown : s.vm.findClass "java/lang/String" = some m.cls := findClass_of_methodNamed Bd.named
  have hnm := (name_of_methodNamed Bd.named Bd.method).1
  have hlk : meth.locks = false := BodyLoose.notSynchronized Bd
  have X0 : Stand p l e ({ frames := 2, cells := 1, slots := 2, locals := 35 } : Room) s m #[(.ref o1), (.ref o2), (.int (0 : Int32)), (.int (2 : Int32)), .null] below meth c s₁ [] 0 0 := Stand.of_body Bd
  have e0 : s₁.heap = h0 := by rw [← hh, Bd.state]; rfl
  have N0 := Fr.nil n0
  show own_Go p e below #[(.ref o1), (.ref o2), (.int (0 : Int32)), (.int (2 : Int32)), .null] s (fun _ U o U' => ∃ v L, o = .returned v ∧ Q_own_s4_2 Z o1 o2 k2 cs x1 x2 h0 n0 v U'.heap L ∧ FrameEnd U o U' L ({ frames := 2, cells := 1, slots := 2, locals := 35 } : Room).cells ({ frames := 2, cells := 1, slots := 2, locals := 35 } : Room).slots) (s₁.setTop (entryFrame m #[(.ref o1), (.ref o2), (.int (0 : Int32)), (.int (2 : Int32)), .null] 6))
  refine own_st (V := s₁.setTop (mkF m 0 #[.val (.ref o1), .val (.ref o2), .val (.int (0 : Int32)), .val (.int (2 : Int32)), .val .null, .unset] [])) (fun t k => castTop (by first | (simp [entryFrame, mkF, argsToLocals, Value.category]; done) | rfl) k) ?_
  refine own_st (V := s₁.setTop (mkF m 1 #[.val (.ref o1), .val (.ref o2), .val (.int (0 : Int32)), .val (.int (2 : Int32)), .val .null, .unset] [(.ref o1)])) (fun t k => XS.aloadN X0.here hx rfl (hb hby own_d3_0) rfl rfl k) ?_
  obtain ⟨T33, X33, e33, st33⟩ := initO X0 hx hZ hown (hw _ (List.mem_of_getElem? (i := 15) rfl)) (hw _ (List.mem_of_getElem? (i := 16) rfl)) (hw _ (List.mem_of_getElem? (i := 17) rfl)) e0 (g := (mkF m 1 #[.val (.ref o1), .val (.ref o2), .val (.int (0 : Int32)), .val (.int (2 : Int32)), .val .null, .unset] [(.ref o1)])) rfl (by rw [hml]; rfl) rfl (hb hby own_d3_1) (by decide) (W := 0) (by show 2 * 0 + _ ≤ _; exact Nat.le_of_eq rfl) (by decide)
  refine own_st (V := T33.setTop (mkF m 4 #[.val (.ref o1), .val (.ref o2), .val (.int (0 : Int32)), .val (.int (2 : Int32)), .val .null, .unset] [])) (fun t k => st33 _ k) ?_
  refine own_st (V := T33.setTop (mkF m 5 #[.val (.ref o1), .val (.ref o2), .val (.int (0 : Int32)), .val (.int (2 : Int32)), .val .null, .unset] [(.int (2 : Int32))])) (fun t k => XS.iloadN X33.here hx rfl (hb hby own_d3_4) rfl k) ?_
  refine own_st (V := T33.setTop (mkF m 27 #[.val (.ref o1), .val (.ref o2), .val (.int (0 : Int32)), .val (.int (2 : Int32)), .val .null, .unset] [])) (fun t k => XS.ifYes X33.here hx rfl (pc0 := 5) (pc' := 27) rfl (hb hby own_d3_5) rfl ((if0 _ _).trans (feq (by decide : ¬ ((2 : Int32) = (0 : Int32)))).2) (by decide) (by decide) k) ?_
  obtain ⟨T34, X34, e34, st34⟩ := getS2 X33 hx hZ hown (host := "") (Or.inl (hw _ (List.mem_of_getElem? (i := 52) rfl))) Via.refl e33 (own_so Od SC) (g := (mkF m 27 #[.val (.ref o1), .val (.ref o2), .val (.int (0 : Int32)), .val (.int (2 : Int32)), .val .null, .unset] [])) rfl (hb hby own_d3_27)
  refine own_st (V := T34.setTop (mkF m 30 #[.val (.ref o1), .val (.ref o2), .val (.int (0 : Int32)), .val (.int (2 : Int32)), .val .null, .unset] [(.int cs)])) (fun t k => st34 _ k) ?_
  refine own_st (V := T34.setTop (mkF m 33 #[.val (.ref o1), .val (.ref o2), .val (.int (0 : Int32)), .val (.int (2 : Int32)), .val .null, .unset] [])) (fun t k => XS.ifNo X34.here hx rfl (hb hby own_d3_30) rfl ((if0 _ _).trans (feq hcs).1) k) ?_
  refine own_st (V := T34.setTop (mkF m 34 #[.val (.ref o1), .val (.ref o2), .val (.int (0 : Int32)), .val (.int (2 : Int32)), .val .null, .unset] [(.ref o2)])) (fun t k => XS.aloadN X34.here hx rfl (hb hby own_d3_33) rfl rfl k) ?_
  refine own_st (V := T34.setTop (mkF m 35 #[.val (.ref o1), .val (.ref o2), .val (.int (0 : Int32)), .val (.int (2 : Int32)), .val .null, .unset] [(.int (0 : Int32)), (.ref o2)])) (fun t k => XS.iloadN X34.here hx rfl (hb hby own_d3_34) rfl k) ?_
  refine own_st (V := T34.setTop (mkF m 36 #[.val (.ref o1), .val (.ref o2), .val (.int (0 : Int32)), .val (.int (2 : Int32)), .val .null, .unset] [(.int (2 : Int32)), (.int (0 : Int32)), (.ref o2)])) (fun t k => XS.iloadN X34.here hx rfl (hb hby own_d3_35) rfl k) ?_
  obtain ⟨_, _, ⟨T35, L35, k35, n35⟩, -, X35, ⟨Lc35, hQ35, l35, y35, z35⟩, st35⟩ := Jvm.LawKit.callS X34 hx (y := (⟨"java/lang/StringUTF16", "compress", "([CII)[B"⟩ : MethodName)) hown (mvT hZ (hw _ (List.mem_of_getElem? (i := 53) rfl))) (mvT hZ (hw _ (List.mem_of_getElem? (i := 54) rfl))) (mvT hZ (hw _ (List.mem_of_getElem? (i := 55) rfl))) (mvT hZ (hw _ (List.mem_of_getElem? (i := 56) rfl))) (by decide) (backOf (W := 0) (own_c3_2 l Z a0 hw [] o2 k2 x1 x2 h0 n0 Z0 V2 hx1 hx2) hZ (hw _ (List.mem_of_getElem? (i := 56) rfl)) (hw _ (List.mem_of_getElem? (i := 55) rfl)) (by decide) (by decide)) (g := (mkF m 36 #[.val (.ref o1), .val (.ref o2), .val (.int (0 : Int32)), .val (.int (2 : Int32)), .val .null, .unset] [(.int (2 : Int32)), (.int (0 : Int32)), (.ref o2)])) rfl (by rw [hml]; rfl) (argsL := [(.ref o2), (.int (0 : Int32)), (.int (2 : Int32))]) (rest := []) (lenOf own_pd3 rfl) rfl (by show 2 * 0 + _ ≤ _; exact Nat.le_of_eq rfl) (hb hby own_d3_36) (fun _ _ => ⟨rfl, e34, (by decide : 0 + 1 ≤ _), (by decide : 0 + 2 ≤ _)⟩)
  dsimp only [Pt.U, Pt.locs, Pt.cells, Pt.slots] at X35 l35 y35 z35 st35 hQ35
  subst l35 y35 z35
  obtain ⟨s35, rfl, N35q, K35, szs35', gb_s35, kbs35, vss35, Vq35⟩ := hQ35
  have N35 := Fr.app N0 N35q
  have Z0_35 : n0 ≤ T35.heap.size := Nat.le_trans Z0 K35.1
  have Kc35 := (Keep.refl h0 [o1]).trans K35 all0
  have sz_s35 : h0.size ≤ s35 := Nat.le_trans (Keep.refl h0 [o1]).1 szs35'
  have ne_o1_s35 : o1 ≠ s35 := Nat.ne_of_lt (Nat.lt_of_lt_of_le E1.lt szs35')
  have ne_o2_s35 : o2 ≠ s35 := Nat.ne_of_lt (Nat.lt_of_lt_of_le V2.lt szs35')
  have F35_o1_value := F1.keep K35 nin0
  have F35_o1_coder := F2.keep K35 nin0
  have Ex35_o1 := E1.keep K35
  have V35_o2 := V2.keep K35 nin0
  have Od35 := Od.keep K35 all0
  refine own_st (V := T35.setTop (mkF m 39 #[.val (.ref o1), .val (.ref o2), .val (.int (0 : Int32)), .val (.int (2 : Int32)), .val .null, .unset] [(.ref s35)])) (fun t k => st35 _ k) ?_
  refine own_st (V := T35.setTop (mkF m 41 #[.val (.ref o1), .val (.ref o2), .val (.int (0 : Int32)), .val (.int (2 : Int32)), .val .null, .val (.ref s35)] [])) (fun t k => XS.astore X35.here hx rfl (hb hby own_d3_39) rfl rfl (l' := #[.val (.ref o1), .val (.ref o2), .val (.int (0 : Int32)), .val (.int (2 : Int32)), .val .null, .val (.ref s35)]) rfl k) ?_
  refine own_st (V := T35.setTop (mkF m 42 #[.val (.ref o1), .val (.ref o2), .val (.int (0 : Int32)), .val (.int (2 : Int32)), .val .null, .val (.ref s35)] [(.ref o1)])) (fun t k => XS.aloadN X35.here hx rfl (hb hby own_d3_41) rfl rfl k) ?_
  refine own_st (V := T35.setTop (mkF m 44 #[.val (.ref o1), .val (.ref o2), .val (.int (0 : Int32)), .val (.int (2 : Int32)), .val .null, .val (.ref s35)] [(.ref s35), (.ref o1)])) (fun t k => XS.aload X35.here hx rfl (hb hby own_d3_42) rfl rfl k) ?_
  refine own_st (V := T35.setTop (mkF m 45 #[.val (.ref o1), .val (.ref o2), .val (.int (0 : Int32)), .val (.int (2 : Int32)), .val .null, .val (.ref s35)] [(.int (2 : Int32)), (.ref s35), (.ref o1)])) (fun t k => XS.iloadN X35.here hx rfl (hb hby own_d3_44) rfl k) ?_
  obtain ⟨_, _, ⟨T36, L36, k36, n36⟩, -, X36, ⟨Lc36, hQ36, l36, y36, z36⟩, st36⟩ := Jvm.LawKit.callS X35 hx (y := (⟨"java/lang/StringUTF16", "coderFromArrayLen", "([BI)B"⟩ : MethodName)) hown (mvT hZ (hw _ (List.mem_of_getElem? (i := 60) rfl))) (mvT hZ (hw _ (List.mem_of_getElem? (i := 61) rfl))) (mvT hZ (hw _ (List.mem_of_getElem? (i := 55) rfl))) (mvT hZ (hw _ (List.mem_of_getElem? (i := 62) rfl))) (by decide) (backOf (W := 1) (own_cf_2 l Z a0 hw [] s35 kbs35 vss35 T35.heap n0 Z0_35 Vq35) hZ (hw _ (List.mem_of_getElem? (i := 62) rfl)) (hw _ (List.mem_of_getElem? (i := 55) rfl)) (by decide) (by decide)) (g := (mkF m 45 #[.val (.ref o1), .val (.ref o2), .val (.int (0 : Int32)), .val (.int (2 : Int32)), .val .null, .val (.ref s35)] [(.int (2 : Int32)), (.ref s35), (.ref o1)])) rfl (by rw [hml]; rfl) (argsL := [(.ref s35), (.int (2 : Int32))]) (rest := [(.ref o1)]) (lenOf own_pd4 rfl) rfl (by show 2 * 0 + _ ≤ _; exact Nat.le_of_eq rfl) (hb hby own_d3_45) (fun _ _ => ⟨rfl, rfl, (by decide : 1 + 0 ≤ _), (by decide : 2 + 0 ≤ _)⟩)
  dsimp only [Pt.U, Pt.locs, Pt.cells, Pt.slots] at X36 l36 y36 z36 st36 hQ36
  subst l36 y36 z36
  obtain ⟨rfl, N36q, e36⟩ := hQ36
  have N36 := Fr.app N35 N36q
  refine own_st (V := T36.setTop (mkF m 48 #[.val (.ref o1), .val (.ref o2), .val (.int (0 : Int32)), .val (.int (2 : Int32)), .val .null, .val (.ref s35)] [(.int (0 : Int32)), (.ref o1)])) (fun t k => st36 _ k) ?_
  obtain ⟨T37, h37, X37, e37, W37, st37⟩ := putFN X36 hx hZ hown (hw _ (List.mem_of_getElem? (i := 25) rfl)) Via.refl e36 F35_o1_coder Ex35_o1 (Or.inr ⟨(hw _ (List.mem_of_getElem? (i := 21) rfl)), rfl, hnm⟩) (hw _ (List.mem_of_getElem? (i := 5) rfl)) (ty := .byte) (v' := (.int (0 : Int32))) (by decide) (by decide +kernel) (by decide +kernel) (g := (mkF m 48 #[.val (.ref o1), .val (.ref o2), .val (.int (0 : Int32)), .val (.int (2 : Int32)), .val .null, .val (.ref s35)] [(.int (0 : Int32)), (.ref o1)])) rfl rfl (hb hby own_d3_48)
  have N37 := Fr.snoc X37 N36 g1
  have Z0_37 : n0 ≤ h37.size := by rw [W37.size]; exact Z0_35
  have F37_w := F35_o1_coder.same W37
  have Kc37 := Kc35.wr W37 (Or.inl (List.mem_of_getElem? (i := 0) rfl))
  have F37_o1_value := F35_o1_value.other W37 (Or.inr (slot_ne (Or.inr (hw _ (List.mem_of_getElem? (i := 20) rfl))) (Or.inr (hw _ (List.mem_of_getElem? (i := 21) rfl))) (by decide) (t := (.array .byte)) (t' := .byte) (by decide) (by decide)))
  have Ex37_o1 := Ex35_o1.wr W37
  have V37_o2 := V35_o2.other W37 n21
  have V37_s35 := Vq35.other W37 (Ne.symm ne_o1_s35)
  have Od37 := Od35.wr W37 g1
  refine own_st (V := T37.setTop (mkF m 51 #[.val (.ref o1), .val (.ref o2), .val (.int (0 : Int32)), .val (.int (2 : Int32)), .val .null, .val (.ref s35)] [])) (fun t k => st37 _ k) ?_
  refine own_st (V := T37.setTop (mkF m 52 #[.val (.ref o1), .val (.ref o2), .val (.int (0 : Int32)), .val (.int (2 : Int32)), .val .null, .val (.ref s35)] [(.ref o1)])) (fun t k => XS.aloadN X37.here hx rfl (hb hby own_d3_51) rfl rfl k) ?_
  refine own_st (V := T37.setTop (mkF m 54 #[.val (.ref o1), .val (.ref o2), .val (.int (0 : Int32)), .val (.int (2 : Int32)), .val .null, .val (.ref s35)] [(.ref s35), (.ref o1)])) (fun t k => XS.aload X37.here hx rfl (hb hby own_d3_52) rfl rfl k) ?_
  obtain ⟨T38, h38, X38, e38, W38, st38⟩ := putF X37 hx hZ hown (host := "") (Or.inl (hw _ (List.mem_of_getElem? (i := 24) rfl))) Via.refl e37 F37_o1_value Ex37_o1 (Or.inr ⟨(hw _ (List.mem_of_getElem? (i := 20) rfl)), rfl, hnm⟩) (hw _ (List.mem_of_getElem? (i := 5) rfl)) (ty := (.array .byte)) (by decide) rfl rfl (g := (mkF m 54 #[.val (.ref o1), .val (.ref o2), .val (.int (0 : Int32)), .val (.int (2 : Int32)), .val .null, .val (.ref s35)] [(.ref s35), (.ref o1)])) rfl rfl (hb hby own_d3_54)
  have N38 := Fr.snoc X38 N37 g1
  have Z0_38 : n0 ≤ h38.size := by rw [W38.size]; exact Z0_37
  have F38_w := F37_o1_value.same W38
  have Kc38 := Kc37.wr W38 (Or.inl (List.mem_of_getElem? (i := 0) rfl))
  have F38_o1_coder := F37_w.other W38 (Or.inr (slot_ne (Or.inr (hw _ (List.mem_of_getElem? (i := 21) rfl))) (Or.inr (hw _ (List.mem_of_getElem? (i := 20) rfl))) (by decide) (t := .byte) (t' := (.array .byte)) (by decide) (by decide)))
  have Ex38_o1 := Ex37_o1.wr W38
  have V38_o2 := V37_o2.other W38 n21
  have V38_s35 := V37_s35.other W38 (Ne.symm ne_o1_s35)
  have Od38 := Od37.wr W38 g1
  refine own_st (V := T38.setTop (mkF m 57 #[.val (.ref o1), .val (.ref o2), .val (.int (0 : Int32)), .val (.int (2 : Int32)), .val .null, .val (.ref s35)] [])) (fun t k => st38 _ k) ?_
  exact own_ret0 X38 hx hlk Bd.returns (hb hby own_d3_57) (by decide) (by decide) (by show Q_own_s4_2 Z o1 o2 k2 cs x1 x2 h0 n0 _ T38.heap _; rw [e38]; exact ⟨rfl, N38, Kc38, Ex38_o1, s35, _, _, sz_s35, F38_w, V38_s35⟩)
def Q_own_s1_2 (Z : State) (o1 o2 : Addr) (k2 : ClassId) (cs : Int32) (x1 x2 : Int32) (h0 : Heap) (n0 : Nat) (v : Option Value) (h : Heap) (L : List Loc) : Prop := v = none ∧ Fr n0 L ∧ Keep h0 h [o1] ∧ Exa Z h o1 "java/lang/String" ∧ ∃ b k vs, h0.size ≤ b ∧ Fld Z h o1 "java/lang/String" "value" "[B" (.ref b) ∧ Arv Z h b k .byte (2 : Int32) vs (.int (0 : Int32))
set_option maxRecDepth 65536 in
set_option maxHeartbeats 40000000 in
theorem own_s1_2 (l : Launch) (Z : State) (a0 : Array Value) (hw : ∀ d ∈ tables_1, d.before a0 Z = true) (ws : List Jvm.Cond) (o1 o2 : Addr) (k2 : ClassId) (cs : Int32) (x1 x2 : Int32) (h0 : Heap) (n0 : Nat) (Z0 : n0 ≤ h0.size) (Od : Old Z n0 h0) (SC : Sta Z Z.heap "java/lang/String" "COMPACT_STRINGS" "Z" (.int cs)) (hcs : ¬ (cs = (0 : Int32))) (E1 : Exa Z h0 o1 "java/lang/String") (g1 : n0 ≤ o1) (F1 : Fld Z h0 o1 "java/lang/String" "value" "[B" .null) (F2 : Fld Z h0 o1 "java/lang/String" "coder" "B" (.int (0 : Int32))) (V2 : Arv Z h0 o2 k2 .char (2 : Int32) [(.int x1), (.int x2)] (.int (0 : Int32))) (n21 : o2 ≠ o1) (hx1 : ¬ ((255 : Int32) < x1)) (hx2 : ¬ ((255 : Int32) < x2)) :
    MetFree l (⟨"java/lang/String", "<init>", "([C)V"⟩ : MethodName) (head1 (Jvm.Cond.code (⟨"java/lang/String", "<init>", "([C)V"⟩ : MethodName) jdk_42_method_3_code 2 none :: ws) ({ frames := 3, cells := 1, slots := 2, locals := 52 } : Room)) (fun a U => a = #[(.ref o1), (.ref o2)] ∧ Z.Warmed39 U.vm ∧ U.heap = h0) (fun _ _ _ _ _ => True) (fun _ U o U' => ∃ v L, o = .returned v ∧ Q_own_s1_2 Z o1 o2 k2 cs x1 x2 h0 n0 v U'.heap L ∧ FrameEnd U o U' L ({ frames := 3, cells := 1, slots := 2, locals := 52 } : Room).cells ({ frames := 3, cells := 1, slots := 2, locals := 52 } : Room).slots) := by
  refine MetFree.of_bodySF (plainFor_of_name own_pn_java_lang_String) hisR ?_
  intro p e s m args below meth c s₁ Bd hml0 hP hK
  obtain ⟨rfl, hZ, hh⟩ := hP
  have hx := Bd.exec
  have hby := Bd.bytes
  have hml : c.maxLocals = 2 := hml0
  have hown : s.vm.findClass "java/lang/String" = some m.cls := findClass_of_methodNamed Bd.named
  have hnm := (name_of_methodNamed Bd.named Bd.method).1
  have hlk : meth.locks = false := BodyLoose.notSynchronized Bd
  have X0 : Stand p l e ({ frames := 3, cells := 1, slots := 2, locals := 52 } : Room) s m #[(.ref o1), (.ref o2)] below meth c s₁ [] 0 0 := Stand.of_body Bd
  have e0 : s₁.heap = h0 := by rw [← hh, Bd.state]; rfl
  have N0 := Fr.nil n0
  show own_Go p e below #[(.ref o1), (.ref o2)] s (fun _ U o U' => ∃ v L, o = .returned v ∧ Q_own_s1_2 Z o1 o2 k2 cs x1 x2 h0 n0 v U'.heap L ∧ FrameEnd U o U' L ({ frames := 3, cells := 1, slots := 2, locals := 52 } : Room).cells ({ frames := 3, cells := 1, slots := 2, locals := 52 } : Room).slots) (s₁.setTop (entryFrame m #[(.ref o1), (.ref o2)] 2))
  refine own_st (V := s₁.setTop (mkF m 0 #[.val (.ref o1), .val (.ref o2)] [])) (fun t k => castTop (by first | (simp [entryFrame, mkF, argsToLocals, Value.category]; done) | rfl) k) ?_
  refine own_st (V := s₁.setTop (mkF m 1 #[.val (.ref o1), .val (.ref o2)] [(.ref o1)])) (fun t k => XS.aloadN X0.here hx rfl (hb hby own_d2_0) rfl rfl k) ?_
  refine own_st (V := s₁.setTop (mkF m 2 #[.val (.ref o1), .val (.ref o2)] [(.ref o2), (.ref o1)])) (fun t k => XS.aloadN X0.here hx rfl (hb hby own_d2_1) rfl rfl k) ?_
  refine own_st (V := s₁.setTop (mkF m 3 #[.val (.ref o1), .val (.ref o2)] [(.int (0 : Int32)), (.ref o2), (.ref o1)])) (fun t k => XS.iconst X0.here hx rfl (hb hby own_d2_2) k) ?_
  refine own_st (V := s₁.setTop (mkF m 4 #[.val (.ref o1), .val (.ref o2)] [(.ref o2), (.int (0 : Int32)), (.ref o2), (.ref o1)])) (fun t k => XS.aloadN X0.here hx rfl (hb hby own_d2_3) rfl rfl k) ?_
  have Vk39 := V2
  obtain ⟨cl39, Ar39, qk39, sz39, nn39, hs39, fs39⟩ := Vk39
  refine own_st (V := s₁.setTop (mkF m 5 #[.val (.ref o1), .val (.ref o2)] [(.int (2 : Int32)), (.int (0 : Int32)), (.ref o2), (.ref o1)])) (fun t k => X0.arraylength hx (by rw [e0]; exact Ar39.1) (State.isArrayOf_alike hZ.alike Ar39.2.1) (g := (mkF m 4 #[.val (.ref o1), .val (.ref o2)] [(.ref o2), (.int (0 : Int32)), (.ref o2), (.ref o1)])) rfl rfl (hb hby own_d2_4) _ (by rw [len_of sz39 nn39]; exact k)) ?_
  refine own_st (V := s₁.setTop (mkF m 6 #[.val (.ref o1), .val (.ref o2)] [.null, (.int (2 : Int32)), (.int (0 : Int32)), (.ref o2), (.ref o1)])) (fun t k => XS.aconstNull X0.here hx rfl (hb hby own_d2_5) k) ?_
  obtain ⟨_, _, ⟨T40, L40, k40, n40⟩, -, X40, ⟨Lc40, hQ40, l40, y40, z40⟩, st40⟩ := X0.specialBack hx (y := (⟨"java/lang/String", "<init>", "([CIILjava/lang/Void;)V"⟩ : MethodName)) rfl hown (mvT hZ (hw _ (List.mem_of_getElem? (i := 11) rfl))) (mvT hZ (hw _ (List.mem_of_getElem? (i := 12) rfl))) (mvT hZ (hw _ (List.mem_of_getElem? (i := 14) rfl))) (by decide) (backOf (W := 0) (own_s4_2 l Z a0 hw [] o1 o2 k2 cs x1 x2 h0 n0 Z0 Od SC hcs E1 g1 F1 F2 V2 n21 hx1 hx2) hZ (hw _ (List.mem_of_getElem? (i := 14) rfl)) (hw _ (List.mem_of_getElem? (i := 6) rfl)) (by decide) (by decide)) (g := (mkF m 6 #[.val (.ref o1), .val (.ref o2)] [.null, (.int (2 : Int32)), (.int (0 : Int32)), (.ref o2), (.ref o1)])) rfl (by rw [hml]; rfl) (Steps.refl _) (a := o1) (argsL := [(.ref o2), (.int (0 : Int32)), (.int (2 : Int32)), .null]) (rest := []) (lenOf own_pd0 rfl) rfl (by show 2 * 0 + _ ≤ _; exact Nat.le_of_eq rfl) (hb hby own_d2_6) (fun _ _ => ⟨rfl, e0, (by decide : 0 + 1 ≤ _), (by decide : 0 + 2 ≤ _)⟩)
  dsimp only [Pt.U, Pt.locs, Pt.cells, Pt.slots] at X40 l40 y40 z40 st40 hQ40
  subst l40 y40 z40
  obtain ⟨rfl, N40q, K40, Ex40_q, t40, kbt40, vst40, szt40', Fq40_0, Vq40⟩ := hQ40
  have N40 := Fr.app N0 N40q
  have Z0_40 : n0 ≤ T40.heap.size := Nat.le_trans Z0 K40.1
  have Kc40 := (Keep.refl h0 [o1]).trans K40 (fun x hx => Or.inl (by cases List.mem_singleton.mp hx; exact List.mem_of_getElem? (i := 0) rfl))
  have sz_t40 : h0.size ≤ t40 := Nat.le_trans (Keep.refl h0 [o1]).1 szt40'
  have ne_o1_t40 : o1 ≠ t40 := Nat.ne_of_lt (Nat.lt_of_lt_of_le E1.lt szt40')
  have ne_o2_t40 : o2 ≠ t40 := Nat.ne_of_lt (Nat.lt_of_lt_of_le V2.lt szt40')
  have Ex40_o1 := E1.keep K40
  have V40_o2 := V2.keep K40 (ninS n21 nin0)
  have Od40 := Od.keep K40 (allS g1 all0)
  refine own_st (V := T40.setTop (mkF m 9 #[.val (.ref o1), .val (.ref o2)] [])) (fun t k => st40.trans k) ?_
  exact own_ret0 X40 hx hlk Bd.returns (hb hby own_d2_9) (by decide) (by decide) (by show Q_own_s1_2 Z o1 o2 k2 cs x1 x2 h0 n0 _ T40.heap _; exact ⟨rfl, N40, Kc40, Ex40_q, t40, _, _, sz_t40, Fq40_0, Vq40⟩)
def Q_own_str1 (Z : State) (q1 q2 cs : Int32) (h0 : Heap) (n0 : Nat) (v : Option Value) (h : Heap) (L : List Loc) : Prop := ∃ b, v = some (.ref b) ∧ Fr n0 L ∧ Keep h0 h [] ∧ Exa Z h b "java/lang/String" ∧ ∃ t k vs, Fld Z h b "java/lang/String" "value" "[B" (.ref t) ∧ Arv Z h t k .byte (1 : Int32) vs (.int (0 : Int32))
theorem own_d1_15 : decode method_2_code 15 = .ok (.iload_n 0, 1) := by decide +kernel
theorem own_d1_16 : decode method_2_code 16 = .ok (.iconst 1, 1) := by decide +kernel
theorem own_d1_17 : decode method_2_code 17 = .ok (.if_icmp .ne 25, 3) := by decide +kernel
theorem own_d1_20 : decode method_2_code 20 = .ok (.iconst 1, 1) := by decide +kernel
theorem own_d1_21 : decode method_2_code 21 = .ok (.newarray .char, 2) := by decide +kernel
theorem own_d1_23 : decode method_2_code 23 = .ok (.astore_n 3, 1) := by decide +kernel
theorem own_d1_24 : decode method_2_code 24 = .ok (.aload_n 3, 1) := by decide +kernel
theorem own_d1_25 : decode method_2_code 25 = .ok (.iconst 0, 1) := by decide +kernel
theorem own_d1_26 : decode method_2_code 26 = .ok (.iload_n 1, 1) := by decide +kernel
theorem own_d1_27 : decode method_2_code 27 = .ok (.sipush 255, 3) := by decide +kernel
theorem own_d1_30 : decode method_2_code 30 = .ok (.iand, 1) := by decide +kernel
theorem own_d1_31 : decode method_2_code 31 = .ok (.i2c, 1) := by decide +kernel
theorem own_d1_32 : decode method_2_code 32 = .ok (.castore, 1) := by decide +kernel
theorem own_d1_33 : decode method_2_code 33 = .ok (.new 7, 3) := by decide +kernel
theorem own_d1_36 : decode method_2_code 36 = .ok (.dup, 1) := by decide +kernel
theorem own_d1_37 : decode method_2_code 37 = .ok (.aload_n 3, 1) := by decide +kernel
theorem own_d1_38 : decode method_2_code 38 = .ok (.invokespecial 9, 3) := by decide +kernel
theorem own_d1_41 : decode method_2_code 41 = .ok (.areturn, 1) := by decide +kernel
set_option maxRecDepth 65536 in
set_option maxHeartbeats 40000000 in
theorem own_str1 (l : Launch) (Z : State) (a0 : Array Value) (hw : ∀ d ∈ tables_1, d.before a0 Z = true) (ws : List Jvm.Cond) (q1 q2 cs : Int32) (h0 : Heap) (n0 : Nat) (Z0 : n0 ≤ h0.size) (Od : Old Z n0 h0) (SC : Sta Z Z.heap "java/lang/String" "COMPACT_STRINGS" "Z" (.int cs)) (hcs : ¬ (cs = (0 : Int32))) :
    MetFree l (⟨"com/example/tempora/tempora/core/IssueIsGivenPinLaw", "str", "(III)Ljava/lang/String;"⟩ : MethodName) (head1 (Jvm.Cond.code (⟨"com/example/tempora/tempora/core/IssueIsGivenPinLaw", "str", "(III)Ljava/lang/String;"⟩ : MethodName) method_2_code 4 (some (.object "java/lang/String")) :: ws) ({ frames := 4, cells := 3, slots := 6, locals := 66 } : Room)) (fun a U => a = #[(.int (1 : Int32)), (.int q1), (.int q2)] ∧ Z.Warmed39 U.vm ∧ U.heap = h0) (fun _ _ _ _ _ => True) (fun _ U o U' => ∃ v L, o = .returned v ∧ Q_own_str1 Z q1 q2 cs h0 n0 v U'.heap L ∧ FrameEnd U o U' L ({ frames := 4, cells := 3, slots := 6, locals := 66 } : Room).cells ({ frames := 4, cells := 3, slots := 6, locals := 66 } : Room).slots) := by
  refine MetFree.of_bodySF (plainFor_of_name own_pn_com_example_tempora_tempora_core_IssueIsGivenPinLaw) hisR ?_
  intro p e s m args below meth c s₁ Bd hml0 hP hK
  obtain ⟨rfl, hZ, hh⟩ := hP
  have hx := Bd.exec
  have hby := Bd.bytes
  have hml : c.maxLocals = 4 := hml0
  have hown : s.vm.findClass "com/example/tempora/tempora/core/IssueIsGivenPinLaw" = some m.cls := findClass_of_methodNamed Bd.named
  have hnm := (name_of_methodNamed Bd.named Bd.method).1
  have hlk : meth.locks = false := BodyLoose.notSynchronized Bd
  have X0 : Stand p l e ({ frames := 4, cells := 3, slots := 6, locals := 66 } : Room) s m #[(.int (1 : Int32)), (.int q1), (.int q2)] below meth c s₁ [] 0 0 := Stand.of_body Bd
  have e0 : s₁.heap = h0 := by rw [← hh, Bd.state]; rfl
  have N0 := Fr.nil n0
  show own_Go p e below #[(.int (1 : Int32)), (.int q1), (.int q2)] s (fun _ U o U' => ∃ v L, o = .returned v ∧ Q_own_str1 Z q1 q2 cs h0 n0 v U'.heap L ∧ FrameEnd U o U' L ({ frames := 4, cells := 3, slots := 6, locals := 66 } : Room).cells ({ frames := 4, cells := 3, slots := 6, locals := 66 } : Room).slots) (s₁.setTop (entryFrame m #[(.int (1 : Int32)), (.int q1), (.int q2)] 4))
  refine own_st (V := s₁.setTop (mkF m 0 #[.val (.int (1 : Int32)), .val (.int q1), .val (.int q2), .unset] [])) (fun t k => castTop (by first | (simp [entryFrame, mkF, argsToLocals, Value.category]; done) | rfl) k) ?_
  refine own_st (V := s₁.setTop (mkF m 1 #[.val (.int (1 : Int32)), .val (.int q1), .val (.int q2), .unset] [(.int (1 : Int32))])) (fun t k => XS.iloadN X0.here hx rfl (hb hby own_d1_0) rfl k) ?_
  refine own_st (V := s₁.setTop (mkF m 15 #[.val (.int (1 : Int32)), .val (.int q1), .val (.int q2), .unset] [])) (fun t k => XS.ifYes X0.here hx rfl (pc0 := 1) (pc' := 15) rfl (hb hby own_d1_1) rfl ((if0 _ _).trans (feq (by decide : ¬ ((1 : Int32) = (0 : Int32)))).2) (by decide) (by decide) k) ?_
  refine own_st (V := s₁.setTop (mkF m 16 #[.val (.int (1 : Int32)), .val (.int q1), .val (.int q2), .unset] [(.int (1 : Int32))])) (fun t k => XS.iloadN X0.here hx rfl (hb hby own_d1_15) rfl k) ?_
  refine own_st (V := s₁.setTop (mkF m 17 #[.val (.int (1 : Int32)), .val (.int q1), .val (.int q2), .unset] [(.int (1 : Int32)), (.int (1 : Int32))])) (fun t k => XS.iconst X0.here hx rfl (hb hby own_d1_16) k) ?_
  refine own_st (V := s₁.setTop (mkF m 20 #[.val (.int (1 : Int32)), .val (.int q1), .val (.int q2), .unset] [])) (fun t k => XS.icmpNo X0.here hx rfl (hb hby own_d1_17) rfl (teq (by decide : (1 : Int32) = (1 : Int32))).2 k) ?_
  refine own_st (V := s₁.setTop (mkF m 21 #[.val (.int (1 : Int32)), .val (.int q1), .val (.int q2), .unset] [(.int (1 : Int32))])) (fun t k => XS.iconst X0.here hx rfl (hb hby own_d1_20) k) ?_
  obtain ⟨T41, h41, k41, X41, e41, E41, A41, st41⟩ := newP X0 hx hZ (hw _ (List.mem_of_getElem? (i := 7) rfl)) e0 (g := (mkF m 21 #[.val (.int (1 : Int32)), .val (.int q1), .val (.int q2), .unset] [(.int (1 : Int32))])) rfl (hb hby own_d1_21) rfl (by decide) (cap := 1) (by decide) (by decide) (by decide) (by decide)
  obtain ⟨b41, g41⟩ : ∃ z, z = h0.size := ⟨_, rfl⟩
  rw [← g41] at A41 st41
  have gb_b41 : n0 ≤ b41 := Nat.le_trans Z0 (Nat.le_of_eq g41.symm)
  have Z0_41 : n0 ≤ h41.size := Nat.le_trans Z0 E41.1
  have sz_b41 : h0.size ≤ b41 := Nat.le_trans (Keep.refl h0 []).1 (Nat.le_of_eq g41.symm)
  have Kc41 := (Keep.refl h0 []).ext E41
  have Od41 := Od.ext E41
  have V41_b41 : Arv Z h41 b41 k41 .char (1 : Int32) [(.int (0 : Int32))] (.int (0 : Int32)) := (Arv.new A41 (by decide)).pad (pad_rep [] (.int (0 : Int32)) 1)
  refine own_st (V := T41.setTop (mkF m 23 #[.val (.int (1 : Int32)), .val (.int q1), .val (.int q2), .unset] [(.ref b41)])) (fun t k => st41 _ k) ?_
  refine own_st (V := T41.setTop (mkF m 24 #[.val (.int (1 : Int32)), .val (.int q1), .val (.int q2), .val (.ref b41)] [])) (fun t k => XS.astoreN X41.here hx rfl (hb hby own_d1_23) rfl rfl (l' := #[.val (.int (1 : Int32)), .val (.int q1), .val (.int q2), .val (.ref b41)]) rfl k) ?_
  refine own_st (V := T41.setTop (mkF m 25 #[.val (.int (1 : Int32)), .val (.int q1), .val (.int q2), .val (.ref b41)] [(.ref b41)])) (fun t k => XS.aloadN X41.here hx rfl (hb hby own_d1_24) rfl rfl k) ?_
  refine own_st (V := T41.setTop (mkF m 26 #[.val (.int (1 : Int32)), .val (.int q1), .val (.int q2), .val (.ref b41)] [(.int (0 : Int32)), (.ref b41)])) (fun t k => XS.iconst X41.here hx rfl (hb hby own_d1_25) k) ?_
  refine own_st (V := T41.setTop (mkF m 27 #[.val (.int (1 : Int32)), .val (.int q1), .val (.int q2), .val (.ref b41)] [(.int q1), (.int (0 : Int32)), (.ref b41)])) (fun t k => XS.iloadN X41.here hx rfl (hb hby own_d1_26) rfl k) ?_
  refine own_st (V := T41.setTop (mkF m 30 #[.val (.int (1 : Int32)), .val (.int q1), .val (.int q2), .val (.ref b41)] [(.int (255 : Int32)), (.int q1), (.int (0 : Int32)), (.ref b41)])) (fun t k => XS.sipush X41.here hx rfl (hb hby own_d1_27) k) ?_
  refine own_st (V := T41.setTop (mkF m 31 #[.val (.int (1 : Int32)), .val (.int q1), .val (.int q2), .val (.ref b41)] [(.int (q1 &&& (255 : Int32))), (.int (0 : Int32)), (.ref b41)])) (fun t k => XS.iand X41.here hx rfl (hb hby own_d1_30) rfl k) ?_
  refine own_st (V := T41.setTop (mkF m 32 #[.val (.int (1 : Int32)), .val (.int q1), .val (.int q2), .val (.ref b41)] [(.int ((q1 &&& (255 : Int32)).toUInt32.toUInt16.toUInt32.toInt32)), (.int (0 : Int32)), (.ref b41)])) (fun t k => XS.i2c X41.here hx rfl (hb hby own_d1_31) rfl k) ?_
  have Vk42 := V41_b41
  obtain ⟨cl42, Ar42, qk42, sz42, nn42, hs42, fs42⟩ := Vk42
  have hin42 : ¬ ((0 : Int32) < 0 ∨ cl42.slots.size ≤ ((0 : Int32)).toNatClampNeg) := inb_of sz42 ⟨by decide, by decide⟩
  obtain ⟨T42, h42, X42, e42, W42, st42⟩ := stC X41 hx hZ e41 Ar42 (j := (0 : Int32)) hin42 (g := (mkF m 32 #[.val (.int (1 : Int32)), .val (.int q1), .val (.int q2), .val (.ref b41)] [(.int ((q1 &&& (255 : Int32)).toUInt32.toUInt16.toUInt32.toInt32)), (.int (0 : Int32)), (.ref b41)])) rfl rfl (hb hby own_d1_32)
  have V42_b41 := Arv.set Ar42 qk42 sz42 nn42 hs42 fs42 (fits_nar_char _) W42 0 rfl (Nat.le_of_ble_eq_true rfl)
  have N42 := Fr.snoc X42 N0 gb_b41
  have Z0_42 : n0 ≤ h42.size := by rw [W42.size]; exact Z0_41
  have Kc42 := Kc41.wr W42 (Or.inr sz_b41)
  have Od42 := Od41.wr W42 gb_b41
  refine own_st (V := T42.setTop (mkF m 33 #[.val (.int (1 : Int32)), .val (.int q1), .val (.int q2), .val (.ref b41)] [])) (fun t k => st42 _ k) ?_
  obtain ⟨T43, h43, X43, e43, E43, A43, D43, -, st43⟩ := newO X42 hx hZ hown (hw _ (List.mem_of_getElem? (i := 4) rfl)) (hw _ (List.mem_of_getElem? (i := 5) rfl)) (hw _ (List.mem_of_getElem? (i := 6) rfl)) e42 (g := (mkF m 33 #[.val (.int (1 : Int32)), .val (.int q1), .val (.int q2), .val (.ref b41)] [])) rfl (hb hby own_d1_33) (by decide) (by decide)
  obtain ⟨b43, g43⟩ : ∃ z, z = h42.size := ⟨_, rfl⟩
  rw [← g43] at A43 D43 st43
  have gb_b43 : n0 ≤ b43 := Nat.le_trans Z0_42 (Nat.le_of_eq g43.symm)
  have Z0_43 : n0 ≤ h43.size := Nat.le_trans Z0_42 E43.1
  have sz_b43 : h0.size ≤ b43 := Nat.le_trans Kc42.1 (Nat.le_of_eq g43.symm)
  have Kc43 := Kc42.ext E43
  have ne_b41_b43 : b41 ≠ b43 := Nat.ne_of_lt (Nat.lt_of_lt_of_le V42_b41.lt (Nat.le_of_eq g43.symm))
  have V43_b41 := V42_b41.ext E43
  have Od43 := Od42.ext E43
  have F43_b43_value : Fld Z h43 b43 "java/lang/String" "value" "[B" .null := D43 (Or.inr (hw _ (List.mem_of_getElem? (i := 20) rfl))) (ty := (.array .byte)) (by decide)
  have F43_b43_coder : Fld Z h43 b43 "java/lang/String" "coder" "B" (.int (0 : Int32)) := D43 (Or.inr (hw _ (List.mem_of_getElem? (i := 21) rfl))) (ty := .byte) (by decide)
  refine own_st (V := T43.setTop (mkF m 36 #[.val (.int (1 : Int32)), .val (.int q1), .val (.int q2), .val (.ref b41)] [(.ref b43)])) (fun t k => st43 _ k) ?_
  refine own_st (V := T43.setTop (mkF m 37 #[.val (.int (1 : Int32)), .val (.int q1), .val (.int q2), .val (.ref b41)] [(.ref b43), (.ref b43)])) (fun t k => XS.dup X43.here hx rfl (hb hby own_d1_36) rfl rfl k) ?_
  refine own_st (V := T43.setTop (mkF m 38 #[.val (.int (1 : Int32)), .val (.int q1), .val (.int q2), .val (.ref b41)] [(.ref b41), (.ref b43), (.ref b43)])) (fun t k => XS.aloadN X43.here hx rfl (hb hby own_d1_37) rfl rfl k) ?_
  obtain ⟨_, _, ⟨T44, L44, k44, n44⟩, -, X44, ⟨Lc44, hQ44, l44, y44, z44⟩, st44⟩ := X43.specialBack hx (y := (⟨"java/lang/String", "<init>", "([C)V"⟩ : MethodName)) rfl hown (mvT hZ (hw _ (List.mem_of_getElem? (i := 8) rfl))) (mvT hZ (hw _ (List.mem_of_getElem? (i := 9) rfl))) (mvT hZ (hw _ (List.mem_of_getElem? (i := 10) rfl))) (by decide) (backOf (W := 1) (own_s1_1 l Z a0 hw [] b43 b41 k41 cs (nar .char ((q1 &&& (255 : Int32)).toUInt32.toUInt16.toUInt32.toInt32)) h43 n0 Z0_43 Od43 SC hcs A43 gb_b43 F43_b43_value F43_b43_coder V43_b41 ne_b41_b43 (own_ch2 q1)) hZ (hw _ (List.mem_of_getElem? (i := 10) rfl)) (hw _ (List.mem_of_getElem? (i := 6) rfl)) (by decide) (by decide)) (g := (mkF m 38 #[.val (.int (1 : Int32)), .val (.int q1), .val (.int q2), .val (.ref b41)] [(.ref b41), (.ref b43), (.ref b43)])) rfl (by rw [hml]; rfl) (Steps.refl _) (a := b43) (argsL := [(.ref b41)]) (rest := [(.ref b43)]) (lenOf own_pd1 rfl) rfl (by show 2 * 0 + _ ≤ _; exact Nat.le_of_eq rfl) (hb hby own_d1_38) (fun _ _ => ⟨rfl, e43, (by decide : 2 + 1 ≤ _), (by decide : 5 + 1 ≤ _)⟩)
  dsimp only [Pt.U, Pt.locs, Pt.cells, Pt.slots] at X44 l44 y44 z44 st44 hQ44
  subst l44 y44 z44
  obtain ⟨rfl, N44q, K44, Ex44_q, t44, kbt44, vst44, szt44', Fq44_0, Vq44⟩ := hQ44
  have N44 := Fr.app N42 N44q
  have Z0_44 : n0 ≤ T44.heap.size := Nat.le_trans Z0_43 K44.1
  have Kc44 := Kc43.trans K44 (fun x hx => Or.inr (by cases List.mem_singleton.mp hx; exact sz_b43))
  have sz_t44 : h0.size ≤ t44 := Nat.le_trans Kc43.1 szt44'
  have ne_b43_t44 : b43 ≠ t44 := Nat.ne_of_lt (Nat.lt_of_lt_of_le A43.lt szt44')
  have ne_b41_t44 : b41 ≠ t44 := Nat.ne_of_lt (Nat.lt_of_lt_of_le V43_b41.lt szt44')
  have Ex44_b43 := A43.keep K44
  have V44_b41 := V43_b41.keep K44 (ninS ne_b41_b43 nin0)
  have Od44 := Od43.keep K44 (allS gb_b43 all0)
  refine own_st (V := T44.setTop (mkF m 41 #[.val (.int (1 : Int32)), .val (.int q1), .val (.int q2), .val (.ref b41)] [(.ref b43)])) (fun t k => st44.trans k) ?_
  exact own_ret X44 hx hlk Bd.returns rfl (Or.inr (Or.inr (Or.inr (Or.inr ⟨rfl, rfl, rfl⟩)))) (hb hby own_d1_41) (by decide) (by decide) (by show Q_own_str1 Z q1 q2 cs h0 n0 _ T44.heap _; exact ⟨_, rfl, N44, Kc44, Ex44_q, _, _, _, Fq44_0, Vq44⟩)
def Q_own_str2 (Z : State) (q1 q2 cs : Int32) (h0 : Heap) (n0 : Nat) (v : Option Value) (h : Heap) (L : List Loc) : Prop := ∃ b, v = some (.ref b) ∧ Fr n0 L ∧ Keep h0 h [] ∧ Exa Z h b "java/lang/String" ∧ ∃ t k vs, Fld Z h b "java/lang/String" "value" "[B" (.ref t) ∧ Arv Z h t k .byte (2 : Int32) vs (.int (0 : Int32))
theorem own_d1_42 : decode method_2_code 42 = .ok (.iconst 2, 1) := by decide +kernel
theorem own_d1_43 : decode method_2_code 43 = .ok (.newarray .char, 2) := by decide +kernel
theorem own_d1_45 : decode method_2_code 45 = .ok (.astore_n 3, 1) := by decide +kernel
theorem own_d1_46 : decode method_2_code 46 = .ok (.aload_n 3, 1) := by decide +kernel
theorem own_d1_47 : decode method_2_code 47 = .ok (.iconst 0, 1) := by decide +kernel
theorem own_d1_48 : decode method_2_code 48 = .ok (.iload_n 1, 1) := by decide +kernel
theorem own_d1_49 : decode method_2_code 49 = .ok (.sipush 255, 3) := by decide +kernel
theorem own_d1_52 : decode method_2_code 52 = .ok (.iand, 1) := by decide +kernel
theorem own_d1_53 : decode method_2_code 53 = .ok (.i2c, 1) := by decide +kernel
theorem own_d1_54 : decode method_2_code 54 = .ok (.castore, 1) := by decide +kernel
theorem own_d1_55 : decode method_2_code 55 = .ok (.aload_n 3, 1) := by decide +kernel
theorem own_d1_56 : decode method_2_code 56 = .ok (.iconst 1, 1) := by decide +kernel
theorem own_d1_57 : decode method_2_code 57 = .ok (.iload_n 2, 1) := by decide +kernel
theorem own_d1_58 : decode method_2_code 58 = .ok (.sipush 255, 3) := by decide +kernel
theorem own_d1_61 : decode method_2_code 61 = .ok (.iand, 1) := by decide +kernel
theorem own_d1_62 : decode method_2_code 62 = .ok (.i2c, 1) := by decide +kernel
theorem own_d1_63 : decode method_2_code 63 = .ok (.castore, 1) := by decide +kernel
theorem own_d1_64 : decode method_2_code 64 = .ok (.new 7, 3) := by decide +kernel
theorem own_d1_67 : decode method_2_code 67 = .ok (.dup, 1) := by decide +kernel
theorem own_d1_68 : decode method_2_code 68 = .ok (.aload_n 3, 1) := by decide +kernel
theorem own_d1_69 : decode method_2_code 69 = .ok (.invokespecial 9, 3) := by decide +kernel
theorem own_d1_72 : decode method_2_code 72 = .ok (.areturn, 1) := by decide +kernel
set_option maxRecDepth 65536 in
set_option maxHeartbeats 40000000 in
theorem own_str2 (l : Launch) (Z : State) (a0 : Array Value) (hw : ∀ d ∈ tables_1, d.before a0 Z = true) (ws : List Jvm.Cond) (q1 q2 cs : Int32) (h0 : Heap) (n0 : Nat) (Z0 : n0 ≤ h0.size) (Od : Old Z n0 h0) (SC : Sta Z Z.heap "java/lang/String" "COMPACT_STRINGS" "Z" (.int cs)) (hcs : ¬ (cs = (0 : Int32))) :
    MetFree l (⟨"com/example/tempora/tempora/core/IssueIsGivenPinLaw", "str", "(III)Ljava/lang/String;"⟩ : MethodName) (head1 (Jvm.Cond.code (⟨"com/example/tempora/tempora/core/IssueIsGivenPinLaw", "str", "(III)Ljava/lang/String;"⟩ : MethodName) method_2_code 4 (some (.object "java/lang/String")) :: ws) ({ frames := 4, cells := 3, slots := 8, locals := 66 } : Room)) (fun a U => a = #[(.int (2 : Int32)), (.int q1), (.int q2)] ∧ Z.Warmed39 U.vm ∧ U.heap = h0) (fun _ _ _ _ _ => True) (fun _ U o U' => ∃ v L, o = .returned v ∧ Q_own_str2 Z q1 q2 cs h0 n0 v U'.heap L ∧ FrameEnd U o U' L ({ frames := 4, cells := 3, slots := 8, locals := 66 } : Room).cells ({ frames := 4, cells := 3, slots := 8, locals := 66 } : Room).slots) := by
  refine MetFree.of_bodySF (plainFor_of_name own_pn_com_example_tempora_tempora_core_IssueIsGivenPinLaw) hisR ?_
  intro p e s m args below meth c s₁ Bd hml0 hP hK
  obtain ⟨rfl, hZ, hh⟩ := hP
  have hx := Bd.exec
  have hby := Bd.bytes
  have hml : c.maxLocals = 4 := hml0
  have hown : s.vm.findClass "com/example/tempora/tempora/core/IssueIsGivenPinLaw" = some m.cls := findClass_of_methodNamed Bd.named
  have hnm := (name_of_methodNamed Bd.named Bd.method).1
  have hlk : meth.locks = false := BodyLoose.notSynchronized Bd
  have X0 : Stand p l e ({ frames := 4, cells := 3, slots := 8, locals := 66 } : Room) s m #[(.int (2 : Int32)), (.int q1), (.int q2)] below meth c s₁ [] 0 0 := Stand.of_body Bd
  have e0 : s₁.heap = h0 := by rw [← hh, Bd.state]; rfl
  have N0 := Fr.nil n0
  show own_Go p e below #[(.int (2 : Int32)), (.int q1), (.int q2)] s (fun _ U o U' => ∃ v L, o = .returned v ∧ Q_own_str2 Z q1 q2 cs h0 n0 v U'.heap L ∧ FrameEnd U o U' L ({ frames := 4, cells := 3, slots := 8, locals := 66 } : Room).cells ({ frames := 4, cells := 3, slots := 8, locals := 66 } : Room).slots) (s₁.setTop (entryFrame m #[(.int (2 : Int32)), (.int q1), (.int q2)] 4))
  refine own_st (V := s₁.setTop (mkF m 0 #[.val (.int (2 : Int32)), .val (.int q1), .val (.int q2), .unset] [])) (fun t k => castTop (by first | (simp [entryFrame, mkF, argsToLocals, Value.category]; done) | rfl) k) ?_
  refine own_st (V := s₁.setTop (mkF m 1 #[.val (.int (2 : Int32)), .val (.int q1), .val (.int q2), .unset] [(.int (2 : Int32))])) (fun t k => XS.iloadN X0.here hx rfl (hb hby own_d1_0) rfl k) ?_
  refine own_st (V := s₁.setTop (mkF m 15 #[.val (.int (2 : Int32)), .val (.int q1), .val (.int q2), .unset] [])) (fun t k => XS.ifYes X0.here hx rfl (pc0 := 1) (pc' := 15) rfl (hb hby own_d1_1) rfl ((if0 _ _).trans (feq (by decide : ¬ ((2 : Int32) = (0 : Int32)))).2) (by decide) (by decide) k) ?_
  refine own_st (V := s₁.setTop (mkF m 16 #[.val (.int (2 : Int32)), .val (.int q1), .val (.int q2), .unset] [(.int (2 : Int32))])) (fun t k => XS.iloadN X0.here hx rfl (hb hby own_d1_15) rfl k) ?_
  refine own_st (V := s₁.setTop (mkF m 17 #[.val (.int (2 : Int32)), .val (.int q1), .val (.int q2), .unset] [(.int (1 : Int32)), (.int (2 : Int32))])) (fun t k => XS.iconst X0.here hx rfl (hb hby own_d1_16) k) ?_
  refine own_st (V := s₁.setTop (mkF m 42 #[.val (.int (2 : Int32)), .val (.int q1), .val (.int q2), .unset] [])) (fun t k => XS.icmpYes X0.here hx rfl (pc0 := 17) (pc' := 42) rfl (hb hby own_d1_17) rfl (feq (by decide : ¬ ((2 : Int32) = (1 : Int32)))).2 (by decide) (by decide) k) ?_
  refine own_st (V := s₁.setTop (mkF m 43 #[.val (.int (2 : Int32)), .val (.int q1), .val (.int q2), .unset] [(.int (2 : Int32))])) (fun t k => XS.iconst X0.here hx rfl (hb hby own_d1_42) k) ?_
  obtain ⟨T45, h45, k45, X45, e45, E45, A45, st45⟩ := newP X0 hx hZ (hw _ (List.mem_of_getElem? (i := 7) rfl)) e0 (g := (mkF m 43 #[.val (.int (2 : Int32)), .val (.int q1), .val (.int q2), .unset] [(.int (2 : Int32))])) rfl (hb hby own_d1_43) rfl (by decide) (cap := 2) (by decide) (by decide) (by decide) (by decide)
  obtain ⟨b45, g45⟩ : ∃ z, z = h0.size := ⟨_, rfl⟩
  rw [← g45] at A45 st45
  have gb_b45 : n0 ≤ b45 := Nat.le_trans Z0 (Nat.le_of_eq g45.symm)
  have Z0_45 : n0 ≤ h45.size := Nat.le_trans Z0 E45.1
  have sz_b45 : h0.size ≤ b45 := Nat.le_trans (Keep.refl h0 []).1 (Nat.le_of_eq g45.symm)
  have Kc45 := (Keep.refl h0 []).ext E45
  have Od45 := Od.ext E45
  have V45_b45 : Arv Z h45 b45 k45 .char (2 : Int32) [(.int (0 : Int32)), (.int (0 : Int32))] (.int (0 : Int32)) := (Arv.new A45 (by decide)).pad (pad_rep [] (.int (0 : Int32)) 2)
  refine own_st (V := T45.setTop (mkF m 45 #[.val (.int (2 : Int32)), .val (.int q1), .val (.int q2), .unset] [(.ref b45)])) (fun t k => st45 _ k) ?_
  refine own_st (V := T45.setTop (mkF m 46 #[.val (.int (2 : Int32)), .val (.int q1), .val (.int q2), .val (.ref b45)] [])) (fun t k => XS.astoreN X45.here hx rfl (hb hby own_d1_45) rfl rfl (l' := #[.val (.int (2 : Int32)), .val (.int q1), .val (.int q2), .val (.ref b45)]) rfl k) ?_
  refine own_st (V := T45.setTop (mkF m 47 #[.val (.int (2 : Int32)), .val (.int q1), .val (.int q2), .val (.ref b45)] [(.ref b45)])) (fun t k => XS.aloadN X45.here hx rfl (hb hby own_d1_46) rfl rfl k) ?_
  refine own_st (V := T45.setTop (mkF m 48 #[.val (.int (2 : Int32)), .val (.int q1), .val (.int q2), .val (.ref b45)] [(.int (0 : Int32)), (.ref b45)])) (fun t k => XS.iconst X45.here hx rfl (hb hby own_d1_47) k) ?_
  refine own_st (V := T45.setTop (mkF m 49 #[.val (.int (2 : Int32)), .val (.int q1), .val (.int q2), .val (.ref b45)] [(.int q1), (.int (0 : Int32)), (.ref b45)])) (fun t k => XS.iloadN X45.here hx rfl (hb hby own_d1_48) rfl k) ?_
  refine own_st (V := T45.setTop (mkF m 52 #[.val (.int (2 : Int32)), .val (.int q1), .val (.int q2), .val (.ref b45)] [(.int (255 : Int32)), (.int q1), (.int (0 : Int32)), (.ref b45)])) (fun t k => XS.sipush X45.here hx rfl (hb hby own_d1_49) k) ?_
  refine own_st (V := T45.setTop (mkF m 53 #[.val (.int (2 : Int32)), .val (.int q1), .val (.int q2), .val (.ref b45)] [(.int (q1 &&& (255 : Int32))), (.int (0 : Int32)), (.ref b45)])) (fun t k => XS.iand X45.here hx rfl (hb hby own_d1_52) rfl k) ?_
  refine own_st (V := T45.setTop (mkF m 54 #[.val (.int (2 : Int32)), .val (.int q1), .val (.int q2), .val (.ref b45)] [(.int ((q1 &&& (255 : Int32)).toUInt32.toUInt16.toUInt32.toInt32)), (.int (0 : Int32)), (.ref b45)])) (fun t k => XS.i2c X45.here hx rfl (hb hby own_d1_53) rfl k) ?_
  have Vk46 := V45_b45
  obtain ⟨cl46, Ar46, qk46, sz46, nn46, hs46, fs46⟩ := Vk46
  have hin46 : ¬ ((0 : Int32) < 0 ∨ cl46.slots.size ≤ ((0 : Int32)).toNatClampNeg) := inb_of sz46 ⟨by decide, by decide⟩
  obtain ⟨T46, h46, X46, e46, W46, st46⟩ := stC X45 hx hZ e45 Ar46 (j := (0 : Int32)) hin46 (g := (mkF m 54 #[.val (.int (2 : Int32)), .val (.int q1), .val (.int q2), .val (.ref b45)] [(.int ((q1 &&& (255 : Int32)).toUInt32.toUInt16.toUInt32.toInt32)), (.int (0 : Int32)), (.ref b45)])) rfl rfl (hb hby own_d1_54)
  have V46_b45 := Arv.set Ar46 qk46 sz46 nn46 hs46 fs46 (fits_nar_char _) W46 0 rfl (Nat.le_of_ble_eq_true rfl)
  have N46 := Fr.snoc X46 N0 gb_b45
  have Z0_46 : n0 ≤ h46.size := by rw [W46.size]; exact Z0_45
  have Kc46 := Kc45.wr W46 (Or.inr sz_b45)
  have Od46 := Od45.wr W46 gb_b45
  refine own_st (V := T46.setTop (mkF m 55 #[.val (.int (2 : Int32)), .val (.int q1), .val (.int q2), .val (.ref b45)] [])) (fun t k => st46 _ k) ?_
  refine own_st (V := T46.setTop (mkF m 56 #[.val (.int (2 : Int32)), .val (.int q1), .val (.int q2), .val (.ref b45)] [(.ref b45)])) (fun t k => XS.aloadN X46.here hx rfl (hb hby own_d1_55) rfl rfl k) ?_
  refine own_st (V := T46.setTop (mkF m 57 #[.val (.int (2 : Int32)), .val (.int q1), .val (.int q2), .val (.ref b45)] [(.int (1 : Int32)), (.ref b45)])) (fun t k => XS.iconst X46.here hx rfl (hb hby own_d1_56) k) ?_
  refine own_st (V := T46.setTop (mkF m 58 #[.val (.int (2 : Int32)), .val (.int q1), .val (.int q2), .val (.ref b45)] [(.int q2), (.int (1 : Int32)), (.ref b45)])) (fun t k => XS.iloadN X46.here hx rfl (hb hby own_d1_57) rfl k) ?_
  refine own_st (V := T46.setTop (mkF m 61 #[.val (.int (2 : Int32)), .val (.int q1), .val (.int q2), .val (.ref b45)] [(.int (255 : Int32)), (.int q2), (.int (1 : Int32)), (.ref b45)])) (fun t k => XS.sipush X46.here hx rfl (hb hby own_d1_58) k) ?_
  refine own_st (V := T46.setTop (mkF m 62 #[.val (.int (2 : Int32)), .val (.int q1), .val (.int q2), .val (.ref b45)] [(.int (q2 &&& (255 : Int32))), (.int (1 : Int32)), (.ref b45)])) (fun t k => XS.iand X46.here hx rfl (hb hby own_d1_61) rfl k) ?_
  refine own_st (V := T46.setTop (mkF m 63 #[.val (.int (2 : Int32)), .val (.int q1), .val (.int q2), .val (.ref b45)] [(.int ((q2 &&& (255 : Int32)).toUInt32.toUInt16.toUInt32.toInt32)), (.int (1 : Int32)), (.ref b45)])) (fun t k => XS.i2c X46.here hx rfl (hb hby own_d1_62) rfl k) ?_
  have Vk47 := V46_b45
  obtain ⟨cl47, Ar47, qk47, sz47, nn47, hs47, fs47⟩ := Vk47
  have hin47 : ¬ ((1 : Int32) < 0 ∨ cl47.slots.size ≤ ((1 : Int32)).toNatClampNeg) := inb_of sz47 ⟨by decide, by decide⟩
  obtain ⟨T47, h47, X47, e47, W47, st47⟩ := stC X46 hx hZ e46 Ar47 (j := (1 : Int32)) hin47 (g := (mkF m 63 #[.val (.int (2 : Int32)), .val (.int q1), .val (.int q2), .val (.ref b45)] [(.int ((q2 &&& (255 : Int32)).toUInt32.toUInt16.toUInt32.toInt32)), (.int (1 : Int32)), (.ref b45)])) rfl rfl (hb hby own_d1_63)
  have V47_b45 := Arv.set Ar47 qk47 sz47 nn47 hs47 fs47 (fits_nar_char _) W47 1 rfl (Nat.le_of_ble_eq_true rfl)
  have N47 := Fr.snoc X47 N46 gb_b45
  have Z0_47 : n0 ≤ h47.size := by rw [W47.size]; exact Z0_46
  have Kc47 := Kc46.wr W47 (Or.inr sz_b45)
  have Od47 := Od46.wr W47 gb_b45
  refine own_st (V := T47.setTop (mkF m 64 #[.val (.int (2 : Int32)), .val (.int q1), .val (.int q2), .val (.ref b45)] [])) (fun t k => st47 _ k) ?_
  obtain ⟨T48, h48, X48, e48, E48, A48, D48, -, st48⟩ := newO X47 hx hZ hown (hw _ (List.mem_of_getElem? (i := 4) rfl)) (hw _ (List.mem_of_getElem? (i := 5) rfl)) (hw _ (List.mem_of_getElem? (i := 6) rfl)) e47 (g := (mkF m 64 #[.val (.int (2 : Int32)), .val (.int q1), .val (.int q2), .val (.ref b45)] [])) rfl (hb hby own_d1_64) (by decide) (by decide)
  obtain ⟨b48, g48⟩ : ∃ z, z = h47.size := ⟨_, rfl⟩
  rw [← g48] at A48 D48 st48
  have gb_b48 : n0 ≤ b48 := Nat.le_trans Z0_47 (Nat.le_of_eq g48.symm)
  have Z0_48 : n0 ≤ h48.size := Nat.le_trans Z0_47 E48.1
  have sz_b48 : h0.size ≤ b48 := Nat.le_trans Kc47.1 (Nat.le_of_eq g48.symm)
  have Kc48 := Kc47.ext E48
  have ne_b45_b48 : b45 ≠ b48 := Nat.ne_of_lt (Nat.lt_of_lt_of_le V47_b45.lt (Nat.le_of_eq g48.symm))
  have V48_b45 := V47_b45.ext E48
  have Od48 := Od47.ext E48
  have F48_b48_value : Fld Z h48 b48 "java/lang/String" "value" "[B" .null := D48 (Or.inr (hw _ (List.mem_of_getElem? (i := 20) rfl))) (ty := (.array .byte)) (by decide)
  have F48_b48_coder : Fld Z h48 b48 "java/lang/String" "coder" "B" (.int (0 : Int32)) := D48 (Or.inr (hw _ (List.mem_of_getElem? (i := 21) rfl))) (ty := .byte) (by decide)
  refine own_st (V := T48.setTop (mkF m 67 #[.val (.int (2 : Int32)), .val (.int q1), .val (.int q2), .val (.ref b45)] [(.ref b48)])) (fun t k => st48 _ k) ?_
  refine own_st (V := T48.setTop (mkF m 68 #[.val (.int (2 : Int32)), .val (.int q1), .val (.int q2), .val (.ref b45)] [(.ref b48), (.ref b48)])) (fun t k => XS.dup X48.here hx rfl (hb hby own_d1_67) rfl rfl k) ?_
  refine own_st (V := T48.setTop (mkF m 69 #[.val (.int (2 : Int32)), .val (.int q1), .val (.int q2), .val (.ref b45)] [(.ref b45), (.ref b48), (.ref b48)])) (fun t k => XS.aloadN X48.here hx rfl (hb hby own_d1_68) rfl rfl k) ?_
  obtain ⟨_, _, ⟨T49, L49, k49, n49⟩, -, X49, ⟨Lc49, hQ49, l49, y49, z49⟩, st49⟩ := X48.specialBack hx (y := (⟨"java/lang/String", "<init>", "([C)V"⟩ : MethodName)) rfl hown (mvT hZ (hw _ (List.mem_of_getElem? (i := 8) rfl))) (mvT hZ (hw _ (List.mem_of_getElem? (i := 9) rfl))) (mvT hZ (hw _ (List.mem_of_getElem? (i := 10) rfl))) (by decide) (backOf (W := 1) (own_s1_2 l Z a0 hw [] b48 b45 k45 cs (nar .char ((q1 &&& (255 : Int32)).toUInt32.toUInt16.toUInt32.toInt32)) (nar .char ((q2 &&& (255 : Int32)).toUInt32.toUInt16.toUInt32.toInt32)) h48 n0 Z0_48 Od48 SC hcs A48 gb_b48 F48_b48_value F48_b48_coder V48_b45 ne_b45_b48 (own_ch2 q1) (own_ch2 q2)) hZ (hw _ (List.mem_of_getElem? (i := 10) rfl)) (hw _ (List.mem_of_getElem? (i := 6) rfl)) (by decide) (by decide)) (g := (mkF m 69 #[.val (.int (2 : Int32)), .val (.int q1), .val (.int q2), .val (.ref b45)] [(.ref b45), (.ref b48), (.ref b48)])) rfl (by rw [hml]; rfl) (Steps.refl _) (a := b48) (argsL := [(.ref b45)]) (rest := [(.ref b48)]) (lenOf own_pd1 rfl) rfl (by show 2 * 0 + _ ≤ _; exact Nat.le_of_eq rfl) (hb hby own_d1_69) (fun _ _ => ⟨rfl, e48, (by decide : 2 + 1 ≤ _), (by decide : 6 + 2 ≤ _)⟩)
  dsimp only [Pt.U, Pt.locs, Pt.cells, Pt.slots] at X49 l49 y49 z49 st49 hQ49
  subst l49 y49 z49
  obtain ⟨rfl, N49q, K49, Ex49_q, t49, kbt49, vst49, szt49', Fq49_0, Vq49⟩ := hQ49
  have N49 := Fr.app N47 N49q
  have Z0_49 : n0 ≤ T49.heap.size := Nat.le_trans Z0_48 K49.1
  have Kc49 := Kc48.trans K49 (fun x hx => Or.inr (by cases List.mem_singleton.mp hx; exact sz_b48))
  have sz_t49 : h0.size ≤ t49 := Nat.le_trans Kc48.1 szt49'
  have ne_b48_t49 : b48 ≠ t49 := Nat.ne_of_lt (Nat.lt_of_lt_of_le A48.lt szt49')
  have ne_b45_t49 : b45 ≠ t49 := Nat.ne_of_lt (Nat.lt_of_lt_of_le V48_b45.lt szt49')
  have Ex49_b48 := A48.keep K49
  have V49_b45 := V48_b45.keep K49 (ninS ne_b45_b48 nin0)
  have Od49 := Od48.keep K49 (allS gb_b48 all0)
  refine own_st (V := T49.setTop (mkF m 72 #[.val (.int (2 : Int32)), .val (.int q1), .val (.int q2), .val (.ref b45)] [(.ref b48)])) (fun t k => st49.trans k) ?_
  exact own_ret X49 hx hlk Bd.returns rfl (Or.inr (Or.inr (Or.inr (Or.inr ⟨rfl, rfl, rfl⟩)))) (hb hby own_d1_72) (by decide) (by decide) (by show Q_own_str2 Z q1 q2 cs h0 n0 _ T49.heap _; exact ⟨_, rfl, N49, Kc49, Ex49_q, _, _, _, Fq49_0, Vq49⟩)
def Q_own_str3 (Z : State) (q1 q2 cs : Int32) (h0 : Heap) (n0 : Nat) (v : Option Value) (h : Heap) (L : List Loc) : Prop := ∃ b, v = some (.ref b) ∧ Fr n0 L ∧ Keep h0 h [] ∧ Exa Z h b "java/lang/String" ∧ ∃ t k vs, Fld Z h b "java/lang/String" "value" "[B" (.ref t) ∧ Arv Z h t k .byte (2 : Int32) vs (.int (0 : Int32))
set_option maxRecDepth 65536 in
set_option maxHeartbeats 40000000 in
theorem own_str3 (l : Launch) (Z : State) (a0 : Array Value) (hw : ∀ d ∈ tables_1, d.before a0 Z = true) (ws : List Jvm.Cond) (q1 q2 cs : Int32) (h0 : Heap) (n0 : Nat) (Z0 : n0 ≤ h0.size) (Od : Old Z n0 h0) (SC : Sta Z Z.heap "java/lang/String" "COMPACT_STRINGS" "Z" (.int cs)) (hcs : ¬ (cs = (0 : Int32))) :
    MetFree l (⟨"com/example/tempora/tempora/core/IssueIsGivenPinLaw", "str", "(III)Ljava/lang/String;"⟩ : MethodName) (head1 (Jvm.Cond.code (⟨"com/example/tempora/tempora/core/IssueIsGivenPinLaw", "str", "(III)Ljava/lang/String;"⟩ : MethodName) method_2_code 4 (some (.object "java/lang/String")) :: ws) ({ frames := 4, cells := 3, slots := 8, locals := 66 } : Room)) (fun a U => a = #[(.int (3 : Int32)), (.int q1), (.int q2)] ∧ Z.Warmed39 U.vm ∧ U.heap = h0) (fun _ _ _ _ _ => True) (fun _ U o U' => ∃ v L, o = .returned v ∧ Q_own_str3 Z q1 q2 cs h0 n0 v U'.heap L ∧ FrameEnd U o U' L ({ frames := 4, cells := 3, slots := 8, locals := 66 } : Room).cells ({ frames := 4, cells := 3, slots := 8, locals := 66 } : Room).slots) := by
  refine MetFree.of_bodySF (plainFor_of_name own_pn_com_example_tempora_tempora_core_IssueIsGivenPinLaw) hisR ?_
  intro p e s m args below meth c s₁ Bd hml0 hP hK
  obtain ⟨rfl, hZ, hh⟩ := hP
  have hx := Bd.exec
  have hby := Bd.bytes
  have hml : c.maxLocals = 4 := hml0
  have hown : s.vm.findClass "com/example/tempora/tempora/core/IssueIsGivenPinLaw" = some m.cls := findClass_of_methodNamed Bd.named
  have hnm := (name_of_methodNamed Bd.named Bd.method).1
  have hlk : meth.locks = false := BodyLoose.notSynchronized Bd
  have X0 : Stand p l e ({ frames := 4, cells := 3, slots := 8, locals := 66 } : Room) s m #[(.int (3 : Int32)), (.int q1), (.int q2)] below meth c s₁ [] 0 0 := Stand.of_body Bd
  have e0 : s₁.heap = h0 := by rw [← hh, Bd.state]; rfl
  have N0 := Fr.nil n0
  show own_Go p e below #[(.int (3 : Int32)), (.int q1), (.int q2)] s (fun _ U o U' => ∃ v L, o = .returned v ∧ Q_own_str3 Z q1 q2 cs h0 n0 v U'.heap L ∧ FrameEnd U o U' L ({ frames := 4, cells := 3, slots := 8, locals := 66 } : Room).cells ({ frames := 4, cells := 3, slots := 8, locals := 66 } : Room).slots) (s₁.setTop (entryFrame m #[(.int (3 : Int32)), (.int q1), (.int q2)] 4))
  refine own_st (V := s₁.setTop (mkF m 0 #[.val (.int (3 : Int32)), .val (.int q1), .val (.int q2), .unset] [])) (fun t k => castTop (by first | (simp [entryFrame, mkF, argsToLocals, Value.category]; done) | rfl) k) ?_
  refine own_st (V := s₁.setTop (mkF m 1 #[.val (.int (3 : Int32)), .val (.int q1), .val (.int q2), .unset] [(.int (3 : Int32))])) (fun t k => XS.iloadN X0.here hx rfl (hb hby own_d1_0) rfl k) ?_
  refine own_st (V := s₁.setTop (mkF m 15 #[.val (.int (3 : Int32)), .val (.int q1), .val (.int q2), .unset] [])) (fun t k => XS.ifYes X0.here hx rfl (pc0 := 1) (pc' := 15) rfl (hb hby own_d1_1) rfl ((if0 _ _).trans (feq (by decide : ¬ ((3 : Int32) = (0 : Int32)))).2) (by decide) (by decide) k) ?_
  refine own_st (V := s₁.setTop (mkF m 16 #[.val (.int (3 : Int32)), .val (.int q1), .val (.int q2), .unset] [(.int (3 : Int32))])) (fun t k => XS.iloadN X0.here hx rfl (hb hby own_d1_15) rfl k) ?_
  refine own_st (V := s₁.setTop (mkF m 17 #[.val (.int (3 : Int32)), .val (.int q1), .val (.int q2), .unset] [(.int (1 : Int32)), (.int (3 : Int32))])) (fun t k => XS.iconst X0.here hx rfl (hb hby own_d1_16) k) ?_
  refine own_st (V := s₁.setTop (mkF m 42 #[.val (.int (3 : Int32)), .val (.int q1), .val (.int q2), .unset] [])) (fun t k => XS.icmpYes X0.here hx rfl (pc0 := 17) (pc' := 42) rfl (hb hby own_d1_17) rfl (feq (by decide : ¬ ((3 : Int32) = (1 : Int32)))).2 (by decide) (by decide) k) ?_
  refine own_st (V := s₁.setTop (mkF m 43 #[.val (.int (3 : Int32)), .val (.int q1), .val (.int q2), .unset] [(.int (2 : Int32))])) (fun t k => XS.iconst X0.here hx rfl (hb hby own_d1_42) k) ?_
  obtain ⟨T50, h50, k50, X50, e50, E50, A50, st50⟩ := newP X0 hx hZ (hw _ (List.mem_of_getElem? (i := 7) rfl)) e0 (g := (mkF m 43 #[.val (.int (3 : Int32)), .val (.int q1), .val (.int q2), .unset] [(.int (2 : Int32))])) rfl (hb hby own_d1_43) rfl (by decide) (cap := 2) (by decide) (by decide) (by decide) (by decide)
  obtain ⟨b50, g50⟩ : ∃ z, z = h0.size := ⟨_, rfl⟩
  rw [← g50] at A50 st50
  have gb_b50 : n0 ≤ b50 := Nat.le_trans Z0 (Nat.le_of_eq g50.symm)
  have Z0_50 : n0 ≤ h50.size := Nat.le_trans Z0 E50.1
  have sz_b50 : h0.size ≤ b50 := Nat.le_trans (Keep.refl h0 []).1 (Nat.le_of_eq g50.symm)
  have Kc50 := (Keep.refl h0 []).ext E50
  have Od50 := Od.ext E50
  have V50_b50 : Arv Z h50 b50 k50 .char (2 : Int32) [(.int (0 : Int32)), (.int (0 : Int32))] (.int (0 : Int32)) := (Arv.new A50 (by decide)).pad (pad_rep [] (.int (0 : Int32)) 2)
  refine own_st (V := T50.setTop (mkF m 45 #[.val (.int (3 : Int32)), .val (.int q1), .val (.int q2), .unset] [(.ref b50)])) (fun t k => st50 _ k) ?_
  refine own_st (V := T50.setTop (mkF m 46 #[.val (.int (3 : Int32)), .val (.int q1), .val (.int q2), .val (.ref b50)] [])) (fun t k => XS.astoreN X50.here hx rfl (hb hby own_d1_45) rfl rfl (l' := #[.val (.int (3 : Int32)), .val (.int q1), .val (.int q2), .val (.ref b50)]) rfl k) ?_
  refine own_st (V := T50.setTop (mkF m 47 #[.val (.int (3 : Int32)), .val (.int q1), .val (.int q2), .val (.ref b50)] [(.ref b50)])) (fun t k => XS.aloadN X50.here hx rfl (hb hby own_d1_46) rfl rfl k) ?_
  refine own_st (V := T50.setTop (mkF m 48 #[.val (.int (3 : Int32)), .val (.int q1), .val (.int q2), .val (.ref b50)] [(.int (0 : Int32)), (.ref b50)])) (fun t k => XS.iconst X50.here hx rfl (hb hby own_d1_47) k) ?_
  refine own_st (V := T50.setTop (mkF m 49 #[.val (.int (3 : Int32)), .val (.int q1), .val (.int q2), .val (.ref b50)] [(.int q1), (.int (0 : Int32)), (.ref b50)])) (fun t k => XS.iloadN X50.here hx rfl (hb hby own_d1_48) rfl k) ?_
  refine own_st (V := T50.setTop (mkF m 52 #[.val (.int (3 : Int32)), .val (.int q1), .val (.int q2), .val (.ref b50)] [(.int (255 : Int32)), (.int q1), (.int (0 : Int32)), (.ref b50)])) (fun t k => XS.sipush X50.here hx rfl (hb hby own_d1_49) k) ?_
  refine own_st (V := T50.setTop (mkF m 53 #[.val (.int (3 : Int32)), .val (.int q1), .val (.int q2), .val (.ref b50)] [(.int (q1 &&& (255 : Int32))), (.int (0 : Int32)), (.ref b50)])) (fun t k => XS.iand X50.here hx rfl (hb hby own_d1_52) rfl k) ?_
  refine own_st (V := T50.setTop (mkF m 54 #[.val (.int (3 : Int32)), .val (.int q1), .val (.int q2), .val (.ref b50)] [(.int ((q1 &&& (255 : Int32)).toUInt32.toUInt16.toUInt32.toInt32)), (.int (0 : Int32)), (.ref b50)])) (fun t k => XS.i2c X50.here hx rfl (hb hby own_d1_53) rfl k) ?_
  have Vk51 := V50_b50
  obtain ⟨cl51, Ar51, qk51, sz51, nn51, hs51, fs51⟩ := Vk51
  have hin51 : ¬ ((0 : Int32) < 0 ∨ cl51.slots.size ≤ ((0 : Int32)).toNatClampNeg) := inb_of sz51 ⟨by decide, by decide⟩
  obtain ⟨T51, h51, X51, e51, W51, st51⟩ := stC X50 hx hZ e50 Ar51 (j := (0 : Int32)) hin51 (g := (mkF m 54 #[.val (.int (3 : Int32)), .val (.int q1), .val (.int q2), .val (.ref b50)] [(.int ((q1 &&& (255 : Int32)).toUInt32.toUInt16.toUInt32.toInt32)), (.int (0 : Int32)), (.ref b50)])) rfl rfl (hb hby own_d1_54)
  have V51_b50 := Arv.set Ar51 qk51 sz51 nn51 hs51 fs51 (fits_nar_char _) W51 0 rfl (Nat.le_of_ble_eq_true rfl)
  have N51 := Fr.snoc X51 N0 gb_b50
  have Z0_51 : n0 ≤ h51.size := by rw [W51.size]; exact Z0_50
  have Kc51 := Kc50.wr W51 (Or.inr sz_b50)
  have Od51 := Od50.wr W51 gb_b50
  refine own_st (V := T51.setTop (mkF m 55 #[.val (.int (3 : Int32)), .val (.int q1), .val (.int q2), .val (.ref b50)] [])) (fun t k => st51 _ k) ?_
  refine own_st (V := T51.setTop (mkF m 56 #[.val (.int (3 : Int32)), .val (.int q1), .val (.int q2), .val (.ref b50)] [(.ref b50)])) (fun t k => XS.aloadN X51.here hx rfl (hb hby own_d1_55) rfl rfl k) ?_
  refine own_st (V := T51.setTop (mkF m 57 #[.val (.int (3 : Int32)), .val (.int q1), .val (.int q2), .val (.ref b50)] [(.int (1 : Int32)), (.ref b50)])) (fun t k => XS.iconst X51.here hx rfl (hb hby own_d1_56) k) ?_
  refine own_st (V := T51.setTop (mkF m 58 #[.val (.int (3 : Int32)), .val (.int q1), .val (.int q2), .val (.ref b50)] [(.int q2), (.int (1 : Int32)), (.ref b50)])) (fun t k => XS.iloadN X51.here hx rfl (hb hby own_d1_57) rfl k) ?_
  refine own_st (V := T51.setTop (mkF m 61 #[.val (.int (3 : Int32)), .val (.int q1), .val (.int q2), .val (.ref b50)] [(.int (255 : Int32)), (.int q2), (.int (1 : Int32)), (.ref b50)])) (fun t k => XS.sipush X51.here hx rfl (hb hby own_d1_58) k) ?_
  refine own_st (V := T51.setTop (mkF m 62 #[.val (.int (3 : Int32)), .val (.int q1), .val (.int q2), .val (.ref b50)] [(.int (q2 &&& (255 : Int32))), (.int (1 : Int32)), (.ref b50)])) (fun t k => XS.iand X51.here hx rfl (hb hby own_d1_61) rfl k) ?_
  refine own_st (V := T51.setTop (mkF m 63 #[.val (.int (3 : Int32)), .val (.int q1), .val (.int q2), .val (.ref b50)] [(.int ((q2 &&& (255 : Int32)).toUInt32.toUInt16.toUInt32.toInt32)), (.int (1 : Int32)), (.ref b50)])) (fun t k => XS.i2c X51.here hx rfl (hb hby own_d1_62) rfl k) ?_
  have Vk52 := V51_b50
  obtain ⟨cl52, Ar52, qk52, sz52, nn52, hs52, fs52⟩ := Vk52
  have hin52 : ¬ ((1 : Int32) < 0 ∨ cl52.slots.size ≤ ((1 : Int32)).toNatClampNeg) := inb_of sz52 ⟨by decide, by decide⟩
  obtain ⟨T52, h52, X52, e52, W52, st52⟩ := stC X51 hx hZ e51 Ar52 (j := (1 : Int32)) hin52 (g := (mkF m 63 #[.val (.int (3 : Int32)), .val (.int q1), .val (.int q2), .val (.ref b50)] [(.int ((q2 &&& (255 : Int32)).toUInt32.toUInt16.toUInt32.toInt32)), (.int (1 : Int32)), (.ref b50)])) rfl rfl (hb hby own_d1_63)
  have V52_b50 := Arv.set Ar52 qk52 sz52 nn52 hs52 fs52 (fits_nar_char _) W52 1 rfl (Nat.le_of_ble_eq_true rfl)
  have N52 := Fr.snoc X52 N51 gb_b50
  have Z0_52 : n0 ≤ h52.size := by rw [W52.size]; exact Z0_51
  have Kc52 := Kc51.wr W52 (Or.inr sz_b50)
  have Od52 := Od51.wr W52 gb_b50
  refine own_st (V := T52.setTop (mkF m 64 #[.val (.int (3 : Int32)), .val (.int q1), .val (.int q2), .val (.ref b50)] [])) (fun t k => st52 _ k) ?_
  obtain ⟨T53, h53, X53, e53, E53, A53, D53, -, st53⟩ := newO X52 hx hZ hown (hw _ (List.mem_of_getElem? (i := 4) rfl)) (hw _ (List.mem_of_getElem? (i := 5) rfl)) (hw _ (List.mem_of_getElem? (i := 6) rfl)) e52 (g := (mkF m 64 #[.val (.int (3 : Int32)), .val (.int q1), .val (.int q2), .val (.ref b50)] [])) rfl (hb hby own_d1_64) (by decide) (by decide)
  obtain ⟨b53, g53⟩ : ∃ z, z = h52.size := ⟨_, rfl⟩
  rw [← g53] at A53 D53 st53
  have gb_b53 : n0 ≤ b53 := Nat.le_trans Z0_52 (Nat.le_of_eq g53.symm)
  have Z0_53 : n0 ≤ h53.size := Nat.le_trans Z0_52 E53.1
  have sz_b53 : h0.size ≤ b53 := Nat.le_trans Kc52.1 (Nat.le_of_eq g53.symm)
  have Kc53 := Kc52.ext E53
  have ne_b50_b53 : b50 ≠ b53 := Nat.ne_of_lt (Nat.lt_of_lt_of_le V52_b50.lt (Nat.le_of_eq g53.symm))
  have V53_b50 := V52_b50.ext E53
  have Od53 := Od52.ext E53
  have F53_b53_value : Fld Z h53 b53 "java/lang/String" "value" "[B" .null := D53 (Or.inr (hw _ (List.mem_of_getElem? (i := 20) rfl))) (ty := (.array .byte)) (by decide)
  have F53_b53_coder : Fld Z h53 b53 "java/lang/String" "coder" "B" (.int (0 : Int32)) := D53 (Or.inr (hw _ (List.mem_of_getElem? (i := 21) rfl))) (ty := .byte) (by decide)
  refine own_st (V := T53.setTop (mkF m 67 #[.val (.int (3 : Int32)), .val (.int q1), .val (.int q2), .val (.ref b50)] [(.ref b53)])) (fun t k => st53 _ k) ?_
  refine own_st (V := T53.setTop (mkF m 68 #[.val (.int (3 : Int32)), .val (.int q1), .val (.int q2), .val (.ref b50)] [(.ref b53), (.ref b53)])) (fun t k => XS.dup X53.here hx rfl (hb hby own_d1_67) rfl rfl k) ?_
  refine own_st (V := T53.setTop (mkF m 69 #[.val (.int (3 : Int32)), .val (.int q1), .val (.int q2), .val (.ref b50)] [(.ref b50), (.ref b53), (.ref b53)])) (fun t k => XS.aloadN X53.here hx rfl (hb hby own_d1_68) rfl rfl k) ?_
  obtain ⟨_, _, ⟨T54, L54, k54, n54⟩, -, X54, ⟨Lc54, hQ54, l54, y54, z54⟩, st54⟩ := X53.specialBack hx (y := (⟨"java/lang/String", "<init>", "([C)V"⟩ : MethodName)) rfl hown (mvT hZ (hw _ (List.mem_of_getElem? (i := 8) rfl))) (mvT hZ (hw _ (List.mem_of_getElem? (i := 9) rfl))) (mvT hZ (hw _ (List.mem_of_getElem? (i := 10) rfl))) (by decide) (backOf (W := 1) (own_s1_2 l Z a0 hw [] b53 b50 k50 cs (nar .char ((q1 &&& (255 : Int32)).toUInt32.toUInt16.toUInt32.toInt32)) (nar .char ((q2 &&& (255 : Int32)).toUInt32.toUInt16.toUInt32.toInt32)) h53 n0 Z0_53 Od53 SC hcs A53 gb_b53 F53_b53_value F53_b53_coder V53_b50 ne_b50_b53 (own_ch2 q1) (own_ch2 q2)) hZ (hw _ (List.mem_of_getElem? (i := 10) rfl)) (hw _ (List.mem_of_getElem? (i := 6) rfl)) (by decide) (by decide)) (g := (mkF m 69 #[.val (.int (3 : Int32)), .val (.int q1), .val (.int q2), .val (.ref b50)] [(.ref b50), (.ref b53), (.ref b53)])) rfl (by rw [hml]; rfl) (Steps.refl _) (a := b53) (argsL := [(.ref b50)]) (rest := [(.ref b53)]) (lenOf own_pd1 rfl) rfl (by show 2 * 0 + _ ≤ _; exact Nat.le_of_eq rfl) (hb hby own_d1_69) (fun _ _ => ⟨rfl, e53, (by decide : 2 + 1 ≤ _), (by decide : 6 + 2 ≤ _)⟩)
  dsimp only [Pt.U, Pt.locs, Pt.cells, Pt.slots] at X54 l54 y54 z54 st54 hQ54
  subst l54 y54 z54
  obtain ⟨rfl, N54q, K54, Ex54_q, t54, kbt54, vst54, szt54', Fq54_0, Vq54⟩ := hQ54
  have N54 := Fr.app N52 N54q
  have Z0_54 : n0 ≤ T54.heap.size := Nat.le_trans Z0_53 K54.1
  have Kc54 := Kc53.trans K54 (fun x hx => Or.inr (by cases List.mem_singleton.mp hx; exact sz_b53))
  have sz_t54 : h0.size ≤ t54 := Nat.le_trans Kc53.1 szt54'
  have ne_b53_t54 : b53 ≠ t54 := Nat.ne_of_lt (Nat.lt_of_lt_of_le A53.lt szt54')
  have ne_b50_t54 : b50 ≠ t54 := Nat.ne_of_lt (Nat.lt_of_lt_of_le V53_b50.lt szt54')
  have Ex54_b53 := A53.keep K54
  have V54_b50 := V53_b50.keep K54 (ninS ne_b50_b53 nin0)
  have Od54 := Od53.keep K54 (allS gb_b53 all0)
  refine own_st (V := T54.setTop (mkF m 72 #[.val (.int (3 : Int32)), .val (.int q1), .val (.int q2), .val (.ref b50)] [(.ref b53)])) (fun t k => st54.trans k) ?_
  exact own_ret X54 hx hlk Bd.returns rfl (Or.inr (Or.inr (Or.inr (Or.inr ⟨rfl, rfl, rfl⟩)))) (hb hby own_d1_72) (by decide) (by decide) (by show Q_own_str3 Z q1 q2 cs h0 n0 _ T54.heap _; exact ⟨_, rfl, N54, Kc54, Ex54_q, _, _, _, Fq54_0, Vq54⟩)
def Q_own_ri (Z : State) (o1 : Addr) (h0 : Heap) (n0 : Nat) (v : Option Value) (h : Heap) (L : List Loc) : Prop := v = none ∧ Fr n0 L ∧ h = h0
theorem own_d6_0 : decode jdk_30_method_1_code 0 = .ok (.aload_n 0, 1) := by decide +kernel
theorem own_d6_1 : decode jdk_30_method_1_code 1 = .ok (.invokespecial 1, 3) := by decide +kernel
theorem own_d6_4 : decode jdk_30_method_1_code 4 = .ok (.return_, 1) := by decide +kernel
theorem own_pn_java_lang_Record : plainName "java/lang/Record" = true := by first | (simp [plainName, overriddenIn]; done) | decide +kernel
set_option maxRecDepth 65536 in
set_option maxHeartbeats 40000000 in
theorem own_ri (l : Launch) (Z : State) (a0 : Array Value) (hw : ∀ d ∈ tables_1, d.before a0 Z = true) (ws : List Jvm.Cond) (o1 : Addr) (h0 : Heap) (n0 : Nat) (Z0 : n0 ≤ h0.size) :
    MetFree l (⟨"java/lang/Record", "<init>", "()V"⟩ : MethodName) (head1 (Jvm.Cond.code (⟨"java/lang/Record", "<init>", "()V"⟩ : MethodName) jdk_30_method_1_code 1 none :: ws) ({ frames := 1, cells := 0, slots := 0, locals := 12 } : Room)) (fun a U => a = #[(.ref o1)] ∧ Z.Warmed39 U.vm ∧ U.heap = h0) (fun _ _ _ _ _ => True) (fun _ U o U' => ∃ v L, o = .returned v ∧ Q_own_ri Z o1 h0 n0 v U'.heap L ∧ FrameEnd U o U' L ({ frames := 1, cells := 0, slots := 0, locals := 12 } : Room).cells ({ frames := 1, cells := 0, slots := 0, locals := 12 } : Room).slots) := by
  refine MetFree.of_bodySF (plainFor_of_name own_pn_java_lang_Record) hisR ?_
  intro p e s m args below meth c s₁ Bd hml0 hP hK
  obtain ⟨rfl, hZ, hh⟩ := hP
  have hx := Bd.exec
  have hby := Bd.bytes
  have hml : c.maxLocals = 1 := hml0
  have hown : s.vm.findClass "java/lang/Record" = some m.cls := findClass_of_methodNamed Bd.named
  have hnm := (name_of_methodNamed Bd.named Bd.method).1
  have hlk : meth.locks = false := BodyLoose.notSynchronized Bd
  have X0 : Stand p l e ({ frames := 1, cells := 0, slots := 0, locals := 12 } : Room) s m #[(.ref o1)] below meth c s₁ [] 0 0 := Stand.of_body Bd
  have e0 : s₁.heap = h0 := by rw [← hh, Bd.state]; rfl
  have N0 := Fr.nil n0
  show own_Go p e below #[(.ref o1)] s (fun _ U o U' => ∃ v L, o = .returned v ∧ Q_own_ri Z o1 h0 n0 v U'.heap L ∧ FrameEnd U o U' L ({ frames := 1, cells := 0, slots := 0, locals := 12 } : Room).cells ({ frames := 1, cells := 0, slots := 0, locals := 12 } : Room).slots) (s₁.setTop (entryFrame m #[(.ref o1)] 1))
  refine own_st (V := s₁.setTop (mkF m 0 #[.val (.ref o1)] [])) (fun t k => castTop (by first | (simp [entryFrame, mkF, argsToLocals, Value.category]; done) | rfl) k) ?_
  refine own_st (V := s₁.setTop (mkF m 1 #[.val (.ref o1)] [(.ref o1)])) (fun t k => XS.aloadN X0.here hx rfl (hb hby own_d6_0) rfl rfl k) ?_
  obtain ⟨T55, X55, e55, st55⟩ := initO X0 hx hZ hown (hw _ (List.mem_of_getElem? (i := 37) rfl)) (hw _ (List.mem_of_getElem? (i := 16) rfl)) (hw _ (List.mem_of_getElem? (i := 17) rfl)) e0 (g := (mkF m 1 #[.val (.ref o1)] [(.ref o1)])) rfl (by rw [hml]; rfl) rfl (hb hby own_d6_1) (by decide) (W := 0) (by show 2 * 0 + _ ≤ _; exact Nat.le_of_eq rfl) (by decide)
  refine own_st (V := T55.setTop (mkF m 4 #[.val (.ref o1)] [])) (fun t k => st55 _ k) ?_
  exact own_ret0 X55 hx hlk Bd.returns (hb hby own_d6_4) (by decide) (by decide) (by show Q_own_ri Z o1 h0 n0 _ T55.heap _; rw [e55]; exact ⟨rfl, N0, rfl⟩)
def Q_own_ii (Z : State) (o1 o2 o3 : Addr) (h0 : Heap) (n0 : Nat) (v : Option Value) (h : Heap) (L : List Loc) : Prop := v = none ∧ Fr n0 L ∧ Keep h0 h [o1] ∧ Exa Z h o1 "com/example/tempora/tempora/core/Issue" ∧ Fld Z h o1 "com/example/tempora/tempora/core/Issue" "designation" "Ljava/lang/String;" (.ref o2) ∧ Fld Z h o1 "com/example/tempora/tempora/core/Issue" "date" "Ljava/lang/String;" (.ref o3)
theorem own_d5_0 : decode prog_18_method_1_code 0 = .ok (.aload_n 0, 1) := by decide +kernel
theorem own_d5_1 : decode prog_18_method_1_code 1 = .ok (.invokespecial 1, 3) := by decide +kernel
theorem own_pd5 : parseMethodDescriptor "()V" = some ⟨[], none⟩ := by decide +kernel
theorem own_d5_4 : decode prog_18_method_1_code 4 = .ok (.aload_n 0, 1) := by decide +kernel
theorem own_d5_5 : decode prog_18_method_1_code 5 = .ok (.aload_n 1, 1) := by decide +kernel
theorem own_d5_6 : decode prog_18_method_1_code 6 = .ok (.putfield 7, 3) := by decide +kernel
theorem own_d5_9 : decode prog_18_method_1_code 9 = .ok (.aload_n 0, 1) := by decide +kernel
theorem own_d5_10 : decode prog_18_method_1_code 10 = .ok (.aload_n 2, 1) := by decide +kernel
theorem own_d5_11 : decode prog_18_method_1_code 11 = .ok (.putfield 13, 3) := by decide +kernel
theorem own_d5_14 : decode prog_18_method_1_code 14 = .ok (.return_, 1) := by decide +kernel
theorem own_pn_com_example_tempora_tempora_core_Issue : plainName "com/example/tempora/tempora/core/Issue" = true := by first | (simp [plainName, overriddenIn]; done) | decide +kernel
set_option maxRecDepth 65536 in
set_option maxHeartbeats 40000000 in
theorem own_ii (l : Launch) (Z : State) (a0 : Array Value) (hw : ∀ d ∈ tables_1, d.before a0 Z = true) (ws : List Jvm.Cond) (o1 o2 o3 : Addr) (h0 : Heap) (n0 : Nat) (Z0 : n0 ≤ h0.size) (F1 : Fld Z h0 o1 "com/example/tempora/tempora/core/Issue" "designation" "Ljava/lang/String;" .null) (F2 : Fld Z h0 o1 "com/example/tempora/tempora/core/Issue" "date" "Ljava/lang/String;" .null) (E1 : Exa Z h0 o1 "com/example/tempora/tempora/core/Issue") (g1 : n0 ≤ o1) :
    MetFree l (⟨"com/example/tempora/tempora/core/Issue", "<init>", "(Ljava/lang/String;Ljava/lang/String;)V"⟩ : MethodName) (head1 (Jvm.Cond.code (⟨"com/example/tempora/tempora/core/Issue", "<init>", "(Ljava/lang/String;Ljava/lang/String;)V"⟩ : MethodName) prog_18_method_1_code 3 none :: ws) ({ frames := 2, cells := 0, slots := 0, locals := 24 } : Room)) (fun a U => a = #[(.ref o1), (.ref o2), (.ref o3)] ∧ Z.Warmed39 U.vm ∧ U.heap = h0) (fun _ _ _ _ _ => True) (fun _ U o U' => ∃ v L, o = .returned v ∧ Q_own_ii Z o1 o2 o3 h0 n0 v U'.heap L ∧ FrameEnd U o U' L ({ frames := 2, cells := 0, slots := 0, locals := 24 } : Room).cells ({ frames := 2, cells := 0, slots := 0, locals := 24 } : Room).slots) := by
  refine MetFree.of_bodySF (plainFor_of_name own_pn_com_example_tempora_tempora_core_Issue) hisR ?_
  intro p e s m args below meth c s₁ Bd hml0 hP hK
  obtain ⟨rfl, hZ, hh⟩ := hP
  have hx := Bd.exec
  have hby := Bd.bytes
  have hml : c.maxLocals = 3 := hml0
  have hown : s.vm.findClass "com/example/tempora/tempora/core/Issue" = some m.cls := findClass_of_methodNamed Bd.named
  have hnm := (name_of_methodNamed Bd.named Bd.method).1
  have hlk : meth.locks = false := BodyLoose.notSynchronized Bd
  have X0 : Stand p l e ({ frames := 2, cells := 0, slots := 0, locals := 24 } : Room) s m #[(.ref o1), (.ref o2), (.ref o3)] below meth c s₁ [] 0 0 := Stand.of_body Bd
  have e0 : s₁.heap = h0 := by rw [← hh, Bd.state]; rfl
  have N0 := Fr.nil n0
  show own_Go p e below #[(.ref o1), (.ref o2), (.ref o3)] s (fun _ U o U' => ∃ v L, o = .returned v ∧ Q_own_ii Z o1 o2 o3 h0 n0 v U'.heap L ∧ FrameEnd U o U' L ({ frames := 2, cells := 0, slots := 0, locals := 24 } : Room).cells ({ frames := 2, cells := 0, slots := 0, locals := 24 } : Room).slots) (s₁.setTop (entryFrame m #[(.ref o1), (.ref o2), (.ref o3)] 3))
  refine own_st (V := s₁.setTop (mkF m 0 #[.val (.ref o1), .val (.ref o2), .val (.ref o3)] [])) (fun t k => castTop (by first | (simp [entryFrame, mkF, argsToLocals, Value.category]; done) | rfl) k) ?_
  refine own_st (V := s₁.setTop (mkF m 1 #[.val (.ref o1), .val (.ref o2), .val (.ref o3)] [(.ref o1)])) (fun t k => XS.aloadN X0.here hx rfl (hb hby own_d5_0) rfl rfl k) ?_
  obtain ⟨_, _, ⟨T56, L56, k56, n56⟩, -, X56, ⟨Lc56, hQ56, l56, y56, z56⟩, st56⟩ := X0.specialBack hx (y := (⟨"java/lang/Record", "<init>", "()V"⟩ : MethodName)) rfl hown (mvT hZ (hw _ (List.mem_of_getElem? (i := 32) rfl))) (mvT hZ (hw _ (List.mem_of_getElem? (i := 33) rfl))) (mvT hZ (hw _ (List.mem_of_getElem? (i := 36) rfl))) (by decide) (backOf (W := 0) (own_ri l Z a0 hw [] o1 h0 n0 Z0 ) hZ (hw _ (List.mem_of_getElem? (i := 36) rfl)) (hw _ (List.mem_of_getElem? (i := 35) rfl)) (by decide) (by decide)) (g := (mkF m 1 #[.val (.ref o1), .val (.ref o2), .val (.ref o3)] [(.ref o1)])) rfl (by rw [hml]; rfl) (Steps.refl _) (a := o1) (argsL := []) (rest := []) (lenOf own_pd5 rfl) rfl (by show 2 * 0 + _ ≤ _; exact Nat.le_of_eq rfl) (hb hby own_d5_1) (fun _ _ => ⟨rfl, e0, (by decide : 0 + 0 ≤ _), (by decide : 0 + 0 ≤ _)⟩)
  dsimp only [Pt.U, Pt.locs, Pt.cells, Pt.slots] at X56 l56 y56 z56 st56 hQ56
  subst l56 y56 z56
  obtain ⟨rfl, N56q, e56⟩ := hQ56
  have N56 := Fr.app N0 N56q
  refine own_st (V := T56.setTop (mkF m 4 #[.val (.ref o1), .val (.ref o2), .val (.ref o3)] [])) (fun t k => st56.trans k) ?_
  refine own_st (V := T56.setTop (mkF m 5 #[.val (.ref o1), .val (.ref o2), .val (.ref o3)] [(.ref o1)])) (fun t k => XS.aloadN X56.here hx rfl (hb hby own_d5_4) rfl rfl k) ?_
  refine own_st (V := T56.setTop (mkF m 6 #[.val (.ref o1), .val (.ref o2), .val (.ref o3)] [(.ref o2), (.ref o1)])) (fun t k => XS.aloadN X56.here hx rfl (hb hby own_d5_5) rfl rfl k) ?_
  obtain ⟨T57, h57, X57, e57, W57, st57⟩ := putF X56 hx hZ hown (host := "") (Or.inl (hw _ (List.mem_of_getElem? (i := 38) rfl))) Via.refl e56 F1 E1 (Or.inr ⟨(hw _ (List.mem_of_getElem? (i := 39) rfl)), rfl, hnm⟩) (hw _ (List.mem_of_getElem? (i := 27) rfl)) (ty := (.object "java/lang/String")) (by decide) rfl rfl (g := (mkF m 6 #[.val (.ref o1), .val (.ref o2), .val (.ref o3)] [(.ref o2), (.ref o1)])) rfl rfl (hb hby own_d5_6)
  have N57 := Fr.snoc X57 N56 g1
  have Z0_57 : n0 ≤ h57.size := by rw [W57.size]; exact Z0
  have F57_w := F1.same W57
  have Kc57 := (Keep.refl h0 [o1]).wr W57 (Or.inl (List.mem_of_getElem? (i := 0) rfl))
  have F57_o1_date := F2.other W57 (Or.inr (slot_ne (Or.inr (hw _ (List.mem_of_getElem? (i := 41) rfl))) (Or.inr (hw _ (List.mem_of_getElem? (i := 39) rfl))) (by decide) (t := (.object "java/lang/String")) (t' := (.object "java/lang/String")) (by decide) (by decide)))
  have Ex57_o1 := E1.wr W57
  refine own_st (V := T57.setTop (mkF m 9 #[.val (.ref o1), .val (.ref o2), .val (.ref o3)] [])) (fun t k => st57 _ k) ?_
  refine own_st (V := T57.setTop (mkF m 10 #[.val (.ref o1), .val (.ref o2), .val (.ref o3)] [(.ref o1)])) (fun t k => XS.aloadN X57.here hx rfl (hb hby own_d5_9) rfl rfl k) ?_
  refine own_st (V := T57.setTop (mkF m 11 #[.val (.ref o1), .val (.ref o2), .val (.ref o3)] [(.ref o3), (.ref o1)])) (fun t k => XS.aloadN X57.here hx rfl (hb hby own_d5_10) rfl rfl k) ?_
  obtain ⟨T58, h58, X58, e58, W58, st58⟩ := putF X57 hx hZ hown (host := "") (Or.inl (hw _ (List.mem_of_getElem? (i := 40) rfl))) Via.refl e57 F57_o1_date Ex57_o1 (Or.inr ⟨(hw _ (List.mem_of_getElem? (i := 41) rfl)), rfl, hnm⟩) (hw _ (List.mem_of_getElem? (i := 27) rfl)) (ty := (.object "java/lang/String")) (by decide) rfl rfl (g := (mkF m 11 #[.val (.ref o1), .val (.ref o2), .val (.ref o3)] [(.ref o3), (.ref o1)])) rfl rfl (hb hby own_d5_11)
  have N58 := Fr.snoc X58 N57 g1
  have Z0_58 : n0 ≤ h58.size := by rw [W58.size]; exact Z0_57
  have F58_w := F57_o1_date.same W58
  have Kc58 := Kc57.wr W58 (Or.inl (List.mem_of_getElem? (i := 0) rfl))
  have F58_o1_designation := F57_w.other W58 (Or.inr (slot_ne (Or.inr (hw _ (List.mem_of_getElem? (i := 39) rfl))) (Or.inr (hw _ (List.mem_of_getElem? (i := 41) rfl))) (by decide) (t := (.object "java/lang/String")) (t' := (.object "java/lang/String")) (by decide) (by decide)))
  have Ex58_o1 := Ex57_o1.wr W58
  refine own_st (V := T58.setTop (mkF m 14 #[.val (.ref o1), .val (.ref o2), .val (.ref o3)] [])) (fun t k => st58 _ k) ?_
  exact own_ret0 X58 hx hlk Bd.returns (hb hby own_d5_14) (by decide) (by decide) (by show Q_own_ii Z o1 o2 o3 h0 n0 _ T58.heap _; rw [e58]; exact ⟨rfl, N58, Kc58, Ex58_o1, F58_o1_designation, F58_w⟩)
def Q_own_ie0 (Z : State) (o1 t1 : Addr) (k1 : ClassId) (vs : List Value) (h0 : Heap) (n0 : Nat) (v : Option Value) (h : Heap) (L : List Loc) : Prop := v = some (.int (1 : Int32)) ∧ Fr n0 L ∧ h = h0
theorem own_d8_0 : decode jdk_42_method_55_code 0 = .ok (.aload_n 0, 1) := by decide +kernel
theorem own_d8_1 : decode jdk_42_method_55_code 1 = .ok (.getfield 9, 3) := by decide +kernel
theorem own_d8_4 : decode jdk_42_method_55_code 4 = .ok (.arraylength, 1) := by decide +kernel
theorem own_d8_5 : decode jdk_42_method_55_code 5 = .ok (.ifCond .ne 7, 3) := by decide +kernel
theorem own_d8_8 : decode jdk_42_method_55_code 8 = .ok (.iconst 1, 1) := by decide +kernel
theorem own_d8_9 : decode jdk_42_method_55_code 9 = .ok (.goto 4, 3) := by decide +kernel
theorem own_d8_13 : decode jdk_42_method_55_code 13 = .ok (.ireturn, 1) := by decide +kernel
set_option maxRecDepth 65536 in
set_option maxHeartbeats 40000000 in
theorem own_ie0 (l : Launch) (Z : State) (a0 : Array Value) (hw : ∀ d ∈ tables_1, d.before a0 Z = true) (ws : List Jvm.Cond) (o1 t1 : Addr) (k1 : ClassId) (vs : List Value) (h0 : Heap) (n0 : Nat) (Z0 : n0 ≤ h0.size) (F1 : Fld Z h0 o1 "java/lang/String" "value" "[B" (.ref t1)) (V1 : Arv Z h0 t1 k1 .byte (0 : Int32) vs (.int (0 : Int32))) :
    MetFree l (⟨"java/lang/String", "isEmpty", "()Z"⟩ : MethodName) (head1 (Jvm.Cond.code (⟨"java/lang/String", "isEmpty", "()Z"⟩ : MethodName) jdk_42_method_55_code 1 (some .boolean) :: ws) ({ frames := 0, cells := 0, slots := 0, locals := 0 } : Room)) (fun a U => a = #[(.ref o1)] ∧ Z.Warmed39 U.vm ∧ U.heap = h0) (fun _ _ _ _ _ => True) (fun _ U o U' => ∃ v L, o = .returned v ∧ Q_own_ie0 Z o1 t1 k1 vs h0 n0 v U'.heap L ∧ FrameEnd U o U' L ({ frames := 0, cells := 0, slots := 0, locals := 0 } : Room).cells ({ frames := 0, cells := 0, slots := 0, locals := 0 } : Room).slots) := by
  refine MetFree.of_bodySF (plainFor_of_name own_pn_java_lang_String) hisR ?_
  intro p e s m args below meth c s₁ Bd hml0 hP hK
  obtain ⟨rfl, hZ, hh⟩ := hP
  have hx := Bd.exec
  have hby := Bd.bytes
  have hml : c.maxLocals = 1 := hml0
  have hown : s.vm.findClass "java/lang/String" = some m.cls := findClass_of_methodNamed Bd.named
  have hnm := (name_of_methodNamed Bd.named Bd.method).1
  have hlk : meth.locks = false := BodyLoose.notSynchronized Bd
  have X0 : Stand p l e ({ frames := 0, cells := 0, slots := 0, locals := 0 } : Room) s m #[(.ref o1)] below meth c s₁ [] 0 0 := Stand.of_body Bd
  have e0 : s₁.heap = h0 := by rw [← hh, Bd.state]; rfl
  have N0 := Fr.nil n0
  show own_Go p e below #[(.ref o1)] s (fun _ U o U' => ∃ v L, o = .returned v ∧ Q_own_ie0 Z o1 t1 k1 vs h0 n0 v U'.heap L ∧ FrameEnd U o U' L ({ frames := 0, cells := 0, slots := 0, locals := 0 } : Room).cells ({ frames := 0, cells := 0, slots := 0, locals := 0 } : Room).slots) (s₁.setTop (entryFrame m #[(.ref o1)] 1))
  refine own_st (V := s₁.setTop (mkF m 0 #[.val (.ref o1)] [])) (fun t k => castTop (by first | (simp [entryFrame, mkF, argsToLocals, Value.category]; done) | rfl) k) ?_
  refine own_st (V := s₁.setTop (mkF m 1 #[.val (.ref o1)] [(.ref o1)])) (fun t k => XS.aloadN X0.here hx rfl (hb hby own_d8_0) rfl rfl k) ?_
  obtain ⟨T59, X59, e59, st59⟩ := getF X0 hx hZ hown (host := "") (Or.inl (hw _ (List.mem_of_getElem? (i := 24) rfl))) Via.refl e0 F1 (g := (mkF m 1 #[.val (.ref o1)] [(.ref o1)])) rfl rfl (hb hby own_d8_1)
  refine own_st (V := T59.setTop (mkF m 4 #[.val (.ref o1)] [(.ref t1)])) (fun t k => st59 _ k) ?_
  have Vk60 := V1
  obtain ⟨cl60, Ar60, qk60, sz60, nn60, hs60, fs60⟩ := Vk60
  refine own_st (V := T59.setTop (mkF m 5 #[.val (.ref o1)] [(.int (0 : Int32))])) (fun t k => X59.arraylength hx (by rw [e59]; exact Ar60.1) (State.isArrayOf_alike hZ.alike Ar60.2.1) (g := (mkF m 4 #[.val (.ref o1)] [(.ref t1)])) rfl rfl (hb hby own_d8_4) _ (by rw [len_of sz60 nn60]; exact k)) ?_
  refine own_st (V := T59.setTop (mkF m 8 #[.val (.ref o1)] [])) (fun t k => XS.ifNo X59.here hx rfl (hb hby own_d8_5) rfl ((if0 _ _).trans (teq (by decide : (0 : Int32) = (0 : Int32))).2) k) ?_
  refine own_st (V := T59.setTop (mkF m 9 #[.val (.ref o1)] [(.int (1 : Int32))])) (fun t k => XS.iconst X59.here hx rfl (hb hby own_d8_8) k) ?_
  refine own_st (V := T59.setTop (mkF m 13 #[.val (.ref o1)] [(.int (1 : Int32))])) (fun t k => XS.goto X59.here hx rfl (pc0 := 9) (pc' := 13) rfl (hb hby own_d8_9) (by decide) (by decide) k) ?_
  exact own_ret X59 hx hlk Bd.returns (by decide +kernel) (Or.inl ⟨rfl, by simp, _, rfl⟩) (hb hby own_d8_13) (by decide) (by decide) (by show Q_own_ie0 Z o1 t1 k1 vs h0 n0 _ T59.heap _; rw [e59]; exact ⟨rfl, N0, rfl⟩)
def Q_own_ie1 (Z : State) (o1 t1 : Addr) (k1 : ClassId) (vs : List Value) (h0 : Heap) (n0 : Nat) (v : Option Value) (h : Heap) (L : List Loc) : Prop := v = some (.int (0 : Int32)) ∧ Fr n0 L ∧ h = h0
theorem own_d8_12 : decode jdk_42_method_55_code 12 = .ok (.iconst 0, 1) := by decide +kernel
set_option maxRecDepth 65536 in
set_option maxHeartbeats 40000000 in
theorem own_ie1 (l : Launch) (Z : State) (a0 : Array Value) (hw : ∀ d ∈ tables_1, d.before a0 Z = true) (ws : List Jvm.Cond) (o1 t1 : Addr) (k1 : ClassId) (vs : List Value) (h0 : Heap) (n0 : Nat) (Z0 : n0 ≤ h0.size) (F1 : Fld Z h0 o1 "java/lang/String" "value" "[B" (.ref t1)) (V1 : Arv Z h0 t1 k1 .byte (1 : Int32) vs (.int (0 : Int32))) :
    MetFree l (⟨"java/lang/String", "isEmpty", "()Z"⟩ : MethodName) (head1 (Jvm.Cond.code (⟨"java/lang/String", "isEmpty", "()Z"⟩ : MethodName) jdk_42_method_55_code 1 (some .boolean) :: ws) ({ frames := 0, cells := 0, slots := 0, locals := 0 } : Room)) (fun a U => a = #[(.ref o1)] ∧ Z.Warmed39 U.vm ∧ U.heap = h0) (fun _ _ _ _ _ => True) (fun _ U o U' => ∃ v L, o = .returned v ∧ Q_own_ie1 Z o1 t1 k1 vs h0 n0 v U'.heap L ∧ FrameEnd U o U' L ({ frames := 0, cells := 0, slots := 0, locals := 0 } : Room).cells ({ frames := 0, cells := 0, slots := 0, locals := 0 } : Room).slots) := by
  refine MetFree.of_bodySF (plainFor_of_name own_pn_java_lang_String) hisR ?_
  intro p e s m args below meth c s₁ Bd hml0 hP hK
  obtain ⟨rfl, hZ, hh⟩ := hP
  have hx := Bd.exec
  have hby := Bd.bytes
  have hml : c.maxLocals = 1 := hml0
  have hown : s.vm.findClass "java/lang/String" = some m.cls := findClass_of_methodNamed Bd.named
  have hnm := (name_of_methodNamed Bd.named Bd.method).1
  have hlk : meth.locks = false := BodyLoose.notSynchronized Bd
  have X0 : Stand p l e ({ frames := 0, cells := 0, slots := 0, locals := 0 } : Room) s m #[(.ref o1)] below meth c s₁ [] 0 0 := Stand.of_body Bd
  have e0 : s₁.heap = h0 := by rw [← hh, Bd.state]; rfl
  have N0 := Fr.nil n0
  show own_Go p e below #[(.ref o1)] s (fun _ U o U' => ∃ v L, o = .returned v ∧ Q_own_ie1 Z o1 t1 k1 vs h0 n0 v U'.heap L ∧ FrameEnd U o U' L ({ frames := 0, cells := 0, slots := 0, locals := 0 } : Room).cells ({ frames := 0, cells := 0, slots := 0, locals := 0 } : Room).slots) (s₁.setTop (entryFrame m #[(.ref o1)] 1))
  refine own_st (V := s₁.setTop (mkF m 0 #[.val (.ref o1)] [])) (fun t k => castTop (by first | (simp [entryFrame, mkF, argsToLocals, Value.category]; done) | rfl) k) ?_
  refine own_st (V := s₁.setTop (mkF m 1 #[.val (.ref o1)] [(.ref o1)])) (fun t k => XS.aloadN X0.here hx rfl (hb hby own_d8_0) rfl rfl k) ?_
  obtain ⟨T61, X61, e61, st61⟩ := getF X0 hx hZ hown (host := "") (Or.inl (hw _ (List.mem_of_getElem? (i := 24) rfl))) Via.refl e0 F1 (g := (mkF m 1 #[.val (.ref o1)] [(.ref o1)])) rfl rfl (hb hby own_d8_1)
  refine own_st (V := T61.setTop (mkF m 4 #[.val (.ref o1)] [(.ref t1)])) (fun t k => st61 _ k) ?_
  have Vk62 := V1
  obtain ⟨cl62, Ar62, qk62, sz62, nn62, hs62, fs62⟩ := Vk62
  refine own_st (V := T61.setTop (mkF m 5 #[.val (.ref o1)] [(.int (1 : Int32))])) (fun t k => X61.arraylength hx (by rw [e61]; exact Ar62.1) (State.isArrayOf_alike hZ.alike Ar62.2.1) (g := (mkF m 4 #[.val (.ref o1)] [(.ref t1)])) rfl rfl (hb hby own_d8_4) _ (by rw [len_of sz62 nn62]; exact k)) ?_
  refine own_st (V := T61.setTop (mkF m 12 #[.val (.ref o1)] [])) (fun t k => XS.ifYes X61.here hx rfl (pc0 := 5) (pc' := 12) rfl (hb hby own_d8_5) rfl ((if0 _ _).trans (feq (by decide : ¬ ((1 : Int32) = (0 : Int32)))).2) (by decide) (by decide) k) ?_
  refine own_st (V := T61.setTop (mkF m 13 #[.val (.ref o1)] [(.int (0 : Int32))])) (fun t k => XS.iconst X61.here hx rfl (hb hby own_d8_12) k) ?_
  exact own_ret X61 hx hlk Bd.returns (by decide +kernel) (Or.inl ⟨rfl, by simp, _, rfl⟩) (hb hby own_d8_13) (by decide) (by decide) (by show Q_own_ie1 Z o1 t1 k1 vs h0 n0 _ T61.heap _; rw [e61]; exact ⟨rfl, N0, rfl⟩)
def Q_own_ie2 (Z : State) (o1 t1 : Addr) (k1 : ClassId) (vs : List Value) (h0 : Heap) (n0 : Nat) (v : Option Value) (h : Heap) (L : List Loc) : Prop := v = some (.int (0 : Int32)) ∧ Fr n0 L ∧ h = h0
set_option maxRecDepth 65536 in
set_option maxHeartbeats 40000000 in
theorem own_ie2 (l : Launch) (Z : State) (a0 : Array Value) (hw : ∀ d ∈ tables_1, d.before a0 Z = true) (ws : List Jvm.Cond) (o1 t1 : Addr) (k1 : ClassId) (vs : List Value) (h0 : Heap) (n0 : Nat) (Z0 : n0 ≤ h0.size) (F1 : Fld Z h0 o1 "java/lang/String" "value" "[B" (.ref t1)) (V1 : Arv Z h0 t1 k1 .byte (2 : Int32) vs (.int (0 : Int32))) :
    MetFree l (⟨"java/lang/String", "isEmpty", "()Z"⟩ : MethodName) (head1 (Jvm.Cond.code (⟨"java/lang/String", "isEmpty", "()Z"⟩ : MethodName) jdk_42_method_55_code 1 (some .boolean) :: ws) ({ frames := 0, cells := 0, slots := 0, locals := 0 } : Room)) (fun a U => a = #[(.ref o1)] ∧ Z.Warmed39 U.vm ∧ U.heap = h0) (fun _ _ _ _ _ => True) (fun _ U o U' => ∃ v L, o = .returned v ∧ Q_own_ie2 Z o1 t1 k1 vs h0 n0 v U'.heap L ∧ FrameEnd U o U' L ({ frames := 0, cells := 0, slots := 0, locals := 0 } : Room).cells ({ frames := 0, cells := 0, slots := 0, locals := 0 } : Room).slots) := by
  refine MetFree.of_bodySF (plainFor_of_name own_pn_java_lang_String) hisR ?_
  intro p e s m args below meth c s₁ Bd hml0 hP hK
  obtain ⟨rfl, hZ, hh⟩ := hP
  have hx := Bd.exec
  have hby := Bd.bytes
  have hml : c.maxLocals = 1 := hml0
  have hown : s.vm.findClass "java/lang/String" = some m.cls := findClass_of_methodNamed Bd.named
  have hnm := (name_of_methodNamed Bd.named Bd.method).1
  have hlk : meth.locks = false := BodyLoose.notSynchronized Bd
  have X0 : Stand p l e ({ frames := 0, cells := 0, slots := 0, locals := 0 } : Room) s m #[(.ref o1)] below meth c s₁ [] 0 0 := Stand.of_body Bd
  have e0 : s₁.heap = h0 := by rw [← hh, Bd.state]; rfl
  have N0 := Fr.nil n0
  show own_Go p e below #[(.ref o1)] s (fun _ U o U' => ∃ v L, o = .returned v ∧ Q_own_ie2 Z o1 t1 k1 vs h0 n0 v U'.heap L ∧ FrameEnd U o U' L ({ frames := 0, cells := 0, slots := 0, locals := 0 } : Room).cells ({ frames := 0, cells := 0, slots := 0, locals := 0 } : Room).slots) (s₁.setTop (entryFrame m #[(.ref o1)] 1))
  refine own_st (V := s₁.setTop (mkF m 0 #[.val (.ref o1)] [])) (fun t k => castTop (by first | (simp [entryFrame, mkF, argsToLocals, Value.category]; done) | rfl) k) ?_
  refine own_st (V := s₁.setTop (mkF m 1 #[.val (.ref o1)] [(.ref o1)])) (fun t k => XS.aloadN X0.here hx rfl (hb hby own_d8_0) rfl rfl k) ?_
  obtain ⟨T63, X63, e63, st63⟩ := getF X0 hx hZ hown (host := "") (Or.inl (hw _ (List.mem_of_getElem? (i := 24) rfl))) Via.refl e0 F1 (g := (mkF m 1 #[.val (.ref o1)] [(.ref o1)])) rfl rfl (hb hby own_d8_1)
  refine own_st (V := T63.setTop (mkF m 4 #[.val (.ref o1)] [(.ref t1)])) (fun t k => st63 _ k) ?_
  have Vk64 := V1
  obtain ⟨cl64, Ar64, qk64, sz64, nn64, hs64, fs64⟩ := Vk64
  refine own_st (V := T63.setTop (mkF m 5 #[.val (.ref o1)] [(.int (2 : Int32))])) (fun t k => X63.arraylength hx (by rw [e63]; exact Ar64.1) (State.isArrayOf_alike hZ.alike Ar64.2.1) (g := (mkF m 4 #[.val (.ref o1)] [(.ref t1)])) rfl rfl (hb hby own_d8_4) _ (by rw [len_of sz64 nn64]; exact k)) ?_
  refine own_st (V := T63.setTop (mkF m 12 #[.val (.ref o1)] [])) (fun t k => XS.ifYes X63.here hx rfl (pc0 := 5) (pc' := 12) rfl (hb hby own_d8_5) rfl ((if0 _ _).trans (feq (by decide : ¬ ((2 : Int32) = (0 : Int32)))).2) (by decide) (by decide) k) ?_
  refine own_st (V := T63.setTop (mkF m 13 #[.val (.ref o1)] [(.int (0 : Int32))])) (fun t k => XS.iconst X63.here hx rfl (hb hby own_d8_12) k) ?_
  exact own_ret X63 hx hlk Bd.returns (by decide +kernel) (Or.inl ⟨rfl, by simp, _, rfl⟩) (hb hby own_d8_13) (by decide) (by decide) (by show Q_own_ie2 Z o1 t1 k1 vs h0 n0 _ T63.heap _; rw [e63]; exact ⟨rfl, N0, rfl⟩)
def Q_own_ig00 (Z : State) (o1 s1 s2 t1 t2 : Addr) (k1 k2 : ClassId) (vs1 vs2 : List Value) (h0 : Heap) (n0 : Nat) (v : Option Value) (h : Heap) (L : List Loc) : Prop := v = some (.int (0 : Int32)) ∧ Fr n0 L ∧ h = h0
theorem own_d7_0 : decode prog_18_method_2_code 0 = .ok (.aload_n 0, 1) := by decide +kernel
theorem own_d7_1 : decode prog_18_method_2_code 1 = .ok (.getfield 7, 3) := by decide +kernel
theorem own_d7_4 : decode prog_18_method_2_code 4 = .ok (.invokevirtual 16, 3) := by decide +kernel
theorem own_pd6 : parseMethodDescriptor "()Z" = some ⟨[], some .boolean⟩ := by decide +kernel
theorem own_d7_7 : decode prog_18_method_2_code 7 = .ok (.ifCond .eq 13, 3) := by decide +kernel
theorem own_d7_10 : decode prog_18_method_2_code 10 = .ok (.aload_n 0, 1) := by decide +kernel
theorem own_d7_11 : decode prog_18_method_2_code 11 = .ok (.getfield 13, 3) := by decide +kernel
theorem own_d7_14 : decode prog_18_method_2_code 14 = .ok (.invokevirtual 16, 3) := by decide +kernel
theorem own_d7_17 : decode prog_18_method_2_code 17 = .ok (.ifCond .ne 7, 3) := by decide +kernel
theorem own_d7_24 : decode prog_18_method_2_code 24 = .ok (.iconst 0, 1) := by decide +kernel
theorem own_d7_25 : decode prog_18_method_2_code 25 = .ok (.ireturn, 1) := by decide +kernel
set_option maxRecDepth 65536 in
set_option maxHeartbeats 40000000 in
theorem own_ig00 (l : Launch) (Z : State) (a0 : Array Value) (hw : ∀ d ∈ tables_1, d.before a0 Z = true) (ws : List Jvm.Cond) (o1 s1 s2 t1 t2 : Addr) (k1 k2 : ClassId) (vs1 vs2 : List Value) (h0 : Heap) (n0 : Nat) (Z0 : n0 ≤ h0.size) (FD : Fld Z h0 o1 "com/example/tempora/tempora/core/Issue" "designation" "Ljava/lang/String;" (.ref s1)) (FA : Fld Z h0 o1 "com/example/tempora/tempora/core/Issue" "date" "Ljava/lang/String;" (.ref s2)) (E1 : Exa Z h0 s1 "java/lang/String") (E2 : Exa Z h0 s2 "java/lang/String") (F1 : Fld Z h0 s1 "java/lang/String" "value" "[B" (.ref t1)) (F2 : Fld Z h0 s2 "java/lang/String" "value" "[B" (.ref t2)) (V1 : Arv Z h0 t1 k1 .byte (0 : Int32) vs1 (.int (0 : Int32))) (V2 : Arv Z h0 t2 k2 .byte (0 : Int32) vs2 (.int (0 : Int32))) :
    MetFree l (⟨"com/example/tempora/tempora/core/Issue", "isGiven", "()Z"⟩ : MethodName) (head1 (Jvm.Cond.code (⟨"com/example/tempora/tempora/core/Issue", "isGiven", "()Z"⟩ : MethodName) prog_18_method_2_code 1 (some .boolean) :: ws) ({ frames := 1, cells := 0, slots := 0, locals := 12 } : Room)) (fun a U => a = #[(.ref o1)] ∧ Z.Warmed39 U.vm ∧ U.heap = h0) (fun _ _ _ _ _ => True) (fun _ U o U' => ∃ v L, o = .returned v ∧ Q_own_ig00 Z o1 s1 s2 t1 t2 k1 k2 vs1 vs2 h0 n0 v U'.heap L ∧ FrameEnd U o U' L ({ frames := 1, cells := 0, slots := 0, locals := 12 } : Room).cells ({ frames := 1, cells := 0, slots := 0, locals := 12 } : Room).slots) := by
  refine MetFree.of_bodySF (plainFor_of_name own_pn_com_example_tempora_tempora_core_Issue) hisR ?_
  intro p e s m args below meth c s₁ Bd hml0 hP hK
  obtain ⟨rfl, hZ, hh⟩ := hP
  have hx := Bd.exec
  have hby := Bd.bytes
  have hml : c.maxLocals = 1 := hml0
  have hown : s.vm.findClass "com/example/tempora/tempora/core/Issue" = some m.cls := findClass_of_methodNamed Bd.named
  have hnm := (name_of_methodNamed Bd.named Bd.method).1
  have hlk : meth.locks = false := BodyLoose.notSynchronized Bd
  have X0 : Stand p l e ({ frames := 1, cells := 0, slots := 0, locals := 12 } : Room) s m #[(.ref o1)] below meth c s₁ [] 0 0 := Stand.of_body Bd
  have e0 : s₁.heap = h0 := by rw [← hh, Bd.state]; rfl
  have N0 := Fr.nil n0
  show own_Go p e below #[(.ref o1)] s (fun _ U o U' => ∃ v L, o = .returned v ∧ Q_own_ig00 Z o1 s1 s2 t1 t2 k1 k2 vs1 vs2 h0 n0 v U'.heap L ∧ FrameEnd U o U' L ({ frames := 1, cells := 0, slots := 0, locals := 12 } : Room).cells ({ frames := 1, cells := 0, slots := 0, locals := 12 } : Room).slots) (s₁.setTop (entryFrame m #[(.ref o1)] 1))
  refine own_st (V := s₁.setTop (mkF m 0 #[.val (.ref o1)] [])) (fun t k => castTop (by first | (simp [entryFrame, mkF, argsToLocals, Value.category]; done) | rfl) k) ?_
  refine own_st (V := s₁.setTop (mkF m 1 #[.val (.ref o1)] [(.ref o1)])) (fun t k => XS.aloadN X0.here hx rfl (hb hby own_d7_0) rfl rfl k) ?_
  obtain ⟨T65, X65, e65, st65⟩ := getF X0 hx hZ hown (host := "") (Or.inl (hw _ (List.mem_of_getElem? (i := 38) rfl))) Via.refl e0 FD (g := (mkF m 1 #[.val (.ref o1)] [(.ref o1)])) rfl rfl (hb hby own_d7_1)
  refine own_st (V := T65.setTop (mkF m 4 #[.val (.ref o1)] [(.ref s1)])) (fun t k => st65 _ k) ?_
  obtain ⟨cq66, kq66, q66a, q66b, q66c⟩ := isOf hZ e65 E1
  obtain ⟨_, _, ⟨T66, L66, k66, n66⟩, -, X66, ⟨Lc66, hQ66, l66, y66, z66⟩, st66⟩ := X65.virtualBack hx (y := (⟨"java/lang/String", "isEmpty", "()Z"⟩ : MethodName)) (z := (⟨"java/lang/String", "isEmpty", "()Z"⟩ : MethodName)) hown (mvT hZ (hw _ (List.mem_of_getElem? (i := 47) rfl))) (mvT hZ (hw _ (List.mem_of_getElem? (i := 48) rfl))) (notFace_of_selects (args := #[]) (mvT hZ (hw _ (List.mem_of_getElem? (i := 50) rfl)))) (mvT hZ (hw _ (List.mem_of_getElem? (i := 50) rfl))) (mvT hZ (hw _ (List.mem_of_getElem? (i := 49) rfl))) (by decide) (backOf (W := 0) (own_ie0 l Z a0 hw [] s1 t1 k1 vs1 h0 n0 Z0 F1 V1) hZ (hw _ (List.mem_of_getElem? (i := 51) rfl)) (hw _ (List.mem_of_getElem? (i := 6) rfl)) (by decide) (by decide)) q66a q66c (g := (mkF m 4 #[.val (.ref o1)] [(.ref s1)])) rfl (by rw [hml]; rfl) (Steps.refl _) (argsL := []) (rest := []) (lenOf own_pd6 rfl) rfl (by show 2 * 0 + _ ≤ _; exact Nat.le_of_eq rfl) (hb hby own_d7_4) (fun _ _ => ⟨rfl, e65, (by decide : 0 + 0 ≤ _), (by decide : 0 + 0 ≤ _)⟩)
  dsimp only [Pt.U, Pt.locs, Pt.cells, Pt.slots] at X66 l66 y66 z66 st66 hQ66
  subst l66 y66 z66
  obtain ⟨rfl, N66q, e66⟩ := hQ66
  have N66 := Fr.app N0 N66q
  refine own_st (V := T66.setTop (mkF m 7 #[.val (.ref o1)] [(.int (1 : Int32))])) (fun t k => st66.trans k) ?_
  refine own_st (V := T66.setTop (mkF m 10 #[.val (.ref o1)] [])) (fun t k => XS.ifNo X66.here hx rfl (hb hby own_d7_7) rfl ((if0 _ _).trans (feq (by decide : ¬ ((1 : Int32) = (0 : Int32)))).1) k) ?_
  refine own_st (V := T66.setTop (mkF m 11 #[.val (.ref o1)] [(.ref o1)])) (fun t k => XS.aloadN X66.here hx rfl (hb hby own_d7_10) rfl rfl k) ?_
  obtain ⟨T67, X67, e67, st67⟩ := getF X66 hx hZ hown (host := "") (Or.inl (hw _ (List.mem_of_getElem? (i := 40) rfl))) Via.refl e66 FA (g := (mkF m 11 #[.val (.ref o1)] [(.ref o1)])) rfl rfl (hb hby own_d7_11)
  refine own_st (V := T67.setTop (mkF m 14 #[.val (.ref o1)] [(.ref s2)])) (fun t k => st67 _ k) ?_
  obtain ⟨cq68, kq68, q68a, q68b, q68c⟩ := isOf hZ e67 E2
  obtain ⟨_, _, ⟨T68, L68, k68, n68⟩, -, X68, ⟨Lc68, hQ68, l68, y68, z68⟩, st68⟩ := X67.virtualBack hx (y := (⟨"java/lang/String", "isEmpty", "()Z"⟩ : MethodName)) (z := (⟨"java/lang/String", "isEmpty", "()Z"⟩ : MethodName)) hown (mvT hZ (hw _ (List.mem_of_getElem? (i := 47) rfl))) (mvT hZ (hw _ (List.mem_of_getElem? (i := 48) rfl))) (notFace_of_selects (args := #[]) (mvT hZ (hw _ (List.mem_of_getElem? (i := 50) rfl)))) (mvT hZ (hw _ (List.mem_of_getElem? (i := 50) rfl))) (mvT hZ (hw _ (List.mem_of_getElem? (i := 49) rfl))) (by decide) (backOf (W := 0) (own_ie0 l Z a0 hw [] s2 t2 k2 vs2 h0 n0 Z0 F2 V2) hZ (hw _ (List.mem_of_getElem? (i := 51) rfl)) (hw _ (List.mem_of_getElem? (i := 6) rfl)) (by decide) (by decide)) q68a q68c (g := (mkF m 14 #[.val (.ref o1)] [(.ref s2)])) rfl (by rw [hml]; rfl) (Steps.refl _) (argsL := []) (rest := []) (lenOf own_pd6 rfl) rfl (by show 2 * 0 + _ ≤ _; exact Nat.le_of_eq rfl) (hb hby own_d7_14) (fun _ _ => ⟨rfl, e67, (by decide : 0 + 0 ≤ _), (by decide : 0 + 0 ≤ _)⟩)
  dsimp only [Pt.U, Pt.locs, Pt.cells, Pt.slots] at X68 l68 y68 z68 st68 hQ68
  subst l68 y68 z68
  obtain ⟨rfl, N68q, e68⟩ := hQ68
  have N68 := Fr.app N66 N68q
  refine own_st (V := T68.setTop (mkF m 17 #[.val (.ref o1)] [(.int (1 : Int32))])) (fun t k => st68.trans k) ?_
  refine own_st (V := T68.setTop (mkF m 24 #[.val (.ref o1)] [])) (fun t k => XS.ifYes X68.here hx rfl (pc0 := 17) (pc' := 24) rfl (hb hby own_d7_17) rfl ((if0 _ _).trans (feq (by decide : ¬ ((1 : Int32) = (0 : Int32)))).2) (by decide) (by decide) k) ?_
  refine own_st (V := T68.setTop (mkF m 25 #[.val (.ref o1)] [(.int (0 : Int32))])) (fun t k => XS.iconst X68.here hx rfl (hb hby own_d7_24) k) ?_
  exact own_ret X68 hx hlk Bd.returns (by decide +kernel) (Or.inl ⟨rfl, by simp, _, rfl⟩) (hb hby own_d7_25) (by decide) (by decide) (by show Q_own_ig00 Z o1 s1 s2 t1 t2 k1 k2 vs1 vs2 h0 n0 _ T68.heap _; rw [e68]; exact ⟨rfl, N68, rfl⟩)
def Q_own_ig01 (Z : State) (o1 s1 s2 t1 t2 : Addr) (k1 k2 : ClassId) (vs1 vs2 : List Value) (h0 : Heap) (n0 : Nat) (v : Option Value) (h : Heap) (L : List Loc) : Prop := v = some (.int (1 : Int32)) ∧ Fr n0 L ∧ h = h0
theorem own_d7_20 : decode prog_18_method_2_code 20 = .ok (.iconst 1, 1) := by decide +kernel
theorem own_d7_21 : decode prog_18_method_2_code 21 = .ok (.goto 4, 3) := by decide +kernel
set_option maxRecDepth 65536 in
set_option maxHeartbeats 40000000 in
theorem own_ig01 (l : Launch) (Z : State) (a0 : Array Value) (hw : ∀ d ∈ tables_1, d.before a0 Z = true) (ws : List Jvm.Cond) (o1 s1 s2 t1 t2 : Addr) (k1 k2 : ClassId) (vs1 vs2 : List Value) (h0 : Heap) (n0 : Nat) (Z0 : n0 ≤ h0.size) (FD : Fld Z h0 o1 "com/example/tempora/tempora/core/Issue" "designation" "Ljava/lang/String;" (.ref s1)) (FA : Fld Z h0 o1 "com/example/tempora/tempora/core/Issue" "date" "Ljava/lang/String;" (.ref s2)) (E1 : Exa Z h0 s1 "java/lang/String") (E2 : Exa Z h0 s2 "java/lang/String") (F1 : Fld Z h0 s1 "java/lang/String" "value" "[B" (.ref t1)) (F2 : Fld Z h0 s2 "java/lang/String" "value" "[B" (.ref t2)) (V1 : Arv Z h0 t1 k1 .byte (0 : Int32) vs1 (.int (0 : Int32))) (V2 : Arv Z h0 t2 k2 .byte (1 : Int32) vs2 (.int (0 : Int32))) :
    MetFree l (⟨"com/example/tempora/tempora/core/Issue", "isGiven", "()Z"⟩ : MethodName) (head1 (Jvm.Cond.code (⟨"com/example/tempora/tempora/core/Issue", "isGiven", "()Z"⟩ : MethodName) prog_18_method_2_code 1 (some .boolean) :: ws) ({ frames := 1, cells := 0, slots := 0, locals := 12 } : Room)) (fun a U => a = #[(.ref o1)] ∧ Z.Warmed39 U.vm ∧ U.heap = h0) (fun _ _ _ _ _ => True) (fun _ U o U' => ∃ v L, o = .returned v ∧ Q_own_ig01 Z o1 s1 s2 t1 t2 k1 k2 vs1 vs2 h0 n0 v U'.heap L ∧ FrameEnd U o U' L ({ frames := 1, cells := 0, slots := 0, locals := 12 } : Room).cells ({ frames := 1, cells := 0, slots := 0, locals := 12 } : Room).slots) := by
  refine MetFree.of_bodySF (plainFor_of_name own_pn_com_example_tempora_tempora_core_Issue) hisR ?_
  intro p e s m args below meth c s₁ Bd hml0 hP hK
  obtain ⟨rfl, hZ, hh⟩ := hP
  have hx := Bd.exec
  have hby := Bd.bytes
  have hml : c.maxLocals = 1 := hml0
  have hown : s.vm.findClass "com/example/tempora/tempora/core/Issue" = some m.cls := findClass_of_methodNamed Bd.named
  have hnm := (name_of_methodNamed Bd.named Bd.method).1
  have hlk : meth.locks = false := BodyLoose.notSynchronized Bd
  have X0 : Stand p l e ({ frames := 1, cells := 0, slots := 0, locals := 12 } : Room) s m #[(.ref o1)] below meth c s₁ [] 0 0 := Stand.of_body Bd
  have e0 : s₁.heap = h0 := by rw [← hh, Bd.state]; rfl
  have N0 := Fr.nil n0
  show own_Go p e below #[(.ref o1)] s (fun _ U o U' => ∃ v L, o = .returned v ∧ Q_own_ig01 Z o1 s1 s2 t1 t2 k1 k2 vs1 vs2 h0 n0 v U'.heap L ∧ FrameEnd U o U' L ({ frames := 1, cells := 0, slots := 0, locals := 12 } : Room).cells ({ frames := 1, cells := 0, slots := 0, locals := 12 } : Room).slots) (s₁.setTop (entryFrame m #[(.ref o1)] 1))
  refine own_st (V := s₁.setTop (mkF m 0 #[.val (.ref o1)] [])) (fun t k => castTop (by first | (simp [entryFrame, mkF, argsToLocals, Value.category]; done) | rfl) k) ?_
  refine own_st (V := s₁.setTop (mkF m 1 #[.val (.ref o1)] [(.ref o1)])) (fun t k => XS.aloadN X0.here hx rfl (hb hby own_d7_0) rfl rfl k) ?_
  obtain ⟨T69, X69, e69, st69⟩ := getF X0 hx hZ hown (host := "") (Or.inl (hw _ (List.mem_of_getElem? (i := 38) rfl))) Via.refl e0 FD (g := (mkF m 1 #[.val (.ref o1)] [(.ref o1)])) rfl rfl (hb hby own_d7_1)
  refine own_st (V := T69.setTop (mkF m 4 #[.val (.ref o1)] [(.ref s1)])) (fun t k => st69 _ k) ?_
  obtain ⟨cq70, kq70, q70a, q70b, q70c⟩ := isOf hZ e69 E1
  obtain ⟨_, _, ⟨T70, L70, k70, n70⟩, -, X70, ⟨Lc70, hQ70, l70, y70, z70⟩, st70⟩ := X69.virtualBack hx (y := (⟨"java/lang/String", "isEmpty", "()Z"⟩ : MethodName)) (z := (⟨"java/lang/String", "isEmpty", "()Z"⟩ : MethodName)) hown (mvT hZ (hw _ (List.mem_of_getElem? (i := 47) rfl))) (mvT hZ (hw _ (List.mem_of_getElem? (i := 48) rfl))) (notFace_of_selects (args := #[]) (mvT hZ (hw _ (List.mem_of_getElem? (i := 50) rfl)))) (mvT hZ (hw _ (List.mem_of_getElem? (i := 50) rfl))) (mvT hZ (hw _ (List.mem_of_getElem? (i := 49) rfl))) (by decide) (backOf (W := 0) (own_ie0 l Z a0 hw [] s1 t1 k1 vs1 h0 n0 Z0 F1 V1) hZ (hw _ (List.mem_of_getElem? (i := 51) rfl)) (hw _ (List.mem_of_getElem? (i := 6) rfl)) (by decide) (by decide)) q70a q70c (g := (mkF m 4 #[.val (.ref o1)] [(.ref s1)])) rfl (by rw [hml]; rfl) (Steps.refl _) (argsL := []) (rest := []) (lenOf own_pd6 rfl) rfl (by show 2 * 0 + _ ≤ _; exact Nat.le_of_eq rfl) (hb hby own_d7_4) (fun _ _ => ⟨rfl, e69, (by decide : 0 + 0 ≤ _), (by decide : 0 + 0 ≤ _)⟩)
  dsimp only [Pt.U, Pt.locs, Pt.cells, Pt.slots] at X70 l70 y70 z70 st70 hQ70
  subst l70 y70 z70
  obtain ⟨rfl, N70q, e70⟩ := hQ70
  have N70 := Fr.app N0 N70q
  refine own_st (V := T70.setTop (mkF m 7 #[.val (.ref o1)] [(.int (1 : Int32))])) (fun t k => st70.trans k) ?_
  refine own_st (V := T70.setTop (mkF m 10 #[.val (.ref o1)] [])) (fun t k => XS.ifNo X70.here hx rfl (hb hby own_d7_7) rfl ((if0 _ _).trans (feq (by decide : ¬ ((1 : Int32) = (0 : Int32)))).1) k) ?_
  refine own_st (V := T70.setTop (mkF m 11 #[.val (.ref o1)] [(.ref o1)])) (fun t k => XS.aloadN X70.here hx rfl (hb hby own_d7_10) rfl rfl k) ?_
  obtain ⟨T71, X71, e71, st71⟩ := getF X70 hx hZ hown (host := "") (Or.inl (hw _ (List.mem_of_getElem? (i := 40) rfl))) Via.refl e70 FA (g := (mkF m 11 #[.val (.ref o1)] [(.ref o1)])) rfl rfl (hb hby own_d7_11)
  refine own_st (V := T71.setTop (mkF m 14 #[.val (.ref o1)] [(.ref s2)])) (fun t k => st71 _ k) ?_
  obtain ⟨cq72, kq72, q72a, q72b, q72c⟩ := isOf hZ e71 E2
  obtain ⟨_, _, ⟨T72, L72, k72, n72⟩, -, X72, ⟨Lc72, hQ72, l72, y72, z72⟩, st72⟩ := X71.virtualBack hx (y := (⟨"java/lang/String", "isEmpty", "()Z"⟩ : MethodName)) (z := (⟨"java/lang/String", "isEmpty", "()Z"⟩ : MethodName)) hown (mvT hZ (hw _ (List.mem_of_getElem? (i := 47) rfl))) (mvT hZ (hw _ (List.mem_of_getElem? (i := 48) rfl))) (notFace_of_selects (args := #[]) (mvT hZ (hw _ (List.mem_of_getElem? (i := 50) rfl)))) (mvT hZ (hw _ (List.mem_of_getElem? (i := 50) rfl))) (mvT hZ (hw _ (List.mem_of_getElem? (i := 49) rfl))) (by decide) (backOf (W := 0) (own_ie1 l Z a0 hw [] s2 t2 k2 vs2 h0 n0 Z0 F2 V2) hZ (hw _ (List.mem_of_getElem? (i := 51) rfl)) (hw _ (List.mem_of_getElem? (i := 6) rfl)) (by decide) (by decide)) q72a q72c (g := (mkF m 14 #[.val (.ref o1)] [(.ref s2)])) rfl (by rw [hml]; rfl) (Steps.refl _) (argsL := []) (rest := []) (lenOf own_pd6 rfl) rfl (by show 2 * 0 + _ ≤ _; exact Nat.le_of_eq rfl) (hb hby own_d7_14) (fun _ _ => ⟨rfl, e71, (by decide : 0 + 0 ≤ _), (by decide : 0 + 0 ≤ _)⟩)
  dsimp only [Pt.U, Pt.locs, Pt.cells, Pt.slots] at X72 l72 y72 z72 st72 hQ72
  subst l72 y72 z72
  obtain ⟨rfl, N72q, e72⟩ := hQ72
  have N72 := Fr.app N70 N72q
  refine own_st (V := T72.setTop (mkF m 17 #[.val (.ref o1)] [(.int (0 : Int32))])) (fun t k => st72.trans k) ?_
  refine own_st (V := T72.setTop (mkF m 20 #[.val (.ref o1)] [])) (fun t k => XS.ifNo X72.here hx rfl (hb hby own_d7_17) rfl ((if0 _ _).trans (teq (by decide : (0 : Int32) = (0 : Int32))).2) k) ?_
  refine own_st (V := T72.setTop (mkF m 21 #[.val (.ref o1)] [(.int (1 : Int32))])) (fun t k => XS.iconst X72.here hx rfl (hb hby own_d7_20) k) ?_
  refine own_st (V := T72.setTop (mkF m 25 #[.val (.ref o1)] [(.int (1 : Int32))])) (fun t k => XS.goto X72.here hx rfl (pc0 := 21) (pc' := 25) rfl (hb hby own_d7_21) (by decide) (by decide) k) ?_
  exact own_ret X72 hx hlk Bd.returns (by decide +kernel) (Or.inl ⟨rfl, by simp, _, rfl⟩) (hb hby own_d7_25) (by decide) (by decide) (by show Q_own_ig01 Z o1 s1 s2 t1 t2 k1 k2 vs1 vs2 h0 n0 _ T72.heap _; rw [e72]; exact ⟨rfl, N72, rfl⟩)
def Q_own_ig02 (Z : State) (o1 s1 s2 t1 t2 : Addr) (k1 k2 : ClassId) (vs1 vs2 : List Value) (h0 : Heap) (n0 : Nat) (v : Option Value) (h : Heap) (L : List Loc) : Prop := v = some (.int (1 : Int32)) ∧ Fr n0 L ∧ h = h0
set_option maxRecDepth 65536 in
set_option maxHeartbeats 40000000 in
theorem own_ig02 (l : Launch) (Z : State) (a0 : Array Value) (hw : ∀ d ∈ tables_1, d.before a0 Z = true) (ws : List Jvm.Cond) (o1 s1 s2 t1 t2 : Addr) (k1 k2 : ClassId) (vs1 vs2 : List Value) (h0 : Heap) (n0 : Nat) (Z0 : n0 ≤ h0.size) (FD : Fld Z h0 o1 "com/example/tempora/tempora/core/Issue" "designation" "Ljava/lang/String;" (.ref s1)) (FA : Fld Z h0 o1 "com/example/tempora/tempora/core/Issue" "date" "Ljava/lang/String;" (.ref s2)) (E1 : Exa Z h0 s1 "java/lang/String") (E2 : Exa Z h0 s2 "java/lang/String") (F1 : Fld Z h0 s1 "java/lang/String" "value" "[B" (.ref t1)) (F2 : Fld Z h0 s2 "java/lang/String" "value" "[B" (.ref t2)) (V1 : Arv Z h0 t1 k1 .byte (0 : Int32) vs1 (.int (0 : Int32))) (V2 : Arv Z h0 t2 k2 .byte (2 : Int32) vs2 (.int (0 : Int32))) :
    MetFree l (⟨"com/example/tempora/tempora/core/Issue", "isGiven", "()Z"⟩ : MethodName) (head1 (Jvm.Cond.code (⟨"com/example/tempora/tempora/core/Issue", "isGiven", "()Z"⟩ : MethodName) prog_18_method_2_code 1 (some .boolean) :: ws) ({ frames := 1, cells := 0, slots := 0, locals := 12 } : Room)) (fun a U => a = #[(.ref o1)] ∧ Z.Warmed39 U.vm ∧ U.heap = h0) (fun _ _ _ _ _ => True) (fun _ U o U' => ∃ v L, o = .returned v ∧ Q_own_ig02 Z o1 s1 s2 t1 t2 k1 k2 vs1 vs2 h0 n0 v U'.heap L ∧ FrameEnd U o U' L ({ frames := 1, cells := 0, slots := 0, locals := 12 } : Room).cells ({ frames := 1, cells := 0, slots := 0, locals := 12 } : Room).slots) := by
  refine MetFree.of_bodySF (plainFor_of_name own_pn_com_example_tempora_tempora_core_Issue) hisR ?_
  intro p e s m args below meth c s₁ Bd hml0 hP hK
  obtain ⟨rfl, hZ, hh⟩ := hP
  have hx := Bd.exec
  have hby := Bd.bytes
  have hml : c.maxLocals = 1 := hml0
  have hown : s.vm.findClass "com/example/tempora/tempora/core/Issue" = some m.cls := findClass_of_methodNamed Bd.named
  have hnm := (name_of_methodNamed Bd.named Bd.method).1
  have hlk : meth.locks = false := BodyLoose.notSynchronized Bd
  have X0 : Stand p l e ({ frames := 1, cells := 0, slots := 0, locals := 12 } : Room) s m #[(.ref o1)] below meth c s₁ [] 0 0 := Stand.of_body Bd
  have e0 : s₁.heap = h0 := by rw [← hh, Bd.state]; rfl
  have N0 := Fr.nil n0
  show own_Go p e below #[(.ref o1)] s (fun _ U o U' => ∃ v L, o = .returned v ∧ Q_own_ig02 Z o1 s1 s2 t1 t2 k1 k2 vs1 vs2 h0 n0 v U'.heap L ∧ FrameEnd U o U' L ({ frames := 1, cells := 0, slots := 0, locals := 12 } : Room).cells ({ frames := 1, cells := 0, slots := 0, locals := 12 } : Room).slots) (s₁.setTop (entryFrame m #[(.ref o1)] 1))
  refine own_st (V := s₁.setTop (mkF m 0 #[.val (.ref o1)] [])) (fun t k => castTop (by first | (simp [entryFrame, mkF, argsToLocals, Value.category]; done) | rfl) k) ?_
  refine own_st (V := s₁.setTop (mkF m 1 #[.val (.ref o1)] [(.ref o1)])) (fun t k => XS.aloadN X0.here hx rfl (hb hby own_d7_0) rfl rfl k) ?_
  obtain ⟨T73, X73, e73, st73⟩ := getF X0 hx hZ hown (host := "") (Or.inl (hw _ (List.mem_of_getElem? (i := 38) rfl))) Via.refl e0 FD (g := (mkF m 1 #[.val (.ref o1)] [(.ref o1)])) rfl rfl (hb hby own_d7_1)
  refine own_st (V := T73.setTop (mkF m 4 #[.val (.ref o1)] [(.ref s1)])) (fun t k => st73 _ k) ?_
  obtain ⟨cq74, kq74, q74a, q74b, q74c⟩ := isOf hZ e73 E1
  obtain ⟨_, _, ⟨T74, L74, k74, n74⟩, -, X74, ⟨Lc74, hQ74, l74, y74, z74⟩, st74⟩ := X73.virtualBack hx (y := (⟨"java/lang/String", "isEmpty", "()Z"⟩ : MethodName)) (z := (⟨"java/lang/String", "isEmpty", "()Z"⟩ : MethodName)) hown (mvT hZ (hw _ (List.mem_of_getElem? (i := 47) rfl))) (mvT hZ (hw _ (List.mem_of_getElem? (i := 48) rfl))) (notFace_of_selects (args := #[]) (mvT hZ (hw _ (List.mem_of_getElem? (i := 50) rfl)))) (mvT hZ (hw _ (List.mem_of_getElem? (i := 50) rfl))) (mvT hZ (hw _ (List.mem_of_getElem? (i := 49) rfl))) (by decide) (backOf (W := 0) (own_ie0 l Z a0 hw [] s1 t1 k1 vs1 h0 n0 Z0 F1 V1) hZ (hw _ (List.mem_of_getElem? (i := 51) rfl)) (hw _ (List.mem_of_getElem? (i := 6) rfl)) (by decide) (by decide)) q74a q74c (g := (mkF m 4 #[.val (.ref o1)] [(.ref s1)])) rfl (by rw [hml]; rfl) (Steps.refl _) (argsL := []) (rest := []) (lenOf own_pd6 rfl) rfl (by show 2 * 0 + _ ≤ _; exact Nat.le_of_eq rfl) (hb hby own_d7_4) (fun _ _ => ⟨rfl, e73, (by decide : 0 + 0 ≤ _), (by decide : 0 + 0 ≤ _)⟩)
  dsimp only [Pt.U, Pt.locs, Pt.cells, Pt.slots] at X74 l74 y74 z74 st74 hQ74
  subst l74 y74 z74
  obtain ⟨rfl, N74q, e74⟩ := hQ74
  have N74 := Fr.app N0 N74q
  refine own_st (V := T74.setTop (mkF m 7 #[.val (.ref o1)] [(.int (1 : Int32))])) (fun t k => st74.trans k) ?_
  refine own_st (V := T74.setTop (mkF m 10 #[.val (.ref o1)] [])) (fun t k => XS.ifNo X74.here hx rfl (hb hby own_d7_7) rfl ((if0 _ _).trans (feq (by decide : ¬ ((1 : Int32) = (0 : Int32)))).1) k) ?_
  refine own_st (V := T74.setTop (mkF m 11 #[.val (.ref o1)] [(.ref o1)])) (fun t k => XS.aloadN X74.here hx rfl (hb hby own_d7_10) rfl rfl k) ?_
  obtain ⟨T75, X75, e75, st75⟩ := getF X74 hx hZ hown (host := "") (Or.inl (hw _ (List.mem_of_getElem? (i := 40) rfl))) Via.refl e74 FA (g := (mkF m 11 #[.val (.ref o1)] [(.ref o1)])) rfl rfl (hb hby own_d7_11)
  refine own_st (V := T75.setTop (mkF m 14 #[.val (.ref o1)] [(.ref s2)])) (fun t k => st75 _ k) ?_
  obtain ⟨cq76, kq76, q76a, q76b, q76c⟩ := isOf hZ e75 E2
  obtain ⟨_, _, ⟨T76, L76, k76, n76⟩, -, X76, ⟨Lc76, hQ76, l76, y76, z76⟩, st76⟩ := X75.virtualBack hx (y := (⟨"java/lang/String", "isEmpty", "()Z"⟩ : MethodName)) (z := (⟨"java/lang/String", "isEmpty", "()Z"⟩ : MethodName)) hown (mvT hZ (hw _ (List.mem_of_getElem? (i := 47) rfl))) (mvT hZ (hw _ (List.mem_of_getElem? (i := 48) rfl))) (notFace_of_selects (args := #[]) (mvT hZ (hw _ (List.mem_of_getElem? (i := 50) rfl)))) (mvT hZ (hw _ (List.mem_of_getElem? (i := 50) rfl))) (mvT hZ (hw _ (List.mem_of_getElem? (i := 49) rfl))) (by decide) (backOf (W := 0) (own_ie2 l Z a0 hw [] s2 t2 k2 vs2 h0 n0 Z0 F2 V2) hZ (hw _ (List.mem_of_getElem? (i := 51) rfl)) (hw _ (List.mem_of_getElem? (i := 6) rfl)) (by decide) (by decide)) q76a q76c (g := (mkF m 14 #[.val (.ref o1)] [(.ref s2)])) rfl (by rw [hml]; rfl) (Steps.refl _) (argsL := []) (rest := []) (lenOf own_pd6 rfl) rfl (by show 2 * 0 + _ ≤ _; exact Nat.le_of_eq rfl) (hb hby own_d7_14) (fun _ _ => ⟨rfl, e75, (by decide : 0 + 0 ≤ _), (by decide : 0 + 0 ≤ _)⟩)
  dsimp only [Pt.U, Pt.locs, Pt.cells, Pt.slots] at X76 l76 y76 z76 st76 hQ76
  subst l76 y76 z76
  obtain ⟨rfl, N76q, e76⟩ := hQ76
  have N76 := Fr.app N74 N76q
  refine own_st (V := T76.setTop (mkF m 17 #[.val (.ref o1)] [(.int (0 : Int32))])) (fun t k => st76.trans k) ?_
  refine own_st (V := T76.setTop (mkF m 20 #[.val (.ref o1)] [])) (fun t k => XS.ifNo X76.here hx rfl (hb hby own_d7_17) rfl ((if0 _ _).trans (teq (by decide : (0 : Int32) = (0 : Int32))).2) k) ?_
  refine own_st (V := T76.setTop (mkF m 21 #[.val (.ref o1)] [(.int (1 : Int32))])) (fun t k => XS.iconst X76.here hx rfl (hb hby own_d7_20) k) ?_
  refine own_st (V := T76.setTop (mkF m 25 #[.val (.ref o1)] [(.int (1 : Int32))])) (fun t k => XS.goto X76.here hx rfl (pc0 := 21) (pc' := 25) rfl (hb hby own_d7_21) (by decide) (by decide) k) ?_
  exact own_ret X76 hx hlk Bd.returns (by decide +kernel) (Or.inl ⟨rfl, by simp, _, rfl⟩) (hb hby own_d7_25) (by decide) (by decide) (by show Q_own_ig02 Z o1 s1 s2 t1 t2 k1 k2 vs1 vs2 h0 n0 _ T76.heap _; rw [e76]; exact ⟨rfl, N76, rfl⟩)
def Q_own_ig10 (Z : State) (o1 s1 s2 t1 t2 : Addr) (k1 k2 : ClassId) (vs1 vs2 : List Value) (h0 : Heap) (n0 : Nat) (v : Option Value) (h : Heap) (L : List Loc) : Prop := v = some (.int (1 : Int32)) ∧ Fr n0 L ∧ h = h0
set_option maxRecDepth 65536 in
set_option maxHeartbeats 40000000 in
theorem own_ig10 (l : Launch) (Z : State) (a0 : Array Value) (hw : ∀ d ∈ tables_1, d.before a0 Z = true) (ws : List Jvm.Cond) (o1 s1 s2 t1 t2 : Addr) (k1 k2 : ClassId) (vs1 vs2 : List Value) (h0 : Heap) (n0 : Nat) (Z0 : n0 ≤ h0.size) (FD : Fld Z h0 o1 "com/example/tempora/tempora/core/Issue" "designation" "Ljava/lang/String;" (.ref s1)) (FA : Fld Z h0 o1 "com/example/tempora/tempora/core/Issue" "date" "Ljava/lang/String;" (.ref s2)) (E1 : Exa Z h0 s1 "java/lang/String") (E2 : Exa Z h0 s2 "java/lang/String") (F1 : Fld Z h0 s1 "java/lang/String" "value" "[B" (.ref t1)) (F2 : Fld Z h0 s2 "java/lang/String" "value" "[B" (.ref t2)) (V1 : Arv Z h0 t1 k1 .byte (1 : Int32) vs1 (.int (0 : Int32))) (V2 : Arv Z h0 t2 k2 .byte (0 : Int32) vs2 (.int (0 : Int32))) :
    MetFree l (⟨"com/example/tempora/tempora/core/Issue", "isGiven", "()Z"⟩ : MethodName) (head1 (Jvm.Cond.code (⟨"com/example/tempora/tempora/core/Issue", "isGiven", "()Z"⟩ : MethodName) prog_18_method_2_code 1 (some .boolean) :: ws) ({ frames := 1, cells := 0, slots := 0, locals := 12 } : Room)) (fun a U => a = #[(.ref o1)] ∧ Z.Warmed39 U.vm ∧ U.heap = h0) (fun _ _ _ _ _ => True) (fun _ U o U' => ∃ v L, o = .returned v ∧ Q_own_ig10 Z o1 s1 s2 t1 t2 k1 k2 vs1 vs2 h0 n0 v U'.heap L ∧ FrameEnd U o U' L ({ frames := 1, cells := 0, slots := 0, locals := 12 } : Room).cells ({ frames := 1, cells := 0, slots := 0, locals := 12 } : Room).slots) := by
  refine MetFree.of_bodySF (plainFor_of_name own_pn_com_example_tempora_tempora_core_Issue) hisR ?_
  intro p e s m args below meth c s₁ Bd hml0 hP hK
  obtain ⟨rfl, hZ, hh⟩ := hP
  have hx := Bd.exec
  have hby := Bd.bytes
  have hml : c.maxLocals = 1 := hml0
  have hown : s.vm.findClass "com/example/tempora/tempora/core/Issue" = some m.cls := findClass_of_methodNamed Bd.named
  have hnm := (name_of_methodNamed Bd.named Bd.method).1
  have hlk : meth.locks = false := BodyLoose.notSynchronized Bd
  have X0 : Stand p l e ({ frames := 1, cells := 0, slots := 0, locals := 12 } : Room) s m #[(.ref o1)] below meth c s₁ [] 0 0 := Stand.of_body Bd
  have e0 : s₁.heap = h0 := by rw [← hh, Bd.state]; rfl
  have N0 := Fr.nil n0
  show own_Go p e below #[(.ref o1)] s (fun _ U o U' => ∃ v L, o = .returned v ∧ Q_own_ig10 Z o1 s1 s2 t1 t2 k1 k2 vs1 vs2 h0 n0 v U'.heap L ∧ FrameEnd U o U' L ({ frames := 1, cells := 0, slots := 0, locals := 12 } : Room).cells ({ frames := 1, cells := 0, slots := 0, locals := 12 } : Room).slots) (s₁.setTop (entryFrame m #[(.ref o1)] 1))
  refine own_st (V := s₁.setTop (mkF m 0 #[.val (.ref o1)] [])) (fun t k => castTop (by first | (simp [entryFrame, mkF, argsToLocals, Value.category]; done) | rfl) k) ?_
  refine own_st (V := s₁.setTop (mkF m 1 #[.val (.ref o1)] [(.ref o1)])) (fun t k => XS.aloadN X0.here hx rfl (hb hby own_d7_0) rfl rfl k) ?_
  obtain ⟨T77, X77, e77, st77⟩ := getF X0 hx hZ hown (host := "") (Or.inl (hw _ (List.mem_of_getElem? (i := 38) rfl))) Via.refl e0 FD (g := (mkF m 1 #[.val (.ref o1)] [(.ref o1)])) rfl rfl (hb hby own_d7_1)
  refine own_st (V := T77.setTop (mkF m 4 #[.val (.ref o1)] [(.ref s1)])) (fun t k => st77 _ k) ?_
  obtain ⟨cq78, kq78, q78a, q78b, q78c⟩ := isOf hZ e77 E1
  obtain ⟨_, _, ⟨T78, L78, k78, n78⟩, -, X78, ⟨Lc78, hQ78, l78, y78, z78⟩, st78⟩ := X77.virtualBack hx (y := (⟨"java/lang/String", "isEmpty", "()Z"⟩ : MethodName)) (z := (⟨"java/lang/String", "isEmpty", "()Z"⟩ : MethodName)) hown (mvT hZ (hw _ (List.mem_of_getElem? (i := 47) rfl))) (mvT hZ (hw _ (List.mem_of_getElem? (i := 48) rfl))) (notFace_of_selects (args := #[]) (mvT hZ (hw _ (List.mem_of_getElem? (i := 50) rfl)))) (mvT hZ (hw _ (List.mem_of_getElem? (i := 50) rfl))) (mvT hZ (hw _ (List.mem_of_getElem? (i := 49) rfl))) (by decide) (backOf (W := 0) (own_ie1 l Z a0 hw [] s1 t1 k1 vs1 h0 n0 Z0 F1 V1) hZ (hw _ (List.mem_of_getElem? (i := 51) rfl)) (hw _ (List.mem_of_getElem? (i := 6) rfl)) (by decide) (by decide)) q78a q78c (g := (mkF m 4 #[.val (.ref o1)] [(.ref s1)])) rfl (by rw [hml]; rfl) (Steps.refl _) (argsL := []) (rest := []) (lenOf own_pd6 rfl) rfl (by show 2 * 0 + _ ≤ _; exact Nat.le_of_eq rfl) (hb hby own_d7_4) (fun _ _ => ⟨rfl, e77, (by decide : 0 + 0 ≤ _), (by decide : 0 + 0 ≤ _)⟩)
  dsimp only [Pt.U, Pt.locs, Pt.cells, Pt.slots] at X78 l78 y78 z78 st78 hQ78
  subst l78 y78 z78
  obtain ⟨rfl, N78q, e78⟩ := hQ78
  have N78 := Fr.app N0 N78q
  refine own_st (V := T78.setTop (mkF m 7 #[.val (.ref o1)] [(.int (0 : Int32))])) (fun t k => st78.trans k) ?_
  refine own_st (V := T78.setTop (mkF m 20 #[.val (.ref o1)] [])) (fun t k => XS.ifYes X78.here hx rfl (pc0 := 7) (pc' := 20) rfl (hb hby own_d7_7) rfl ((if0 _ _).trans (teq (by decide : (0 : Int32) = (0 : Int32))).1) (by decide) (by decide) k) ?_
  refine own_st (V := T78.setTop (mkF m 21 #[.val (.ref o1)] [(.int (1 : Int32))])) (fun t k => XS.iconst X78.here hx rfl (hb hby own_d7_20) k) ?_
  refine own_st (V := T78.setTop (mkF m 25 #[.val (.ref o1)] [(.int (1 : Int32))])) (fun t k => XS.goto X78.here hx rfl (pc0 := 21) (pc' := 25) rfl (hb hby own_d7_21) (by decide) (by decide) k) ?_
  exact own_ret X78 hx hlk Bd.returns (by decide +kernel) (Or.inl ⟨rfl, by simp, _, rfl⟩) (hb hby own_d7_25) (by decide) (by decide) (by show Q_own_ig10 Z o1 s1 s2 t1 t2 k1 k2 vs1 vs2 h0 n0 _ T78.heap _; rw [e78]; exact ⟨rfl, N78, rfl⟩)
def Q_own_ig11 (Z : State) (o1 s1 s2 t1 t2 : Addr) (k1 k2 : ClassId) (vs1 vs2 : List Value) (h0 : Heap) (n0 : Nat) (v : Option Value) (h : Heap) (L : List Loc) : Prop := v = some (.int (1 : Int32)) ∧ Fr n0 L ∧ h = h0
set_option maxRecDepth 65536 in
set_option maxHeartbeats 40000000 in
theorem own_ig11 (l : Launch) (Z : State) (a0 : Array Value) (hw : ∀ d ∈ tables_1, d.before a0 Z = true) (ws : List Jvm.Cond) (o1 s1 s2 t1 t2 : Addr) (k1 k2 : ClassId) (vs1 vs2 : List Value) (h0 : Heap) (n0 : Nat) (Z0 : n0 ≤ h0.size) (FD : Fld Z h0 o1 "com/example/tempora/tempora/core/Issue" "designation" "Ljava/lang/String;" (.ref s1)) (FA : Fld Z h0 o1 "com/example/tempora/tempora/core/Issue" "date" "Ljava/lang/String;" (.ref s2)) (E1 : Exa Z h0 s1 "java/lang/String") (E2 : Exa Z h0 s2 "java/lang/String") (F1 : Fld Z h0 s1 "java/lang/String" "value" "[B" (.ref t1)) (F2 : Fld Z h0 s2 "java/lang/String" "value" "[B" (.ref t2)) (V1 : Arv Z h0 t1 k1 .byte (1 : Int32) vs1 (.int (0 : Int32))) (V2 : Arv Z h0 t2 k2 .byte (1 : Int32) vs2 (.int (0 : Int32))) :
    MetFree l (⟨"com/example/tempora/tempora/core/Issue", "isGiven", "()Z"⟩ : MethodName) (head1 (Jvm.Cond.code (⟨"com/example/tempora/tempora/core/Issue", "isGiven", "()Z"⟩ : MethodName) prog_18_method_2_code 1 (some .boolean) :: ws) ({ frames := 1, cells := 0, slots := 0, locals := 12 } : Room)) (fun a U => a = #[(.ref o1)] ∧ Z.Warmed39 U.vm ∧ U.heap = h0) (fun _ _ _ _ _ => True) (fun _ U o U' => ∃ v L, o = .returned v ∧ Q_own_ig11 Z o1 s1 s2 t1 t2 k1 k2 vs1 vs2 h0 n0 v U'.heap L ∧ FrameEnd U o U' L ({ frames := 1, cells := 0, slots := 0, locals := 12 } : Room).cells ({ frames := 1, cells := 0, slots := 0, locals := 12 } : Room).slots) := by
  refine MetFree.of_bodySF (plainFor_of_name own_pn_com_example_tempora_tempora_core_Issue) hisR ?_
  intro p e s m args below meth c s₁ Bd hml0 hP hK
  obtain ⟨rfl, hZ, hh⟩ := hP
  have hx := Bd.exec
  have hby := Bd.bytes
  have hml : c.maxLocals = 1 := hml0
  have hown : s.vm.findClass "com/example/tempora/tempora/core/Issue" = some m.cls := findClass_of_methodNamed Bd.named
  have hnm := (name_of_methodNamed Bd.named Bd.method).1
  have hlk : meth.locks = false := BodyLoose.notSynchronized Bd
  have X0 : Stand p l e ({ frames := 1, cells := 0, slots := 0, locals := 12 } : Room) s m #[(.ref o1)] below meth c s₁ [] 0 0 := Stand.of_body Bd
  have e0 : s₁.heap = h0 := by rw [← hh, Bd.state]; rfl
  have N0 := Fr.nil n0
  show own_Go p e below #[(.ref o1)] s (fun _ U o U' => ∃ v L, o = .returned v ∧ Q_own_ig11 Z o1 s1 s2 t1 t2 k1 k2 vs1 vs2 h0 n0 v U'.heap L ∧ FrameEnd U o U' L ({ frames := 1, cells := 0, slots := 0, locals := 12 } : Room).cells ({ frames := 1, cells := 0, slots := 0, locals := 12 } : Room).slots) (s₁.setTop (entryFrame m #[(.ref o1)] 1))
  refine own_st (V := s₁.setTop (mkF m 0 #[.val (.ref o1)] [])) (fun t k => castTop (by first | (simp [entryFrame, mkF, argsToLocals, Value.category]; done) | rfl) k) ?_
  refine own_st (V := s₁.setTop (mkF m 1 #[.val (.ref o1)] [(.ref o1)])) (fun t k => XS.aloadN X0.here hx rfl (hb hby own_d7_0) rfl rfl k) ?_
  obtain ⟨T79, X79, e79, st79⟩ := getF X0 hx hZ hown (host := "") (Or.inl (hw _ (List.mem_of_getElem? (i := 38) rfl))) Via.refl e0 FD (g := (mkF m 1 #[.val (.ref o1)] [(.ref o1)])) rfl rfl (hb hby own_d7_1)
  refine own_st (V := T79.setTop (mkF m 4 #[.val (.ref o1)] [(.ref s1)])) (fun t k => st79 _ k) ?_
  obtain ⟨cq80, kq80, q80a, q80b, q80c⟩ := isOf hZ e79 E1
  obtain ⟨_, _, ⟨T80, L80, k80, n80⟩, -, X80, ⟨Lc80, hQ80, l80, y80, z80⟩, st80⟩ := X79.virtualBack hx (y := (⟨"java/lang/String", "isEmpty", "()Z"⟩ : MethodName)) (z := (⟨"java/lang/String", "isEmpty", "()Z"⟩ : MethodName)) hown (mvT hZ (hw _ (List.mem_of_getElem? (i := 47) rfl))) (mvT hZ (hw _ (List.mem_of_getElem? (i := 48) rfl))) (notFace_of_selects (args := #[]) (mvT hZ (hw _ (List.mem_of_getElem? (i := 50) rfl)))) (mvT hZ (hw _ (List.mem_of_getElem? (i := 50) rfl))) (mvT hZ (hw _ (List.mem_of_getElem? (i := 49) rfl))) (by decide) (backOf (W := 0) (own_ie1 l Z a0 hw [] s1 t1 k1 vs1 h0 n0 Z0 F1 V1) hZ (hw _ (List.mem_of_getElem? (i := 51) rfl)) (hw _ (List.mem_of_getElem? (i := 6) rfl)) (by decide) (by decide)) q80a q80c (g := (mkF m 4 #[.val (.ref o1)] [(.ref s1)])) rfl (by rw [hml]; rfl) (Steps.refl _) (argsL := []) (rest := []) (lenOf own_pd6 rfl) rfl (by show 2 * 0 + _ ≤ _; exact Nat.le_of_eq rfl) (hb hby own_d7_4) (fun _ _ => ⟨rfl, e79, (by decide : 0 + 0 ≤ _), (by decide : 0 + 0 ≤ _)⟩)
  dsimp only [Pt.U, Pt.locs, Pt.cells, Pt.slots] at X80 l80 y80 z80 st80 hQ80
  subst l80 y80 z80
  obtain ⟨rfl, N80q, e80⟩ := hQ80
  have N80 := Fr.app N0 N80q
  refine own_st (V := T80.setTop (mkF m 7 #[.val (.ref o1)] [(.int (0 : Int32))])) (fun t k => st80.trans k) ?_
  refine own_st (V := T80.setTop (mkF m 20 #[.val (.ref o1)] [])) (fun t k => XS.ifYes X80.here hx rfl (pc0 := 7) (pc' := 20) rfl (hb hby own_d7_7) rfl ((if0 _ _).trans (teq (by decide : (0 : Int32) = (0 : Int32))).1) (by decide) (by decide) k) ?_
  refine own_st (V := T80.setTop (mkF m 21 #[.val (.ref o1)] [(.int (1 : Int32))])) (fun t k => XS.iconst X80.here hx rfl (hb hby own_d7_20) k) ?_
  refine own_st (V := T80.setTop (mkF m 25 #[.val (.ref o1)] [(.int (1 : Int32))])) (fun t k => XS.goto X80.here hx rfl (pc0 := 21) (pc' := 25) rfl (hb hby own_d7_21) (by decide) (by decide) k) ?_
  exact own_ret X80 hx hlk Bd.returns (by decide +kernel) (Or.inl ⟨rfl, by simp, _, rfl⟩) (hb hby own_d7_25) (by decide) (by decide) (by show Q_own_ig11 Z o1 s1 s2 t1 t2 k1 k2 vs1 vs2 h0 n0 _ T80.heap _; rw [e80]; exact ⟨rfl, N80, rfl⟩)
def Q_own_ig12 (Z : State) (o1 s1 s2 t1 t2 : Addr) (k1 k2 : ClassId) (vs1 vs2 : List Value) (h0 : Heap) (n0 : Nat) (v : Option Value) (h : Heap) (L : List Loc) : Prop := v = some (.int (1 : Int32)) ∧ Fr n0 L ∧ h = h0
set_option maxRecDepth 65536 in
set_option maxHeartbeats 40000000 in
theorem own_ig12 (l : Launch) (Z : State) (a0 : Array Value) (hw : ∀ d ∈ tables_1, d.before a0 Z = true) (ws : List Jvm.Cond) (o1 s1 s2 t1 t2 : Addr) (k1 k2 : ClassId) (vs1 vs2 : List Value) (h0 : Heap) (n0 : Nat) (Z0 : n0 ≤ h0.size) (FD : Fld Z h0 o1 "com/example/tempora/tempora/core/Issue" "designation" "Ljava/lang/String;" (.ref s1)) (FA : Fld Z h0 o1 "com/example/tempora/tempora/core/Issue" "date" "Ljava/lang/String;" (.ref s2)) (E1 : Exa Z h0 s1 "java/lang/String") (E2 : Exa Z h0 s2 "java/lang/String") (F1 : Fld Z h0 s1 "java/lang/String" "value" "[B" (.ref t1)) (F2 : Fld Z h0 s2 "java/lang/String" "value" "[B" (.ref t2)) (V1 : Arv Z h0 t1 k1 .byte (1 : Int32) vs1 (.int (0 : Int32))) (V2 : Arv Z h0 t2 k2 .byte (2 : Int32) vs2 (.int (0 : Int32))) :
    MetFree l (⟨"com/example/tempora/tempora/core/Issue", "isGiven", "()Z"⟩ : MethodName) (head1 (Jvm.Cond.code (⟨"com/example/tempora/tempora/core/Issue", "isGiven", "()Z"⟩ : MethodName) prog_18_method_2_code 1 (some .boolean) :: ws) ({ frames := 1, cells := 0, slots := 0, locals := 12 } : Room)) (fun a U => a = #[(.ref o1)] ∧ Z.Warmed39 U.vm ∧ U.heap = h0) (fun _ _ _ _ _ => True) (fun _ U o U' => ∃ v L, o = .returned v ∧ Q_own_ig12 Z o1 s1 s2 t1 t2 k1 k2 vs1 vs2 h0 n0 v U'.heap L ∧ FrameEnd U o U' L ({ frames := 1, cells := 0, slots := 0, locals := 12 } : Room).cells ({ frames := 1, cells := 0, slots := 0, locals := 12 } : Room).slots) := by
  refine MetFree.of_bodySF (plainFor_of_name own_pn_com_example_tempora_tempora_core_Issue) hisR ?_
  intro p e s m args below meth c s₁ Bd hml0 hP hK
  obtain ⟨rfl, hZ, hh⟩ := hP
  have hx := Bd.exec
  have hby := Bd.bytes
  have hml : c.maxLocals = 1 := hml0
  have hown : s.vm.findClass "com/example/tempora/tempora/core/Issue" = some m.cls := findClass_of_methodNamed Bd.named
  have hnm := (name_of_methodNamed Bd.named Bd.method).1
  have hlk : meth.locks = false := BodyLoose.notSynchronized Bd
  have X0 : Stand p l e ({ frames := 1, cells := 0, slots := 0, locals := 12 } : Room) s m #[(.ref o1)] below meth c s₁ [] 0 0 := Stand.of_body Bd
  have e0 : s₁.heap = h0 := by rw [← hh, Bd.state]; rfl
  have N0 := Fr.nil n0
  show own_Go p e below #[(.ref o1)] s (fun _ U o U' => ∃ v L, o = .returned v ∧ Q_own_ig12 Z o1 s1 s2 t1 t2 k1 k2 vs1 vs2 h0 n0 v U'.heap L ∧ FrameEnd U o U' L ({ frames := 1, cells := 0, slots := 0, locals := 12 } : Room).cells ({ frames := 1, cells := 0, slots := 0, locals := 12 } : Room).slots) (s₁.setTop (entryFrame m #[(.ref o1)] 1))
  refine own_st (V := s₁.setTop (mkF m 0 #[.val (.ref o1)] [])) (fun t k => castTop (by first | (simp [entryFrame, mkF, argsToLocals, Value.category]; done) | rfl) k) ?_
  refine own_st (V := s₁.setTop (mkF m 1 #[.val (.ref o1)] [(.ref o1)])) (fun t k => XS.aloadN X0.here hx rfl (hb hby own_d7_0) rfl rfl k) ?_
  obtain ⟨T81, X81, e81, st81⟩ := getF X0 hx hZ hown (host := "") (Or.inl (hw _ (List.mem_of_getElem? (i := 38) rfl))) Via.refl e0 FD (g := (mkF m 1 #[.val (.ref o1)] [(.ref o1)])) rfl rfl (hb hby own_d7_1)
  refine own_st (V := T81.setTop (mkF m 4 #[.val (.ref o1)] [(.ref s1)])) (fun t k => st81 _ k) ?_
  obtain ⟨cq82, kq82, q82a, q82b, q82c⟩ := isOf hZ e81 E1
  obtain ⟨_, _, ⟨T82, L82, k82, n82⟩, -, X82, ⟨Lc82, hQ82, l82, y82, z82⟩, st82⟩ := X81.virtualBack hx (y := (⟨"java/lang/String", "isEmpty", "()Z"⟩ : MethodName)) (z := (⟨"java/lang/String", "isEmpty", "()Z"⟩ : MethodName)) hown (mvT hZ (hw _ (List.mem_of_getElem? (i := 47) rfl))) (mvT hZ (hw _ (List.mem_of_getElem? (i := 48) rfl))) (notFace_of_selects (args := #[]) (mvT hZ (hw _ (List.mem_of_getElem? (i := 50) rfl)))) (mvT hZ (hw _ (List.mem_of_getElem? (i := 50) rfl))) (mvT hZ (hw _ (List.mem_of_getElem? (i := 49) rfl))) (by decide) (backOf (W := 0) (own_ie1 l Z a0 hw [] s1 t1 k1 vs1 h0 n0 Z0 F1 V1) hZ (hw _ (List.mem_of_getElem? (i := 51) rfl)) (hw _ (List.mem_of_getElem? (i := 6) rfl)) (by decide) (by decide)) q82a q82c (g := (mkF m 4 #[.val (.ref o1)] [(.ref s1)])) rfl (by rw [hml]; rfl) (Steps.refl _) (argsL := []) (rest := []) (lenOf own_pd6 rfl) rfl (by show 2 * 0 + _ ≤ _; exact Nat.le_of_eq rfl) (hb hby own_d7_4) (fun _ _ => ⟨rfl, e81, (by decide : 0 + 0 ≤ _), (by decide : 0 + 0 ≤ _)⟩)
  dsimp only [Pt.U, Pt.locs, Pt.cells, Pt.slots] at X82 l82 y82 z82 st82 hQ82
  subst l82 y82 z82
  obtain ⟨rfl, N82q, e82⟩ := hQ82
  have N82 := Fr.app N0 N82q
  refine own_st (V := T82.setTop (mkF m 7 #[.val (.ref o1)] [(.int (0 : Int32))])) (fun t k => st82.trans k) ?_
  refine own_st (V := T82.setTop (mkF m 20 #[.val (.ref o1)] [])) (fun t k => XS.ifYes X82.here hx rfl (pc0 := 7) (pc' := 20) rfl (hb hby own_d7_7) rfl ((if0 _ _).trans (teq (by decide : (0 : Int32) = (0 : Int32))).1) (by decide) (by decide) k) ?_
  refine own_st (V := T82.setTop (mkF m 21 #[.val (.ref o1)] [(.int (1 : Int32))])) (fun t k => XS.iconst X82.here hx rfl (hb hby own_d7_20) k) ?_
  refine own_st (V := T82.setTop (mkF m 25 #[.val (.ref o1)] [(.int (1 : Int32))])) (fun t k => XS.goto X82.here hx rfl (pc0 := 21) (pc' := 25) rfl (hb hby own_d7_21) (by decide) (by decide) k) ?_
  exact own_ret X82 hx hlk Bd.returns (by decide +kernel) (Or.inl ⟨rfl, by simp, _, rfl⟩) (hb hby own_d7_25) (by decide) (by decide) (by show Q_own_ig12 Z o1 s1 s2 t1 t2 k1 k2 vs1 vs2 h0 n0 _ T82.heap _; rw [e82]; exact ⟨rfl, N82, rfl⟩)
def Q_own_ig20 (Z : State) (o1 s1 s2 t1 t2 : Addr) (k1 k2 : ClassId) (vs1 vs2 : List Value) (h0 : Heap) (n0 : Nat) (v : Option Value) (h : Heap) (L : List Loc) : Prop := v = some (.int (1 : Int32)) ∧ Fr n0 L ∧ h = h0
set_option maxRecDepth 65536 in
set_option maxHeartbeats 40000000 in
theorem own_ig20 (l : Launch) (Z : State) (a0 : Array Value) (hw : ∀ d ∈ tables_1, d.before a0 Z = true) (ws : List Jvm.Cond) (o1 s1 s2 t1 t2 : Addr) (k1 k2 : ClassId) (vs1 vs2 : List Value) (h0 : Heap) (n0 : Nat) (Z0 : n0 ≤ h0.size) (FD : Fld Z h0 o1 "com/example/tempora/tempora/core/Issue" "designation" "Ljava/lang/String;" (.ref s1)) (FA : Fld Z h0 o1 "com/example/tempora/tempora/core/Issue" "date" "Ljava/lang/String;" (.ref s2)) (E1 : Exa Z h0 s1 "java/lang/String") (E2 : Exa Z h0 s2 "java/lang/String") (F1 : Fld Z h0 s1 "java/lang/String" "value" "[B" (.ref t1)) (F2 : Fld Z h0 s2 "java/lang/String" "value" "[B" (.ref t2)) (V1 : Arv Z h0 t1 k1 .byte (2 : Int32) vs1 (.int (0 : Int32))) (V2 : Arv Z h0 t2 k2 .byte (0 : Int32) vs2 (.int (0 : Int32))) :
    MetFree l (⟨"com/example/tempora/tempora/core/Issue", "isGiven", "()Z"⟩ : MethodName) (head1 (Jvm.Cond.code (⟨"com/example/tempora/tempora/core/Issue", "isGiven", "()Z"⟩ : MethodName) prog_18_method_2_code 1 (some .boolean) :: ws) ({ frames := 1, cells := 0, slots := 0, locals := 12 } : Room)) (fun a U => a = #[(.ref o1)] ∧ Z.Warmed39 U.vm ∧ U.heap = h0) (fun _ _ _ _ _ => True) (fun _ U o U' => ∃ v L, o = .returned v ∧ Q_own_ig20 Z o1 s1 s2 t1 t2 k1 k2 vs1 vs2 h0 n0 v U'.heap L ∧ FrameEnd U o U' L ({ frames := 1, cells := 0, slots := 0, locals := 12 } : Room).cells ({ frames := 1, cells := 0, slots := 0, locals := 12 } : Room).slots) := by
  refine MetFree.of_bodySF (plainFor_of_name own_pn_com_example_tempora_tempora_core_Issue) hisR ?_
  intro p e s m args below meth c s₁ Bd hml0 hP hK
  obtain ⟨rfl, hZ, hh⟩ := hP
  have hx := Bd.exec
  have hby := Bd.bytes
  have hml : c.maxLocals = 1 := hml0
  have hown : s.vm.findClass "com/example/tempora/tempora/core/Issue" = some m.cls := findClass_of_methodNamed Bd.named
  have hnm := (name_of_methodNamed Bd.named Bd.method).1
  have hlk : meth.locks = false := BodyLoose.notSynchronized Bd
  have X0 : Stand p l e ({ frames := 1, cells := 0, slots := 0, locals := 12 } : Room) s m #[(.ref o1)] below meth c s₁ [] 0 0 := Stand.of_body Bd
  have e0 : s₁.heap = h0 := by rw [← hh, Bd.state]; rfl
  have N0 := Fr.nil n0
  show own_Go p e below #[(.ref o1)] s (fun _ U o U' => ∃ v L, o = .returned v ∧ Q_own_ig20 Z o1 s1 s2 t1 t2 k1 k2 vs1 vs2 h0 n0 v U'.heap L ∧ FrameEnd U o U' L ({ frames := 1, cells := 0, slots := 0, locals := 12 } : Room).cells ({ frames := 1, cells := 0, slots := 0, locals := 12 } : Room).slots) (s₁.setTop (entryFrame m #[(.ref o1)] 1))
  refine own_st (V := s₁.setTop (mkF m 0 #[.val (.ref o1)] [])) (fun t k => castTop (by first | (simp [entryFrame, mkF, argsToLocals, Value.category]; done) | rfl) k) ?_
  refine own_st (V := s₁.setTop (mkF m 1 #[.val (.ref o1)] [(.ref o1)])) (fun t k => XS.aloadN X0.here hx rfl (hb hby own_d7_0) rfl rfl k) ?_
  obtain ⟨T83, X83, e83, st83⟩ := getF X0 hx hZ hown (host := "") (Or.inl (hw _ (List.mem_of_getElem? (i := 38) rfl))) Via.refl e0 FD (g := (mkF m 1 #[.val (.ref o1)] [(.ref o1)])) rfl rfl (hb hby own_d7_1)
  refine own_st (V := T83.setTop (mkF m 4 #[.val (.ref o1)] [(.ref s1)])) (fun t k => st83 _ k) ?_
  obtain ⟨cq84, kq84, q84a, q84b, q84c⟩ := isOf hZ e83 E1
  obtain ⟨_, _, ⟨T84, L84, k84, n84⟩, -, X84, ⟨Lc84, hQ84, l84, y84, z84⟩, st84⟩ := X83.virtualBack hx (y := (⟨"java/lang/String", "isEmpty", "()Z"⟩ : MethodName)) (z := (⟨"java/lang/String", "isEmpty", "()Z"⟩ : MethodName)) hown (mvT hZ (hw _ (List.mem_of_getElem? (i := 47) rfl))) (mvT hZ (hw _ (List.mem_of_getElem? (i := 48) rfl))) (notFace_of_selects (args := #[]) (mvT hZ (hw _ (List.mem_of_getElem? (i := 50) rfl)))) (mvT hZ (hw _ (List.mem_of_getElem? (i := 50) rfl))) (mvT hZ (hw _ (List.mem_of_getElem? (i := 49) rfl))) (by decide) (backOf (W := 0) (own_ie2 l Z a0 hw [] s1 t1 k1 vs1 h0 n0 Z0 F1 V1) hZ (hw _ (List.mem_of_getElem? (i := 51) rfl)) (hw _ (List.mem_of_getElem? (i := 6) rfl)) (by decide) (by decide)) q84a q84c (g := (mkF m 4 #[.val (.ref o1)] [(.ref s1)])) rfl (by rw [hml]; rfl) (Steps.refl _) (argsL := []) (rest := []) (lenOf own_pd6 rfl) rfl (by show 2 * 0 + _ ≤ _; exact Nat.le_of_eq rfl) (hb hby own_d7_4) (fun _ _ => ⟨rfl, e83, (by decide : 0 + 0 ≤ _), (by decide : 0 + 0 ≤ _)⟩)
  dsimp only [Pt.U, Pt.locs, Pt.cells, Pt.slots] at X84 l84 y84 z84 st84 hQ84
  subst l84 y84 z84
  obtain ⟨rfl, N84q, e84⟩ := hQ84
  have N84 := Fr.app N0 N84q
  refine own_st (V := T84.setTop (mkF m 7 #[.val (.ref o1)] [(.int (0 : Int32))])) (fun t k => st84.trans k) ?_
  refine own_st (V := T84.setTop (mkF m 20 #[.val (.ref o1)] [])) (fun t k => XS.ifYes X84.here hx rfl (pc0 := 7) (pc' := 20) rfl (hb hby own_d7_7) rfl ((if0 _ _).trans (teq (by decide : (0 : Int32) = (0 : Int32))).1) (by decide) (by decide) k) ?_
  refine own_st (V := T84.setTop (mkF m 21 #[.val (.ref o1)] [(.int (1 : Int32))])) (fun t k => XS.iconst X84.here hx rfl (hb hby own_d7_20) k) ?_
  refine own_st (V := T84.setTop (mkF m 25 #[.val (.ref o1)] [(.int (1 : Int32))])) (fun t k => XS.goto X84.here hx rfl (pc0 := 21) (pc' := 25) rfl (hb hby own_d7_21) (by decide) (by decide) k) ?_
  exact own_ret X84 hx hlk Bd.returns (by decide +kernel) (Or.inl ⟨rfl, by simp, _, rfl⟩) (hb hby own_d7_25) (by decide) (by decide) (by show Q_own_ig20 Z o1 s1 s2 t1 t2 k1 k2 vs1 vs2 h0 n0 _ T84.heap _; rw [e84]; exact ⟨rfl, N84, rfl⟩)
def Q_own_ig21 (Z : State) (o1 s1 s2 t1 t2 : Addr) (k1 k2 : ClassId) (vs1 vs2 : List Value) (h0 : Heap) (n0 : Nat) (v : Option Value) (h : Heap) (L : List Loc) : Prop := v = some (.int (1 : Int32)) ∧ Fr n0 L ∧ h = h0
set_option maxRecDepth 65536 in
set_option maxHeartbeats 40000000 in
theorem own_ig21 (l : Launch) (Z : State) (a0 : Array Value) (hw : ∀ d ∈ tables_1, d.before a0 Z = true) (ws : List Jvm.Cond) (o1 s1 s2 t1 t2 : Addr) (k1 k2 : ClassId) (vs1 vs2 : List Value) (h0 : Heap) (n0 : Nat) (Z0 : n0 ≤ h0.size) (FD : Fld Z h0 o1 "com/example/tempora/tempora/core/Issue" "designation" "Ljava/lang/String;" (.ref s1)) (FA : Fld Z h0 o1 "com/example/tempora/tempora/core/Issue" "date" "Ljava/lang/String;" (.ref s2)) (E1 : Exa Z h0 s1 "java/lang/String") (E2 : Exa Z h0 s2 "java/lang/String") (F1 : Fld Z h0 s1 "java/lang/String" "value" "[B" (.ref t1)) (F2 : Fld Z h0 s2 "java/lang/String" "value" "[B" (.ref t2)) (V1 : Arv Z h0 t1 k1 .byte (2 : Int32) vs1 (.int (0 : Int32))) (V2 : Arv Z h0 t2 k2 .byte (1 : Int32) vs2 (.int (0 : Int32))) :
    MetFree l (⟨"com/example/tempora/tempora/core/Issue", "isGiven", "()Z"⟩ : MethodName) (head1 (Jvm.Cond.code (⟨"com/example/tempora/tempora/core/Issue", "isGiven", "()Z"⟩ : MethodName) prog_18_method_2_code 1 (some .boolean) :: ws) ({ frames := 1, cells := 0, slots := 0, locals := 12 } : Room)) (fun a U => a = #[(.ref o1)] ∧ Z.Warmed39 U.vm ∧ U.heap = h0) (fun _ _ _ _ _ => True) (fun _ U o U' => ∃ v L, o = .returned v ∧ Q_own_ig21 Z o1 s1 s2 t1 t2 k1 k2 vs1 vs2 h0 n0 v U'.heap L ∧ FrameEnd U o U' L ({ frames := 1, cells := 0, slots := 0, locals := 12 } : Room).cells ({ frames := 1, cells := 0, slots := 0, locals := 12 } : Room).slots) := by
  refine MetFree.of_bodySF (plainFor_of_name own_pn_com_example_tempora_tempora_core_Issue) hisR ?_
  intro p e s m args below meth c s₁ Bd hml0 hP hK
  obtain ⟨rfl, hZ, hh⟩ := hP
  have hx := Bd.exec
  have hby := Bd.bytes
  have hml : c.maxLocals = 1 := hml0
  have hown : s.vm.findClass "com/example/tempora/tempora/core/Issue" = some m.cls := findClass_of_methodNamed Bd.named
  have hnm := (name_of_methodNamed Bd.named Bd.method).1
  have hlk : meth.locks = false := BodyLoose.notSynchronized Bd
  have X0 : Stand p l e ({ frames := 1, cells := 0, slots := 0, locals := 12 } : Room) s m #[(.ref o1)] below meth c s₁ [] 0 0 := Stand.of_body Bd
  have e0 : s₁.heap = h0 := by rw [← hh, Bd.state]; rfl
  have N0 := Fr.nil n0
  show own_Go p e below #[(.ref o1)] s (fun _ U o U' => ∃ v L, o = .returned v ∧ Q_own_ig21 Z o1 s1 s2 t1 t2 k1 k2 vs1 vs2 h0 n0 v U'.heap L ∧ FrameEnd U o U' L ({ frames := 1, cells := 0, slots := 0, locals := 12 } : Room).cells ({ frames := 1, cells := 0, slots := 0, locals := 12 } : Room).slots) (s₁.setTop (entryFrame m #[(.ref o1)] 1))
  refine own_st (V := s₁.setTop (mkF m 0 #[.val (.ref o1)] [])) (fun t k => castTop (by first | (simp [entryFrame, mkF, argsToLocals, Value.category]; done) | rfl) k) ?_
  refine own_st (V := s₁.setTop (mkF m 1 #[.val (.ref o1)] [(.ref o1)])) (fun t k => XS.aloadN X0.here hx rfl (hb hby own_d7_0) rfl rfl k) ?_
  obtain ⟨T85, X85, e85, st85⟩ := getF X0 hx hZ hown (host := "") (Or.inl (hw _ (List.mem_of_getElem? (i := 38) rfl))) Via.refl e0 FD (g := (mkF m 1 #[.val (.ref o1)] [(.ref o1)])) rfl rfl (hb hby own_d7_1)
  refine own_st (V := T85.setTop (mkF m 4 #[.val (.ref o1)] [(.ref s1)])) (fun t k => st85 _ k) ?_
  obtain ⟨cq86, kq86, q86a, q86b, q86c⟩ := isOf hZ e85 E1
  obtain ⟨_, _, ⟨T86, L86, k86, n86⟩, -, X86, ⟨Lc86, hQ86, l86, y86, z86⟩, st86⟩ := X85.virtualBack hx (y := (⟨"java/lang/String", "isEmpty", "()Z"⟩ : MethodName)) (z := (⟨"java/lang/String", "isEmpty", "()Z"⟩ : MethodName)) hown (mvT hZ (hw _ (List.mem_of_getElem? (i := 47) rfl))) (mvT hZ (hw _ (List.mem_of_getElem? (i := 48) rfl))) (notFace_of_selects (args := #[]) (mvT hZ (hw _ (List.mem_of_getElem? (i := 50) rfl)))) (mvT hZ (hw _ (List.mem_of_getElem? (i := 50) rfl))) (mvT hZ (hw _ (List.mem_of_getElem? (i := 49) rfl))) (by decide) (backOf (W := 0) (own_ie2 l Z a0 hw [] s1 t1 k1 vs1 h0 n0 Z0 F1 V1) hZ (hw _ (List.mem_of_getElem? (i := 51) rfl)) (hw _ (List.mem_of_getElem? (i := 6) rfl)) (by decide) (by decide)) q86a q86c (g := (mkF m 4 #[.val (.ref o1)] [(.ref s1)])) rfl (by rw [hml]; rfl) (Steps.refl _) (argsL := []) (rest := []) (lenOf own_pd6 rfl) rfl (by show 2 * 0 + _ ≤ _; exact Nat.le_of_eq rfl) (hb hby own_d7_4) (fun _ _ => ⟨rfl, e85, (by decide : 0 + 0 ≤ _), (by decide : 0 + 0 ≤ _)⟩)
  dsimp only [Pt.U, Pt.locs, Pt.cells, Pt.slots] at X86 l86 y86 z86 st86 hQ86
  subst l86 y86 z86
  obtain ⟨rfl, N86q, e86⟩ := hQ86
  have N86 := Fr.app N0 N86q
  refine own_st (V := T86.setTop (mkF m 7 #[.val (.ref o1)] [(.int (0 : Int32))])) (fun t k => st86.trans k) ?_
  refine own_st (V := T86.setTop (mkF m 20 #[.val (.ref o1)] [])) (fun t k => XS.ifYes X86.here hx rfl (pc0 := 7) (pc' := 20) rfl (hb hby own_d7_7) rfl ((if0 _ _).trans (teq (by decide : (0 : Int32) = (0 : Int32))).1) (by decide) (by decide) k) ?_
  refine own_st (V := T86.setTop (mkF m 21 #[.val (.ref o1)] [(.int (1 : Int32))])) (fun t k => XS.iconst X86.here hx rfl (hb hby own_d7_20) k) ?_
  refine own_st (V := T86.setTop (mkF m 25 #[.val (.ref o1)] [(.int (1 : Int32))])) (fun t k => XS.goto X86.here hx rfl (pc0 := 21) (pc' := 25) rfl (hb hby own_d7_21) (by decide) (by decide) k) ?_
  exact own_ret X86 hx hlk Bd.returns (by decide +kernel) (Or.inl ⟨rfl, by simp, _, rfl⟩) (hb hby own_d7_25) (by decide) (by decide) (by show Q_own_ig21 Z o1 s1 s2 t1 t2 k1 k2 vs1 vs2 h0 n0 _ T86.heap _; rw [e86]; exact ⟨rfl, N86, rfl⟩)
def Q_own_ig22 (Z : State) (o1 s1 s2 t1 t2 : Addr) (k1 k2 : ClassId) (vs1 vs2 : List Value) (h0 : Heap) (n0 : Nat) (v : Option Value) (h : Heap) (L : List Loc) : Prop := v = some (.int (1 : Int32)) ∧ Fr n0 L ∧ h = h0
set_option maxRecDepth 65536 in
set_option maxHeartbeats 40000000 in
theorem own_ig22 (l : Launch) (Z : State) (a0 : Array Value) (hw : ∀ d ∈ tables_1, d.before a0 Z = true) (ws : List Jvm.Cond) (o1 s1 s2 t1 t2 : Addr) (k1 k2 : ClassId) (vs1 vs2 : List Value) (h0 : Heap) (n0 : Nat) (Z0 : n0 ≤ h0.size) (FD : Fld Z h0 o1 "com/example/tempora/tempora/core/Issue" "designation" "Ljava/lang/String;" (.ref s1)) (FA : Fld Z h0 o1 "com/example/tempora/tempora/core/Issue" "date" "Ljava/lang/String;" (.ref s2)) (E1 : Exa Z h0 s1 "java/lang/String") (E2 : Exa Z h0 s2 "java/lang/String") (F1 : Fld Z h0 s1 "java/lang/String" "value" "[B" (.ref t1)) (F2 : Fld Z h0 s2 "java/lang/String" "value" "[B" (.ref t2)) (V1 : Arv Z h0 t1 k1 .byte (2 : Int32) vs1 (.int (0 : Int32))) (V2 : Arv Z h0 t2 k2 .byte (2 : Int32) vs2 (.int (0 : Int32))) :
    MetFree l (⟨"com/example/tempora/tempora/core/Issue", "isGiven", "()Z"⟩ : MethodName) (head1 (Jvm.Cond.code (⟨"com/example/tempora/tempora/core/Issue", "isGiven", "()Z"⟩ : MethodName) prog_18_method_2_code 1 (some .boolean) :: ws) ({ frames := 1, cells := 0, slots := 0, locals := 12 } : Room)) (fun a U => a = #[(.ref o1)] ∧ Z.Warmed39 U.vm ∧ U.heap = h0) (fun _ _ _ _ _ => True) (fun _ U o U' => ∃ v L, o = .returned v ∧ Q_own_ig22 Z o1 s1 s2 t1 t2 k1 k2 vs1 vs2 h0 n0 v U'.heap L ∧ FrameEnd U o U' L ({ frames := 1, cells := 0, slots := 0, locals := 12 } : Room).cells ({ frames := 1, cells := 0, slots := 0, locals := 12 } : Room).slots) := by
  refine MetFree.of_bodySF (plainFor_of_name own_pn_com_example_tempora_tempora_core_Issue) hisR ?_
  intro p e s m args below meth c s₁ Bd hml0 hP hK
  obtain ⟨rfl, hZ, hh⟩ := hP
  have hx := Bd.exec
  have hby := Bd.bytes
  have hml : c.maxLocals = 1 := hml0
  have hown : s.vm.findClass "com/example/tempora/tempora/core/Issue" = some m.cls := findClass_of_methodNamed Bd.named
  have hnm := (name_of_methodNamed Bd.named Bd.method).1
  have hlk : meth.locks = false := BodyLoose.notSynchronized Bd
  have X0 : Stand p l e ({ frames := 1, cells := 0, slots := 0, locals := 12 } : Room) s m #[(.ref o1)] below meth c s₁ [] 0 0 := Stand.of_body Bd
  have e0 : s₁.heap = h0 := by rw [← hh, Bd.state]; rfl
  have N0 := Fr.nil n0
  show own_Go p e below #[(.ref o1)] s (fun _ U o U' => ∃ v L, o = .returned v ∧ Q_own_ig22 Z o1 s1 s2 t1 t2 k1 k2 vs1 vs2 h0 n0 v U'.heap L ∧ FrameEnd U o U' L ({ frames := 1, cells := 0, slots := 0, locals := 12 } : Room).cells ({ frames := 1, cells := 0, slots := 0, locals := 12 } : Room).slots) (s₁.setTop (entryFrame m #[(.ref o1)] 1))
  refine own_st (V := s₁.setTop (mkF m 0 #[.val (.ref o1)] [])) (fun t k => castTop (by first | (simp [entryFrame, mkF, argsToLocals, Value.category]; done) | rfl) k) ?_
  refine own_st (V := s₁.setTop (mkF m 1 #[.val (.ref o1)] [(.ref o1)])) (fun t k => XS.aloadN X0.here hx rfl (hb hby own_d7_0) rfl rfl k) ?_
  obtain ⟨T87, X87, e87, st87⟩ := getF X0 hx hZ hown (host := "") (Or.inl (hw _ (List.mem_of_getElem? (i := 38) rfl))) Via.refl e0 FD (g := (mkF m 1 #[.val (.ref o1)] [(.ref o1)])) rfl rfl (hb hby own_d7_1)
  refine own_st (V := T87.setTop (mkF m 4 #[.val (.ref o1)] [(.ref s1)])) (fun t k => st87 _ k) ?_
  obtain ⟨cq88, kq88, q88a, q88b, q88c⟩ := isOf hZ e87 E1
  obtain ⟨_, _, ⟨T88, L88, k88, n88⟩, -, X88, ⟨Lc88, hQ88, l88, y88, z88⟩, st88⟩ := X87.virtualBack hx (y := (⟨"java/lang/String", "isEmpty", "()Z"⟩ : MethodName)) (z := (⟨"java/lang/String", "isEmpty", "()Z"⟩ : MethodName)) hown (mvT hZ (hw _ (List.mem_of_getElem? (i := 47) rfl))) (mvT hZ (hw _ (List.mem_of_getElem? (i := 48) rfl))) (notFace_of_selects (args := #[]) (mvT hZ (hw _ (List.mem_of_getElem? (i := 50) rfl)))) (mvT hZ (hw _ (List.mem_of_getElem? (i := 50) rfl))) (mvT hZ (hw _ (List.mem_of_getElem? (i := 49) rfl))) (by decide) (backOf (W := 0) (own_ie2 l Z a0 hw [] s1 t1 k1 vs1 h0 n0 Z0 F1 V1) hZ (hw _ (List.mem_of_getElem? (i := 51) rfl)) (hw _ (List.mem_of_getElem? (i := 6) rfl)) (by decide) (by decide)) q88a q88c (g := (mkF m 4 #[.val (.ref o1)] [(.ref s1)])) rfl (by rw [hml]; rfl) (Steps.refl _) (argsL := []) (rest := []) (lenOf own_pd6 rfl) rfl (by show 2 * 0 + _ ≤ _; exact Nat.le_of_eq rfl) (hb hby own_d7_4) (fun _ _ => ⟨rfl, e87, (by decide : 0 + 0 ≤ _), (by decide : 0 + 0 ≤ _)⟩)
  dsimp only [Pt.U, Pt.locs, Pt.cells, Pt.slots] at X88 l88 y88 z88 st88 hQ88
  subst l88 y88 z88
  obtain ⟨rfl, N88q, e88⟩ := hQ88
  have N88 := Fr.app N0 N88q
  refine own_st (V := T88.setTop (mkF m 7 #[.val (.ref o1)] [(.int (0 : Int32))])) (fun t k => st88.trans k) ?_
  refine own_st (V := T88.setTop (mkF m 20 #[.val (.ref o1)] [])) (fun t k => XS.ifYes X88.here hx rfl (pc0 := 7) (pc' := 20) rfl (hb hby own_d7_7) rfl ((if0 _ _).trans (teq (by decide : (0 : Int32) = (0 : Int32))).1) (by decide) (by decide) k) ?_
  refine own_st (V := T88.setTop (mkF m 21 #[.val (.ref o1)] [(.int (1 : Int32))])) (fun t k => XS.iconst X88.here hx rfl (hb hby own_d7_20) k) ?_
  refine own_st (V := T88.setTop (mkF m 25 #[.val (.ref o1)] [(.int (1 : Int32))])) (fun t k => XS.goto X88.here hx rfl (pc0 := 21) (pc' := 25) rfl (hb hby own_d7_21) (by decide) (by decide) k) ?_
  exact own_ret X88 hx hlk Bd.returns (by decide +kernel) (Or.inl ⟨rfl, by simp, _, rfl⟩) (hb hby own_d7_25) (by decide) (by decide) (by show Q_own_ig22 Z o1 s1 s2 t1 t2 k1 k2 vs1 vs2 h0 n0 _ T88.heap _; rw [e88]; exact ⟨rfl, N88, rfl⟩)
theorem own_c (x : Int32) : (x &&& (3 : Int32)) = (0 : Int32) ∨ (x &&& (3 : Int32)) = (1 : Int32) ∨ (x &&& (3 : Int32)) = (2 : Int32) ∨ (x &&& (3 : Int32)) = (3 : Int32) := by
  have h := c_mask x 3 2 (by decide) (by decide)
  have e : ∀ k : Int32, (x &&& (3 : Int32)).toInt = k.toInt → (x &&& (3 : Int32)) = k := fun k q => Int32.toInt_inj.mp q
  have b : (x &&& (3 : Int32)).toInt = 0 ∨ (x &&& (3 : Int32)).toInt = 1 ∨ (x &&& (3 : Int32)).toInt = 2 ∨ (x &&& (3 : Int32)).toInt = 3 := by omega
  rcases b with b | b | b | b
  · exact Or.inl (e 0 b)
  · exact Or.inr (Or.inl (e 1 b))
  · exact Or.inr (Or.inr (Or.inl (e 2 b)))
  · exact Or.inr (Or.inr (Or.inr (e 3 b)))
def own_Q0 (Z : State) (p1 p2 p3 p4 p5 cs : Int32) (h0 : Heap) (n0 : Nat) (v : Option Value) (h : Heap) (L : List Loc) : Prop := v = some (.int (1 : Int32)) ∧ Fr n0 L
theorem own_pd7 : parseMethodDescriptor "(III)Ljava/lang/String;" = some ⟨[.int, .int, .int], some (.object "java/lang/String")⟩ := by decide +kernel
theorem own_pd8 : parseMethodDescriptor "(Ljava/lang/String;Ljava/lang/String;)V" = some ⟨[(.object "java/lang/String"), (.object "java/lang/String")], none⟩ := by decide +kernel
set_option maxRecDepth 65536 in
set_option maxHeartbeats 40000000 in
theorem own_law0 (l : Launch) (Z : State) (a0 : Array Value) (hw : ∀ d ∈ tables_1, d.before a0 Z = true) (ws : List Jvm.Cond) (p1 p2 p3 p4 p5 cs : Int32) (h0 : Heap) (n0 : Nat) (Z0 : n0 ≤ h0.size) (Od : Old Z n0 h0) (SC : Sta Z Z.heap "java/lang/String" "COMPACT_STRINGS" "Z" (.int cs)) (hcs : ¬ (cs = (0 : Int32))) (hk : (p1 &&& (3 : Int32)) = (0 : Int32)) :
    MetFree l x (head1 (Jvm.Cond.code x code maxLocals ret :: ws) room_1) (fun a U => a = #[(.int p1), (.int p2), (.int p3), (.int p4), (.int p5)] ∧ Z.Warmed39 U.vm ∧ U.heap = h0 ∧ CHv Z own_EL U.vm h0) (fun _ _ _ _ _ => True) (fun _ U o U' => ∃ v L, o = .returned v ∧ own_Q0 Z p1 p2 p3 p4 p5 cs h0 n0 v U'.heap L ∧ ReturnedEndW U o U' L room_1.cells room_1.slots) := by
  refine MetFree.of_bodySF (plainFor_of_name own_pn_com_example_tempora_tempora_core_IssueIsGivenPinLaw) hisR ?_
  intro p e s m args below meth c s₁ Bd hml0 hP hK
  obtain ⟨rfl, hZ, hh, hC0⟩ := hP
  have hx := Bd.exec
  have hby := Bd.bytes
  have hml : c.maxLocals = 11 := hml0
  have hown : s.vm.findClass "com/example/tempora/tempora/core/IssueIsGivenPinLaw" = some m.cls := findClass_of_methodNamed Bd.named
  have hnm := (name_of_methodNamed Bd.named Bd.method).1
  have hlk : meth.locks = false := BodyLoose.notSynchronized Bd
  have X0 : Stand p l e room_1 (s.setVm s.vm) m #[(.int p1), (.int p2), (.int p3), (.int p4), (.int p5)] below meth c s₁ [] 0 0 := Stand.of_body Bd
  have hZ : Z.Warmed39 (s.setVm s.vm).vm := hZ
  have hown : (s.setVm s.vm).vm.findClass "com/example/tempora/tempora/core/IssueIsGivenPinLaw" = some m.cls := hown
  have hSi : s.Since s.vm 0 := (State.WarmedH.refl s).since 0
  have kz : 0 ≤ h0.size := Nat.zero_le _
  have hEL := own_ew hw
  have Cr : CHr Z own_EL s.vm h0 s.vm h0 := CHr.refl hC0
  have e0 : s₁.heap = h0 := by rw [← hh, Bd.state]; rfl
  have N0 := Fr.nil n0
  show own_Go p e below #[(.int p1), (.int p2), (.int p3), (.int p4), (.int p5)] s (fun _ U o U' => ∃ v L, o = .returned v ∧ own_Q0 Z p1 p2 p3 p4 p5 cs h0 n0 v U'.heap L ∧ ReturnedEndW U o U' L room_1.cells room_1.slots) (s₁.setTop (entryFrame m #[(.int p1), (.int p2), (.int p3), (.int p4), (.int p5)] maxLocals))
  refine own_st (V := s₁.setTop (mkF m 0 #[.val (.int p1), .val (.int p2), .val (.int p3), .val (.int p4), .val (.int p5), .unset, .unset, .unset, .unset, .unset, .unset] [])) (fun t k => castTop (by first | (simp [entryFrame, mkF, argsToLocals, Value.category, maxLocals]; done) | rfl) k) ?_
  refine own_st (V := s₁.setTop (mkF m 1 #[.val (.int p1), .val (.int p2), .val (.int p3), .val (.int p4), .val (.int p5), .unset, .unset, .unset, .unset, .unset, .unset] [(.int p1)])) (fun t k => XS.iloadN X0.here hx rfl (hb hby at_0) rfl k) ?_
  refine own_st (V := s₁.setTop (mkF m 2 #[.val (.int p1), .val (.int p2), .val (.int p3), .val (.int p4), .val (.int p5), .unset, .unset, .unset, .unset, .unset, .unset] [(.int (3 : Int32)), (.int p1)])) (fun t k => XS.iconst X0.here hx rfl (hb hby at_1) k) ?_
  refine own_st (V := s₁.setTop (mkF m 3 #[.val (.int p1), .val (.int p2), .val (.int p3), .val (.int p4), .val (.int p5), .unset, .unset, .unset, .unset, .unset, .unset] [(.int (p1 &&& (3 : Int32)))])) (fun t k => XS.iand X0.here hx rfl (hb hby at_2) rfl k) ?_
  rw [hk]
  refine own_st (V := s₁.setTop (mkF m 5 #[.val (.int p1), .val (.int p2), .val (.int p3), .val (.int p4), .val (.int p5), .val (.int (0 : Int32)), .unset, .unset, .unset, .unset, .unset] [])) (fun t k => XS.istore X0.here hx rfl (hb hby at_3) rfl (l' := #[.val (.int p1), .val (.int p2), .val (.int p3), .val (.int p4), .val (.int p5), .val (.int (0 : Int32)), .unset, .unset, .unset, .unset, .unset]) rfl k) ?_
  refine own_st (V := s₁.setTop (mkF m 6 #[.val (.int p1), .val (.int p2), .val (.int p3), .val (.int p4), .val (.int p5), .val (.int (0 : Int32)), .unset, .unset, .unset, .unset, .unset] [(.int p1)])) (fun t k => XS.iloadN X0.here hx rfl (hb hby at_5) rfl k) ?_
  refine own_st (V := s₁.setTop (mkF m 7 #[.val (.int p1), .val (.int p2), .val (.int p3), .val (.int p4), .val (.int p5), .val (.int (0 : Int32)), .unset, .unset, .unset, .unset, .unset] [(.int (2 : Int32)), (.int p1)])) (fun t k => XS.iconst X0.here hx rfl (hb hby at_6) k) ?_
  refine own_st (V := s₁.setTop (mkF m 8 #[.val (.int p1), .val (.int p2), .val (.int p3), .val (.int p4), .val (.int p5), .val (.int (0 : Int32)), .unset, .unset, .unset, .unset, .unset] [(.int ((p1.toUInt32 >>> ((2 : Int32) &&& 31).toUInt32).toInt32))])) (fun t k => XS.iushr X0.here hx rfl (hb hby at_7) rfl k) ?_
  refine own_st (V := s₁.setTop (mkF m 9 #[.val (.int p1), .val (.int p2), .val (.int p3), .val (.int p4), .val (.int p5), .val (.int (0 : Int32)), .unset, .unset, .unset, .unset, .unset] [(.int (3 : Int32)), (.int ((p1.toUInt32 >>> ((2 : Int32) &&& 31).toUInt32).toInt32))])) (fun t k => XS.iconst X0.here hx rfl (hb hby at_8) k) ?_
  refine own_st (V := s₁.setTop (mkF m 10 #[.val (.int p1), .val (.int p2), .val (.int p3), .val (.int p4), .val (.int p5), .val (.int (0 : Int32)), .unset, .unset, .unset, .unset, .unset] [(.int (((p1.toUInt32 >>> ((2 : Int32) &&& 31).toUInt32).toInt32) &&& (3 : Int32)))])) (fun t k => XS.iand X0.here hx rfl (hb hby at_9) rfl k) ?_
  rcases own_c ((p1.toUInt32 >>> ((2 : Int32) &&& 31).toUInt32).toInt32) with h2 | h2 | h2 | h2
  · rw [h2]
    refine own_st (V := s₁.setTop (mkF m 12 #[.val (.int p1), .val (.int p2), .val (.int p3), .val (.int p4), .val (.int p5), .val (.int (0 : Int32)), .val (.int (0 : Int32)), .unset, .unset, .unset, .unset] [])) (fun t k => XS.istore X0.here hx rfl (hb hby at_10) rfl (l' := #[.val (.int p1), .val (.int p2), .val (.int p3), .val (.int p4), .val (.int p5), .val (.int (0 : Int32)), .val (.int (0 : Int32)), .unset, .unset, .unset, .unset]) rfl k) ?_
    refine own_st (V := s₁.setTop (mkF m 14 #[.val (.int p1), .val (.int p2), .val (.int p3), .val (.int p4), .val (.int p5), .val (.int (0 : Int32)), .val (.int (0 : Int32)), .unset, .unset, .unset, .unset] [(.int (0 : Int32))])) (fun t k => XS.iload X0.here hx rfl (hb hby at_12) rfl k) ?_
    refine own_st (V := s₁.setTop (mkF m 15 #[.val (.int p1), .val (.int p2), .val (.int p3), .val (.int p4), .val (.int p5), .val (.int (0 : Int32)), .val (.int (0 : Int32)), .unset, .unset, .unset, .unset] [(.int p2), (.int (0 : Int32))])) (fun t k => XS.iloadN X0.here hx rfl (hb hby at_14) rfl k) ?_
    refine own_st (V := s₁.setTop (mkF m 16 #[.val (.int p1), .val (.int p2), .val (.int p3), .val (.int p4), .val (.int p5), .val (.int (0 : Int32)), .val (.int (0 : Int32)), .unset, .unset, .unset, .unset] [(.int p3), (.int p2), (.int (0 : Int32))])) (fun t k => XS.iloadN X0.here hx rfl (hb hby at_15) rfl k) ?_
    obtain ⟨_, _, ⟨T89, L89, k89, n89⟩, -, X89, hSi89, hgr89, ⟨Lc89, hQ89, l89, y89, z89, hCr89⟩, st89⟩ := Jvm.RoadKit.callSS X0 hx (y := (⟨"com/example/tempora/tempora/core/IssueIsGivenPinLaw", "str", "(III)Ljava/lang/String;"⟩ : MethodName)) hown (mvT hZ (hw _ (List.mem_of_getElem? (i := 0) rfl))) (mvT hZ (hw _ (List.mem_of_getElem? (i := 1) rfl))) (mvT hZ (hw _ (List.mem_of_getElem? (i := 2) rfl))) (mvT hZ (hw _ (List.mem_of_getElem? (i := 3) rfl))) (by decide) (backOfSH (s := s) (vm0 := s.vm) (W := 0) (own_str0 l Z a0 hw [] p2 p3 h0 n0 Z0 ) hZ (hw _ (List.mem_of_getElem? (i := 3) rfl)) (hw _ (List.mem_of_getElem? (i := 2) rfl)) (by decide) (by decide) hEL Cr.1) (g := (mkF m 16 #[.val (.int p1), .val (.int p2), .val (.int p3), .val (.int p4), .val (.int p5), .val (.int (0 : Int32)), .val (.int (0 : Int32)), .unset, .unset, .unset, .unset] [(.int p3), (.int p2), (.int (0 : Int32))])) rfl (by rw [hml]; rfl) (argsL := [(.int (0 : Int32)), (.int p2), (.int p3)]) (rest := []) (lenOf own_pd7 rfl) rfl (by show 2 * 0 + _ ≤ _; exact Nat.le_of_eq rfl) (hb hby at_16) (fun _ _ => ⟨rfl, e0, (by decide : 0 + 6 ≤ _), (by decide : 0 + 12 ≤ _)⟩)
    dsimp only [Pt.U, Pt.locs, Pt.cells, Pt.slots] at X89 l89 y89 z89 st89 hQ89
    subst l89 y89 z89
    dsimp only [Pt.U] at hSi89 hgr89 hCr89
    obtain ⟨s89, rfl, N89q, K89, Ex89_q, t89, kt89, vst89, Fq89_0, Vq89⟩ := hQ89
    have N89 := Fr.app N0 N89q
    have Z0_89 : n0 ≤ T89.heap.size := Nat.le_trans Z0 K89.1
    have Od89 := Od.keep K89 all0
    have kz_89 : 0 ≤ T89.heap.size := Nat.le_trans kz K89.1
    have hZ_89 : Z.Warmed39 (s.setVm T89.vm).vm := State.Warmed39.trans hZ hSi89.1
    have hown_89 : (s.setVm T89.vm).vm.findClass "com/example/tempora/tempora/core/IssueIsGivenPinLaw" = some m.cls := by rw [show (s.setVm T89.vm).vm = T89.vm from rfl, hSi89.1.alike.findClass]; exact hown
    have hS_89 : s.Since T89.vm T89.heap.size := foldS (s := s) hSi (by rw [e0]; exact kz) hSi89 hgr89
    have X89 : Stand p l e _ (s.setVm T89.vm) m _ below meth c T89 _ _ _ := X89
    have kz_89 : T89.heap.size ≤ T89.heap.size := Nat.le_refl _
    have Cr_89 := Cr.trans hCr89
    refine own_st (V := T89.setTop (mkF m 19 #[.val (.int p1), .val (.int p2), .val (.int p3), .val (.int p4), .val (.int p5), .val (.int (0 : Int32)), .val (.int (0 : Int32)), .unset, .unset, .unset, .unset] [(.ref s89)])) (fun t k => st89.trans k) ?_
    refine own_st (V := T89.setTop (mkF m 21 #[.val (.int p1), .val (.int p2), .val (.int p3), .val (.int p4), .val (.int p5), .val (.int (0 : Int32)), .val (.int (0 : Int32)), .val (.ref s89), .unset, .unset, .unset] [])) (fun t k => XS.astore X89.here hx rfl (hb hby at_19) rfl rfl (l' := #[.val (.int p1), .val (.int p2), .val (.int p3), .val (.int p4), .val (.int p5), .val (.int (0 : Int32)), .val (.int (0 : Int32)), .val (.ref s89), .unset, .unset, .unset]) rfl k) ?_
    refine own_st (V := T89.setTop (mkF m 23 #[.val (.int p1), .val (.int p2), .val (.int p3), .val (.int p4), .val (.int p5), .val (.int (0 : Int32)), .val (.int (0 : Int32)), .val (.ref s89), .unset, .unset, .unset] [(.int (0 : Int32))])) (fun t k => XS.iload X89.here hx rfl (hb hby at_21) rfl k) ?_
    refine own_st (V := T89.setTop (mkF m 24 #[.val (.int p1), .val (.int p2), .val (.int p3), .val (.int p4), .val (.int p5), .val (.int (0 : Int32)), .val (.int (0 : Int32)), .val (.ref s89), .unset, .unset, .unset] [(.int p4), (.int (0 : Int32))])) (fun t k => XS.iloadN X89.here hx rfl (hb hby at_23) rfl k) ?_
    refine own_st (V := T89.setTop (mkF m 26 #[.val (.int p1), .val (.int p2), .val (.int p3), .val (.int p4), .val (.int p5), .val (.int (0 : Int32)), .val (.int (0 : Int32)), .val (.ref s89), .unset, .unset, .unset] [(.int p5), (.int p4), (.int (0 : Int32))])) (fun t k => XS.iload X89.here hx rfl (hb hby at_24) rfl k) ?_
    obtain ⟨_, _, ⟨T90, L90, k90, n90⟩, -, X90, hSi90, hgr90, ⟨Lc90, hQ90, l90, y90, z90, hCr90⟩, st90⟩ := Jvm.RoadKit.callSS X89 hx (y := (⟨"com/example/tempora/tempora/core/IssueIsGivenPinLaw", "str", "(III)Ljava/lang/String;"⟩ : MethodName)) hown_89 (mvT hZ_89 (hw _ (List.mem_of_getElem? (i := 0) rfl))) (mvT hZ_89 (hw _ (List.mem_of_getElem? (i := 1) rfl))) (mvT hZ_89 (hw _ (List.mem_of_getElem? (i := 2) rfl))) (mvT hZ_89 (hw _ (List.mem_of_getElem? (i := 3) rfl))) (by decide) (backOfSH (s := s) (vm0 := T89.vm) (W := 0) (own_str0 l Z a0 hw [] p4 p5 T89.heap n0 Z0_89 ) hZ_89 (hw _ (List.mem_of_getElem? (i := 3) rfl)) (hw _ (List.mem_of_getElem? (i := 2) rfl)) (by decide) (by decide) hEL Cr_89.1) (g := (mkF m 26 #[.val (.int p1), .val (.int p2), .val (.int p3), .val (.int p4), .val (.int p5), .val (.int (0 : Int32)), .val (.int (0 : Int32)), .val (.ref s89), .unset, .unset, .unset] [(.int p5), (.int p4), (.int (0 : Int32))])) rfl (by rw [hml]; rfl) (argsL := [(.int (0 : Int32)), (.int p4), (.int p5)]) (rest := []) (lenOf own_pd7 rfl) rfl (by show 2 * 0 + _ ≤ _; exact Nat.le_of_eq rfl) (hb hby at_26) (fun _ _ => ⟨rfl, rfl, (by decide : 6 + 6 ≤ _), (by decide : 12 + 12 ≤ _)⟩)
    dsimp only [Pt.U, Pt.locs, Pt.cells, Pt.slots] at X90 l90 y90 z90 st90 hQ90
    subst l90 y90 z90
    dsimp only [Pt.U] at hSi90 hgr90 hCr90
    obtain ⟨s90, rfl, N90q, K90, Ex90_q, t90, kt90, vst90, Fq90_0, Vq90⟩ := hQ90
    have N90 := Fr.app N89 N90q
    have Z0_90 : n0 ≤ T90.heap.size := Nat.le_trans Z0_89 K90.1
    have F90_s89_value := Fq89_0.keep K90 nin0
    have Ex90_s89 := Ex89_q.keep K90
    have V90_t89 := Vq89.keep K90 nin0
    have Od90 := Od89.keep K90 all0
    have kz_90 : T89.heap.size ≤ T90.heap.size := Nat.le_trans kz_89 K90.1
    have hZ_90 : Z.Warmed39 (s.setVm T90.vm).vm := State.Warmed39.trans hZ_89 hSi90.1
    have hown_90 : (s.setVm T90.vm).vm.findClass "com/example/tempora/tempora/core/IssueIsGivenPinLaw" = some m.cls := by rw [show (s.setVm T90.vm).vm = T90.vm from rfl, hSi90.1.alike.findClass]; exact hown_89
    have hS_90 : s.Since T90.vm T90.heap.size := foldS (s := s) hS_89 kz_89 hSi90 hgr90
    have X90 : Stand p l e _ (s.setVm T90.vm) m _ below meth c T90 _ _ _ := X90
    have kz_90 : T90.heap.size ≤ T90.heap.size := Nat.le_refl _
    have Cr_90 := Cr_89.trans hCr90
    refine own_st (V := T90.setTop (mkF m 29 #[.val (.int p1), .val (.int p2), .val (.int p3), .val (.int p4), .val (.int p5), .val (.int (0 : Int32)), .val (.int (0 : Int32)), .val (.ref s89), .unset, .unset, .unset] [(.ref s90)])) (fun t k => st90.trans k) ?_
    refine own_st (V := T90.setTop (mkF m 31 #[.val (.int p1), .val (.int p2), .val (.int p3), .val (.int p4), .val (.int p5), .val (.int (0 : Int32)), .val (.int (0 : Int32)), .val (.ref s89), .val (.ref s90), .unset, .unset] [])) (fun t k => XS.astore X90.here hx rfl (hb hby at_29) rfl rfl (l' := #[.val (.int p1), .val (.int p2), .val (.int p3), .val (.int p4), .val (.int p5), .val (.int (0 : Int32)), .val (.int (0 : Int32)), .val (.ref s89), .val (.ref s90), .unset, .unset]) rfl k) ?_
    obtain ⟨T91, h91, X91, e91, E91, A91, D91, -, st91⟩ := newO X90 hx hZ_90 hown_90 (hw _ (List.mem_of_getElem? (i := 26) rfl)) (hw _ (List.mem_of_getElem? (i := 27) rfl)) (hw _ (List.mem_of_getElem? (i := 28) rfl)) rfl (g := (mkF m 31 #[.val (.int p1), .val (.int p2), .val (.int p3), .val (.int p4), .val (.int p5), .val (.int (0 : Int32)), .val (.int (0 : Int32)), .val (.ref s89), .val (.ref s90), .unset, .unset] [])) rfl (hb hby at_31) (by decide) (by decide)
    obtain ⟨b91, g91⟩ : ∃ z, z = T90.heap.size := ⟨_, rfl⟩
    rw [← g91] at A91 D91 st91
    have gb_b91 : n0 ≤ b91 := Nat.le_trans Z0_90 (Nat.le_of_eq g91.symm)
    have Z0_91 : n0 ≤ h91.size := Nat.le_trans Z0_90 E91.1
    have ne_t89_b91 : t89 ≠ b91 := Nat.ne_of_lt (Nat.lt_of_lt_of_le V90_t89.lt (Nat.le_of_eq g91.symm))
    have ne_t90_b91 : t90 ≠ b91 := Nat.ne_of_lt (Nat.lt_of_lt_of_le Vq90.lt (Nat.le_of_eq g91.symm))
    have ne_s89_b91 : s89 ≠ b91 := Nat.ne_of_lt (Nat.lt_of_lt_of_le Ex90_s89.lt (Nat.le_of_eq g91.symm))
    have ne_s90_b91 : s90 ≠ b91 := Nat.ne_of_lt (Nat.lt_of_lt_of_le Ex90_q.lt (Nat.le_of_eq g91.symm))
    have F91_s89_value := F90_s89_value.ext E91
    have F91_s90_value := Fq90_0.ext E91
    have Ex91_s89 := Ex90_s89.ext E91
    have Ex91_s90 := Ex90_q.ext E91
    have V91_t89 := V90_t89.ext E91
    have V91_t90 := Vq90.ext E91
    have Od91 := Od90.ext E91
    have kz_91 : T90.heap.size ≤ h91.size := Nat.le_trans kz_90 E91.1
    have Cr_91 := Cr_90.trans (CHr.ext E91 Cr_90.1)
    have F91_b91_designation : Fld Z h91 b91 "com/example/tempora/tempora/core/Issue" "designation" "Ljava/lang/String;" .null := D91 (Or.inr (hw _ (List.mem_of_getElem? (i := 39) rfl))) (ty := (.object "java/lang/String")) (by decide)
    have F91_b91_date : Fld Z h91 b91 "com/example/tempora/tempora/core/Issue" "date" "Ljava/lang/String;" .null := D91 (Or.inr (hw _ (List.mem_of_getElem? (i := 41) rfl))) (ty := (.object "java/lang/String")) (by decide)
    refine own_st (V := T91.setTop (mkF m 34 #[.val (.int p1), .val (.int p2), .val (.int p3), .val (.int p4), .val (.int p5), .val (.int (0 : Int32)), .val (.int (0 : Int32)), .val (.ref s89), .val (.ref s90), .unset, .unset] [(.ref b91)])) (fun t k => st91 _ k) ?_
    refine own_st (V := T91.setTop (mkF m 35 #[.val (.int p1), .val (.int p2), .val (.int p3), .val (.int p4), .val (.int p5), .val (.int (0 : Int32)), .val (.int (0 : Int32)), .val (.ref s89), .val (.ref s90), .unset, .unset] [(.ref b91), (.ref b91)])) (fun t k => XS.dup X91.here hx rfl (hb hby at_34) rfl rfl k) ?_
    refine own_st (V := T91.setTop (mkF m 37 #[.val (.int p1), .val (.int p2), .val (.int p3), .val (.int p4), .val (.int p5), .val (.int (0 : Int32)), .val (.int (0 : Int32)), .val (.ref s89), .val (.ref s90), .unset, .unset] [(.ref s89), (.ref b91), (.ref b91)])) (fun t k => XS.aload X91.here hx rfl (hb hby at_35) rfl rfl k) ?_
    refine own_st (V := T91.setTop (mkF m 39 #[.val (.int p1), .val (.int p2), .val (.int p3), .val (.int p4), .val (.int p5), .val (.int (0 : Int32)), .val (.int (0 : Int32)), .val (.ref s89), .val (.ref s90), .unset, .unset] [(.ref s90), (.ref s89), (.ref b91), (.ref b91)])) (fun t k => XS.aload X91.here hx rfl (hb hby at_37) rfl rfl k) ?_
    obtain ⟨_, _, ⟨T92, L92, k92, n92⟩, -, X92, ⟨Lc92, hQ92, l92, y92, z92⟩, st92⟩ := X91.specialBack hx (y := (⟨"com/example/tempora/tempora/core/Issue", "<init>", "(Ljava/lang/String;Ljava/lang/String;)V"⟩ : MethodName)) rfl hown_90 (mvT hZ_90 (hw _ (List.mem_of_getElem? (i := 29) rfl))) (mvT hZ_90 (hw _ (List.mem_of_getElem? (i := 30) rfl))) (mvT hZ_90 (hw _ (List.mem_of_getElem? (i := 31) rfl))) (by decide) (backOf (W := 1) (own_ii l Z a0 hw [] b91 s89 s90 h91 n0 Z0_91 F91_b91_designation F91_b91_date A91 gb_b91) hZ_90 (hw _ (List.mem_of_getElem? (i := 31) rfl)) (hw _ (List.mem_of_getElem? (i := 28) rfl)) (by decide) (by decide)) (g := (mkF m 39 #[.val (.int p1), .val (.int p2), .val (.int p3), .val (.int p4), .val (.int p5), .val (.int (0 : Int32)), .val (.int (0 : Int32)), .val (.ref s89), .val (.ref s90), .unset, .unset] [(.ref s90), (.ref s89), (.ref b91), (.ref b91)])) rfl (by rw [hml]; rfl) (Steps.refl _) (a := b91) (argsL := [(.ref s89), (.ref s90)]) (rest := [(.ref b91)]) (lenOf own_pd8 rfl) rfl (by show 2 * 0 + _ ≤ _; exact Nat.le_of_eq rfl) (hb hby at_39) (fun _ _ => ⟨rfl, e91, (by decide : 13 + 0 ≤ _), (by decide : 26 + 0 ≤ _)⟩)
    dsimp only [Pt.U, Pt.locs, Pt.cells, Pt.slots] at X92 l92 y92 z92 st92 hQ92
    subst l92 y92 z92
    obtain ⟨rfl, N92q, K92, Ex92_q, Fq92_0, Fq92_1⟩ := hQ92
    have N92 := Fr.app N90 N92q
    have Z0_92 : n0 ≤ T92.heap.size := Nat.le_trans Z0_91 K92.1
    have F92_s89_value := F91_s89_value.keep K92 (ninS ne_s89_b91 nin0)
    have F92_s90_value := F91_s90_value.keep K92 (ninS ne_s90_b91 nin0)
    have Ex92_s89 := Ex91_s89.keep K92
    have Ex92_s90 := Ex91_s90.keep K92
    have Ex92_b91 := A91.keep K92
    have V92_t89 := V91_t89.keep K92 (ninS ne_t89_b91 nin0)
    have V92_t90 := V91_t90.keep K92 (ninS ne_t90_b91 nin0)
    have Od92 := Od91.keep K92 (allS gb_b91 all0)
    have kz_92 : T90.heap.size ≤ T92.heap.size := Nat.le_trans kz_91 K92.1
    refine own_st (V := T92.setTop (mkF m 42 #[.val (.int p1), .val (.int p2), .val (.int p3), .val (.int p4), .val (.int p5), .val (.int (0 : Int32)), .val (.int (0 : Int32)), .val (.ref s89), .val (.ref s90), .unset, .unset] [(.ref b91)])) (fun t k => st92.trans k) ?_
    refine own_st (V := T92.setTop (mkF m 44 #[.val (.int p1), .val (.int p2), .val (.int p3), .val (.int p4), .val (.int p5), .val (.int (0 : Int32)), .val (.int (0 : Int32)), .val (.ref s89), .val (.ref s90), .val (.ref b91), .unset] [])) (fun t k => XS.astore X92.here hx rfl (hb hby at_42) rfl rfl (l' := #[.val (.int p1), .val (.int p2), .val (.int p3), .val (.int p4), .val (.int p5), .val (.int (0 : Int32)), .val (.int (0 : Int32)), .val (.ref s89), .val (.ref s90), .val (.ref b91), .unset]) rfl k) ?_
    refine own_st (V := T92.setTop (mkF m 46 #[.val (.int p1), .val (.int p2), .val (.int p3), .val (.int p4), .val (.int p5), .val (.int (0 : Int32)), .val (.int (0 : Int32)), .val (.ref s89), .val (.ref s90), .val (.ref b91), .unset] [(.int (0 : Int32))])) (fun t k => XS.iload X92.here hx rfl (hb hby at_44) rfl k) ?_
    refine own_st (V := T92.setTop (mkF m 49 #[.val (.int p1), .val (.int p2), .val (.int p3), .val (.int p4), .val (.int p5), .val (.int (0 : Int32)), .val (.int (0 : Int32)), .val (.ref s89), .val (.ref s90), .val (.ref b91), .unset] [])) (fun t k => XS.ifNo X92.here hx rfl (hb hby at_46) rfl ((if0 _ _).trans (teq (by decide : (0 : Int32) = (0 : Int32))).2) k) ?_
    refine own_st (V := T92.setTop (mkF m 51 #[.val (.int p1), .val (.int p2), .val (.int p3), .val (.int p4), .val (.int p5), .val (.int (0 : Int32)), .val (.int (0 : Int32)), .val (.ref s89), .val (.ref s90), .val (.ref b91), .unset] [(.int (0 : Int32))])) (fun t k => XS.iload X92.here hx rfl (hb hby at_49) rfl k) ?_
    refine own_st (V := T92.setTop (mkF m 58 #[.val (.int p1), .val (.int p2), .val (.int p3), .val (.int p4), .val (.int p5), .val (.int (0 : Int32)), .val (.int (0 : Int32)), .val (.ref s89), .val (.ref s90), .val (.ref b91), .unset] [])) (fun t k => XS.ifYes X92.here hx rfl (pc0 := 51) (pc' := 58) rfl (hb hby at_51) rfl ((if0 _ _).trans (teq (by decide : (0 : Int32) = (0 : Int32))).1) (by decide) (by decide) k) ?_
    refine own_st (V := T92.setTop (mkF m 59 #[.val (.int p1), .val (.int p2), .val (.int p3), .val (.int p4), .val (.int p5), .val (.int (0 : Int32)), .val (.int (0 : Int32)), .val (.ref s89), .val (.ref s90), .val (.ref b91), .unset] [(.int (0 : Int32))])) (fun t k => XS.iconst X92.here hx rfl (hb hby at_58) k) ?_
    refine own_st (V := T92.setTop (mkF m 61 #[.val (.int p1), .val (.int p2), .val (.int p3), .val (.int p4), .val (.int p5), .val (.int (0 : Int32)), .val (.int (0 : Int32)), .val (.ref s89), .val (.ref s90), .val (.ref b91), .val (.int (0 : Int32))] [])) (fun t k => XS.istore X92.here hx rfl (hb hby at_59) rfl (l' := #[.val (.int p1), .val (.int p2), .val (.int p3), .val (.int p4), .val (.int p5), .val (.int (0 : Int32)), .val (.int (0 : Int32)), .val (.ref s89), .val (.ref s90), .val (.ref b91), .val (.int (0 : Int32))]) rfl k) ?_
    refine own_st (V := T92.setTop (mkF m 63 #[.val (.int p1), .val (.int p2), .val (.int p3), .val (.int p4), .val (.int p5), .val (.int (0 : Int32)), .val (.int (0 : Int32)), .val (.ref s89), .val (.ref s90), .val (.ref b91), .val (.int (0 : Int32))] [(.ref b91)])) (fun t k => XS.aload X92.here hx rfl (hb hby at_61) rfl rfl k) ?_
    obtain ⟨cq93, kq93, q93a, q93b, q93c⟩ := isOf hZ_90 rfl Ex92_q
    obtain ⟨_, _, ⟨T93, L93, k93, n93⟩, -, X93, ⟨Lc93, hQ93, l93, y93, z93⟩, st93⟩ := X92.virtualBack hx (y := (⟨"com/example/tempora/tempora/core/Issue", "isGiven", "()Z"⟩ : MethodName)) (z := (⟨"com/example/tempora/tempora/core/Issue", "isGiven", "()Z"⟩ : MethodName)) hown_90 (mvT hZ_90 (hw _ (List.mem_of_getElem? (i := 42) rfl))) (mvT hZ_90 (hw _ (List.mem_of_getElem? (i := 43) rfl))) (notFace_of_selects (args := #[]) (mvT hZ_90 (hw _ (List.mem_of_getElem? (i := 45) rfl)))) (mvT hZ_90 (hw _ (List.mem_of_getElem? (i := 45) rfl))) (mvT hZ_90 (hw _ (List.mem_of_getElem? (i := 44) rfl))) (by decide) (backOf (W := 0) (own_ig00 l Z a0 hw [] b91 s89 s90 t89 t90 kt89 kt90 vst89 vst90 T92.heap n0 Z0_92 Fq92_0 Fq92_1 Ex92_s89 Ex92_s90 F92_s89_value F92_s90_value V92_t89 V92_t90) hZ_90 (hw _ (List.mem_of_getElem? (i := 46) rfl)) (hw _ (List.mem_of_getElem? (i := 28) rfl)) (by decide) (by decide)) q93a q93c (g := (mkF m 63 #[.val (.int p1), .val (.int p2), .val (.int p3), .val (.int p4), .val (.int p5), .val (.int (0 : Int32)), .val (.int (0 : Int32)), .val (.ref s89), .val (.ref s90), .val (.ref b91), .val (.int (0 : Int32))] [(.ref b91)])) rfl (by rw [hml]; rfl) (Steps.refl _) (argsL := []) (rest := []) (lenOf own_pd6 rfl) rfl (by show 2 * 0 + _ ≤ _; exact Nat.le_of_eq rfl) (hb hby at_63) (fun _ _ => ⟨rfl, rfl, (by decide : 13 + 0 ≤ _), (by decide : 26 + 0 ≤ _)⟩)
    dsimp only [Pt.U, Pt.locs, Pt.cells, Pt.slots] at X93 l93 y93 z93 st93 hQ93
    subst l93 y93 z93
    obtain ⟨rfl, N93q, e93⟩ := hQ93
    have N93 := Fr.app N92 N93q
    refine own_st (V := T93.setTop (mkF m 66 #[.val (.int p1), .val (.int p2), .val (.int p3), .val (.int p4), .val (.int p5), .val (.int (0 : Int32)), .val (.int (0 : Int32)), .val (.ref s89), .val (.ref s90), .val (.ref b91), .val (.int (0 : Int32))] [(.int (0 : Int32))])) (fun t k => st93.trans k) ?_
    refine own_st (V := T93.setTop (mkF m 68 #[.val (.int p1), .val (.int p2), .val (.int p3), .val (.int p4), .val (.int p5), .val (.int (0 : Int32)), .val (.int (0 : Int32)), .val (.ref s89), .val (.ref s90), .val (.ref b91), .val (.int (0 : Int32))] [(.int (0 : Int32)), (.int (0 : Int32))])) (fun t k => XS.iload X93.here hx rfl (hb hby at_66) rfl k) ?_
    refine own_st (V := T93.setTop (mkF m 71 #[.val (.int p1), .val (.int p2), .val (.int p3), .val (.int p4), .val (.int p5), .val (.int (0 : Int32)), .val (.int (0 : Int32)), .val (.ref s89), .val (.ref s90), .val (.ref b91), .val (.int (0 : Int32))] [])) (fun t k => XS.icmpNo X93.here hx rfl (hb hby at_68) rfl (teq (by decide : (0 : Int32) = (0 : Int32))).2 k) ?_
    refine own_st (V := T93.setTop (mkF m 72 #[.val (.int p1), .val (.int p2), .val (.int p3), .val (.int p4), .val (.int p5), .val (.int (0 : Int32)), .val (.int (0 : Int32)), .val (.ref s89), .val (.ref s90), .val (.ref b91), .val (.int (0 : Int32))] [(.int (1 : Int32))])) (fun t k => XS.iconst X93.here hx rfl (hb hby at_71) k) ?_
    refine own_st (V := T93.setTop (mkF m 76 #[.val (.int p1), .val (.int p2), .val (.int p3), .val (.int p4), .val (.int p5), .val (.int (0 : Int32)), .val (.int (0 : Int32)), .val (.ref s89), .val (.ref s90), .val (.ref b91), .val (.int (0 : Int32))] [(.int (1 : Int32))])) (fun t k => XS.goto X93.here hx rfl (pc0 := 72) (pc' := 76) rfl (hb hby at_72) (by decide) (by decide) k) ?_
    exact own_retW (s := s) hS_90 (by rw [e93]; exact kz_92) X93 hx hlk Bd.returns (by decide +kernel) (Or.inl ⟨rfl, by simp, _, rfl⟩) (hb hby at_76) (by decide) (by decide) ⟨rfl, N93⟩
  · rw [h2]
    refine own_st (V := s₁.setTop (mkF m 12 #[.val (.int p1), .val (.int p2), .val (.int p3), .val (.int p4), .val (.int p5), .val (.int (0 : Int32)), .val (.int (1 : Int32)), .unset, .unset, .unset, .unset] [])) (fun t k => XS.istore X0.here hx rfl (hb hby at_10) rfl (l' := #[.val (.int p1), .val (.int p2), .val (.int p3), .val (.int p4), .val (.int p5), .val (.int (0 : Int32)), .val (.int (1 : Int32)), .unset, .unset, .unset, .unset]) rfl k) ?_
    refine own_st (V := s₁.setTop (mkF m 14 #[.val (.int p1), .val (.int p2), .val (.int p3), .val (.int p4), .val (.int p5), .val (.int (0 : Int32)), .val (.int (1 : Int32)), .unset, .unset, .unset, .unset] [(.int (0 : Int32))])) (fun t k => XS.iload X0.here hx rfl (hb hby at_12) rfl k) ?_
    refine own_st (V := s₁.setTop (mkF m 15 #[.val (.int p1), .val (.int p2), .val (.int p3), .val (.int p4), .val (.int p5), .val (.int (0 : Int32)), .val (.int (1 : Int32)), .unset, .unset, .unset, .unset] [(.int p2), (.int (0 : Int32))])) (fun t k => XS.iloadN X0.here hx rfl (hb hby at_14) rfl k) ?_
    refine own_st (V := s₁.setTop (mkF m 16 #[.val (.int p1), .val (.int p2), .val (.int p3), .val (.int p4), .val (.int p5), .val (.int (0 : Int32)), .val (.int (1 : Int32)), .unset, .unset, .unset, .unset] [(.int p3), (.int p2), (.int (0 : Int32))])) (fun t k => XS.iloadN X0.here hx rfl (hb hby at_15) rfl k) ?_
    obtain ⟨_, _, ⟨T94, L94, k94, n94⟩, -, X94, hSi94, hgr94, ⟨Lc94, hQ94, l94, y94, z94, hCr94⟩, st94⟩ := Jvm.RoadKit.callSS X0 hx (y := (⟨"com/example/tempora/tempora/core/IssueIsGivenPinLaw", "str", "(III)Ljava/lang/String;"⟩ : MethodName)) hown (mvT hZ (hw _ (List.mem_of_getElem? (i := 0) rfl))) (mvT hZ (hw _ (List.mem_of_getElem? (i := 1) rfl))) (mvT hZ (hw _ (List.mem_of_getElem? (i := 2) rfl))) (mvT hZ (hw _ (List.mem_of_getElem? (i := 3) rfl))) (by decide) (backOfSH (s := s) (vm0 := s.vm) (W := 0) (own_str0 l Z a0 hw [] p2 p3 h0 n0 Z0 ) hZ (hw _ (List.mem_of_getElem? (i := 3) rfl)) (hw _ (List.mem_of_getElem? (i := 2) rfl)) (by decide) (by decide) hEL Cr.1) (g := (mkF m 16 #[.val (.int p1), .val (.int p2), .val (.int p3), .val (.int p4), .val (.int p5), .val (.int (0 : Int32)), .val (.int (1 : Int32)), .unset, .unset, .unset, .unset] [(.int p3), (.int p2), (.int (0 : Int32))])) rfl (by rw [hml]; rfl) (argsL := [(.int (0 : Int32)), (.int p2), (.int p3)]) (rest := []) (lenOf own_pd7 rfl) rfl (by show 2 * 0 + _ ≤ _; exact Nat.le_of_eq rfl) (hb hby at_16) (fun _ _ => ⟨rfl, e0, (by decide : 0 + 6 ≤ _), (by decide : 0 + 12 ≤ _)⟩)
    dsimp only [Pt.U, Pt.locs, Pt.cells, Pt.slots] at X94 l94 y94 z94 st94 hQ94
    subst l94 y94 z94
    dsimp only [Pt.U] at hSi94 hgr94 hCr94
    obtain ⟨s94, rfl, N94q, K94, Ex94_q, t94, kt94, vst94, Fq94_0, Vq94⟩ := hQ94
    have N94 := Fr.app N0 N94q
    have Z0_94 : n0 ≤ T94.heap.size := Nat.le_trans Z0 K94.1
    have Od94 := Od.keep K94 all0
    have kz_94 : 0 ≤ T94.heap.size := Nat.le_trans kz K94.1
    have hZ_94 : Z.Warmed39 (s.setVm T94.vm).vm := State.Warmed39.trans hZ hSi94.1
    have hown_94 : (s.setVm T94.vm).vm.findClass "com/example/tempora/tempora/core/IssueIsGivenPinLaw" = some m.cls := by rw [show (s.setVm T94.vm).vm = T94.vm from rfl, hSi94.1.alike.findClass]; exact hown
    have hS_94 : s.Since T94.vm T94.heap.size := foldS (s := s) hSi (by rw [e0]; exact kz) hSi94 hgr94
    have X94 : Stand p l e _ (s.setVm T94.vm) m _ below meth c T94 _ _ _ := X94
    have kz_94 : T94.heap.size ≤ T94.heap.size := Nat.le_refl _
    have Cr_94 := Cr.trans hCr94
    refine own_st (V := T94.setTop (mkF m 19 #[.val (.int p1), .val (.int p2), .val (.int p3), .val (.int p4), .val (.int p5), .val (.int (0 : Int32)), .val (.int (1 : Int32)), .unset, .unset, .unset, .unset] [(.ref s94)])) (fun t k => st94.trans k) ?_
    refine own_st (V := T94.setTop (mkF m 21 #[.val (.int p1), .val (.int p2), .val (.int p3), .val (.int p4), .val (.int p5), .val (.int (0 : Int32)), .val (.int (1 : Int32)), .val (.ref s94), .unset, .unset, .unset] [])) (fun t k => XS.astore X94.here hx rfl (hb hby at_19) rfl rfl (l' := #[.val (.int p1), .val (.int p2), .val (.int p3), .val (.int p4), .val (.int p5), .val (.int (0 : Int32)), .val (.int (1 : Int32)), .val (.ref s94), .unset, .unset, .unset]) rfl k) ?_
    refine own_st (V := T94.setTop (mkF m 23 #[.val (.int p1), .val (.int p2), .val (.int p3), .val (.int p4), .val (.int p5), .val (.int (0 : Int32)), .val (.int (1 : Int32)), .val (.ref s94), .unset, .unset, .unset] [(.int (1 : Int32))])) (fun t k => XS.iload X94.here hx rfl (hb hby at_21) rfl k) ?_
    refine own_st (V := T94.setTop (mkF m 24 #[.val (.int p1), .val (.int p2), .val (.int p3), .val (.int p4), .val (.int p5), .val (.int (0 : Int32)), .val (.int (1 : Int32)), .val (.ref s94), .unset, .unset, .unset] [(.int p4), (.int (1 : Int32))])) (fun t k => XS.iloadN X94.here hx rfl (hb hby at_23) rfl k) ?_
    refine own_st (V := T94.setTop (mkF m 26 #[.val (.int p1), .val (.int p2), .val (.int p3), .val (.int p4), .val (.int p5), .val (.int (0 : Int32)), .val (.int (1 : Int32)), .val (.ref s94), .unset, .unset, .unset] [(.int p5), (.int p4), (.int (1 : Int32))])) (fun t k => XS.iload X94.here hx rfl (hb hby at_24) rfl k) ?_
    obtain ⟨_, _, ⟨T95, L95, k95, n95⟩, -, X95, ⟨Lc95, hQ95, l95, y95, z95⟩, st95⟩ := Jvm.LawKit.callS X94 hx (y := (⟨"com/example/tempora/tempora/core/IssueIsGivenPinLaw", "str", "(III)Ljava/lang/String;"⟩ : MethodName)) hown_94 (mvT hZ_94 (hw _ (List.mem_of_getElem? (i := 0) rfl))) (mvT hZ_94 (hw _ (List.mem_of_getElem? (i := 1) rfl))) (mvT hZ_94 (hw _ (List.mem_of_getElem? (i := 2) rfl))) (mvT hZ_94 (hw _ (List.mem_of_getElem? (i := 3) rfl))) (by decide) (backOf (W := 0) (own_str1 l Z a0 hw [] p4 p5 cs T94.heap n0 Z0_94 Od94 SC hcs) hZ_94 (hw _ (List.mem_of_getElem? (i := 3) rfl)) (hw _ (List.mem_of_getElem? (i := 2) rfl)) (by decide) (by decide)) (g := (mkF m 26 #[.val (.int p1), .val (.int p2), .val (.int p3), .val (.int p4), .val (.int p5), .val (.int (0 : Int32)), .val (.int (1 : Int32)), .val (.ref s94), .unset, .unset, .unset] [(.int p5), (.int p4), (.int (1 : Int32))])) rfl (by rw [hml]; rfl) (argsL := [(.int (1 : Int32)), (.int p4), (.int p5)]) (rest := []) (lenOf own_pd7 rfl) rfl (by show 2 * 0 + _ ≤ _; exact Nat.le_of_eq rfl) (hb hby at_26) (fun _ _ => ⟨rfl, rfl, (by decide : 6 + 3 ≤ _), (by decide : 12 + 6 ≤ _)⟩)
    dsimp only [Pt.U, Pt.locs, Pt.cells, Pt.slots] at X95 l95 y95 z95 st95 hQ95
    subst l95 y95 z95
    obtain ⟨s95, rfl, N95q, K95, Ex95_q, t95, kt95, vst95, Fq95_0, Vq95⟩ := hQ95
    have N95 := Fr.app N94 N95q
    have Z0_95 : n0 ≤ T95.heap.size := Nat.le_trans Z0_94 K95.1
    have F95_s94_value := Fq94_0.keep K95 nin0
    have Ex95_s94 := Ex94_q.keep K95
    have V95_t94 := Vq94.keep K95 nin0
    have Od95 := Od94.keep K95 all0
    have kz_95 : T94.heap.size ≤ T95.heap.size := Nat.le_trans kz_94 K95.1
    refine own_st (V := T95.setTop (mkF m 29 #[.val (.int p1), .val (.int p2), .val (.int p3), .val (.int p4), .val (.int p5), .val (.int (0 : Int32)), .val (.int (1 : Int32)), .val (.ref s94), .unset, .unset, .unset] [(.ref s95)])) (fun t k => st95 _ k) ?_
    refine own_st (V := T95.setTop (mkF m 31 #[.val (.int p1), .val (.int p2), .val (.int p3), .val (.int p4), .val (.int p5), .val (.int (0 : Int32)), .val (.int (1 : Int32)), .val (.ref s94), .val (.ref s95), .unset, .unset] [])) (fun t k => XS.astore X95.here hx rfl (hb hby at_29) rfl rfl (l' := #[.val (.int p1), .val (.int p2), .val (.int p3), .val (.int p4), .val (.int p5), .val (.int (0 : Int32)), .val (.int (1 : Int32)), .val (.ref s94), .val (.ref s95), .unset, .unset]) rfl k) ?_
    obtain ⟨T96, h96, X96, e96, E96, A96, D96, -, st96⟩ := newO X95 hx hZ_94 hown_94 (hw _ (List.mem_of_getElem? (i := 26) rfl)) (hw _ (List.mem_of_getElem? (i := 27) rfl)) (hw _ (List.mem_of_getElem? (i := 28) rfl)) rfl (g := (mkF m 31 #[.val (.int p1), .val (.int p2), .val (.int p3), .val (.int p4), .val (.int p5), .val (.int (0 : Int32)), .val (.int (1 : Int32)), .val (.ref s94), .val (.ref s95), .unset, .unset] [])) rfl (hb hby at_31) (by decide) (by decide)
    obtain ⟨b96, g96⟩ : ∃ z, z = T95.heap.size := ⟨_, rfl⟩
    rw [← g96] at A96 D96 st96
    have gb_b96 : n0 ≤ b96 := Nat.le_trans Z0_95 (Nat.le_of_eq g96.symm)
    have Z0_96 : n0 ≤ h96.size := Nat.le_trans Z0_95 E96.1
    have ne_t94_b96 : t94 ≠ b96 := Nat.ne_of_lt (Nat.lt_of_lt_of_le V95_t94.lt (Nat.le_of_eq g96.symm))
    have ne_t95_b96 : t95 ≠ b96 := Nat.ne_of_lt (Nat.lt_of_lt_of_le Vq95.lt (Nat.le_of_eq g96.symm))
    have ne_s94_b96 : s94 ≠ b96 := Nat.ne_of_lt (Nat.lt_of_lt_of_le Ex95_s94.lt (Nat.le_of_eq g96.symm))
    have ne_s95_b96 : s95 ≠ b96 := Nat.ne_of_lt (Nat.lt_of_lt_of_le Ex95_q.lt (Nat.le_of_eq g96.symm))
    have F96_s94_value := F95_s94_value.ext E96
    have F96_s95_value := Fq95_0.ext E96
    have Ex96_s94 := Ex95_s94.ext E96
    have Ex96_s95 := Ex95_q.ext E96
    have V96_t94 := V95_t94.ext E96
    have V96_t95 := Vq95.ext E96
    have Od96 := Od95.ext E96
    have kz_96 : T94.heap.size ≤ h96.size := Nat.le_trans kz_95 E96.1
    have F96_b96_designation : Fld Z h96 b96 "com/example/tempora/tempora/core/Issue" "designation" "Ljava/lang/String;" .null := D96 (Or.inr (hw _ (List.mem_of_getElem? (i := 39) rfl))) (ty := (.object "java/lang/String")) (by decide)
    have F96_b96_date : Fld Z h96 b96 "com/example/tempora/tempora/core/Issue" "date" "Ljava/lang/String;" .null := D96 (Or.inr (hw _ (List.mem_of_getElem? (i := 41) rfl))) (ty := (.object "java/lang/String")) (by decide)
    refine own_st (V := T96.setTop (mkF m 34 #[.val (.int p1), .val (.int p2), .val (.int p3), .val (.int p4), .val (.int p5), .val (.int (0 : Int32)), .val (.int (1 : Int32)), .val (.ref s94), .val (.ref s95), .unset, .unset] [(.ref b96)])) (fun t k => st96 _ k) ?_
    refine own_st (V := T96.setTop (mkF m 35 #[.val (.int p1), .val (.int p2), .val (.int p3), .val (.int p4), .val (.int p5), .val (.int (0 : Int32)), .val (.int (1 : Int32)), .val (.ref s94), .val (.ref s95), .unset, .unset] [(.ref b96), (.ref b96)])) (fun t k => XS.dup X96.here hx rfl (hb hby at_34) rfl rfl k) ?_
    refine own_st (V := T96.setTop (mkF m 37 #[.val (.int p1), .val (.int p2), .val (.int p3), .val (.int p4), .val (.int p5), .val (.int (0 : Int32)), .val (.int (1 : Int32)), .val (.ref s94), .val (.ref s95), .unset, .unset] [(.ref s94), (.ref b96), (.ref b96)])) (fun t k => XS.aload X96.here hx rfl (hb hby at_35) rfl rfl k) ?_
    refine own_st (V := T96.setTop (mkF m 39 #[.val (.int p1), .val (.int p2), .val (.int p3), .val (.int p4), .val (.int p5), .val (.int (0 : Int32)), .val (.int (1 : Int32)), .val (.ref s94), .val (.ref s95), .unset, .unset] [(.ref s95), (.ref s94), (.ref b96), (.ref b96)])) (fun t k => XS.aload X96.here hx rfl (hb hby at_37) rfl rfl k) ?_
    obtain ⟨_, _, ⟨T97, L97, k97, n97⟩, -, X97, ⟨Lc97, hQ97, l97, y97, z97⟩, st97⟩ := X96.specialBack hx (y := (⟨"com/example/tempora/tempora/core/Issue", "<init>", "(Ljava/lang/String;Ljava/lang/String;)V"⟩ : MethodName)) rfl hown_94 (mvT hZ_94 (hw _ (List.mem_of_getElem? (i := 29) rfl))) (mvT hZ_94 (hw _ (List.mem_of_getElem? (i := 30) rfl))) (mvT hZ_94 (hw _ (List.mem_of_getElem? (i := 31) rfl))) (by decide) (backOf (W := 1) (own_ii l Z a0 hw [] b96 s94 s95 h96 n0 Z0_96 F96_b96_designation F96_b96_date A96 gb_b96) hZ_94 (hw _ (List.mem_of_getElem? (i := 31) rfl)) (hw _ (List.mem_of_getElem? (i := 28) rfl)) (by decide) (by decide)) (g := (mkF m 39 #[.val (.int p1), .val (.int p2), .val (.int p3), .val (.int p4), .val (.int p5), .val (.int (0 : Int32)), .val (.int (1 : Int32)), .val (.ref s94), .val (.ref s95), .unset, .unset] [(.ref s95), (.ref s94), (.ref b96), (.ref b96)])) rfl (by rw [hml]; rfl) (Steps.refl _) (a := b96) (argsL := [(.ref s94), (.ref s95)]) (rest := [(.ref b96)]) (lenOf own_pd8 rfl) rfl (by show 2 * 0 + _ ≤ _; exact Nat.le_of_eq rfl) (hb hby at_39) (fun _ _ => ⟨rfl, e96, (by decide : 10 + 0 ≤ _), (by decide : 20 + 0 ≤ _)⟩)
    dsimp only [Pt.U, Pt.locs, Pt.cells, Pt.slots] at X97 l97 y97 z97 st97 hQ97
    subst l97 y97 z97
    obtain ⟨rfl, N97q, K97, Ex97_q, Fq97_0, Fq97_1⟩ := hQ97
    have N97 := Fr.app N95 N97q
    have Z0_97 : n0 ≤ T97.heap.size := Nat.le_trans Z0_96 K97.1
    have F97_s94_value := F96_s94_value.keep K97 (ninS ne_s94_b96 nin0)
    have F97_s95_value := F96_s95_value.keep K97 (ninS ne_s95_b96 nin0)
    have Ex97_s94 := Ex96_s94.keep K97
    have Ex97_s95 := Ex96_s95.keep K97
    have Ex97_b96 := A96.keep K97
    have V97_t94 := V96_t94.keep K97 (ninS ne_t94_b96 nin0)
    have V97_t95 := V96_t95.keep K97 (ninS ne_t95_b96 nin0)
    have Od97 := Od96.keep K97 (allS gb_b96 all0)
    have kz_97 : T94.heap.size ≤ T97.heap.size := Nat.le_trans kz_96 K97.1
    refine own_st (V := T97.setTop (mkF m 42 #[.val (.int p1), .val (.int p2), .val (.int p3), .val (.int p4), .val (.int p5), .val (.int (0 : Int32)), .val (.int (1 : Int32)), .val (.ref s94), .val (.ref s95), .unset, .unset] [(.ref b96)])) (fun t k => st97.trans k) ?_
    refine own_st (V := T97.setTop (mkF m 44 #[.val (.int p1), .val (.int p2), .val (.int p3), .val (.int p4), .val (.int p5), .val (.int (0 : Int32)), .val (.int (1 : Int32)), .val (.ref s94), .val (.ref s95), .val (.ref b96), .unset] [])) (fun t k => XS.astore X97.here hx rfl (hb hby at_42) rfl rfl (l' := #[.val (.int p1), .val (.int p2), .val (.int p3), .val (.int p4), .val (.int p5), .val (.int (0 : Int32)), .val (.int (1 : Int32)), .val (.ref s94), .val (.ref s95), .val (.ref b96), .unset]) rfl k) ?_
    refine own_st (V := T97.setTop (mkF m 46 #[.val (.int p1), .val (.int p2), .val (.int p3), .val (.int p4), .val (.int p5), .val (.int (0 : Int32)), .val (.int (1 : Int32)), .val (.ref s94), .val (.ref s95), .val (.ref b96), .unset] [(.int (0 : Int32))])) (fun t k => XS.iload X97.here hx rfl (hb hby at_44) rfl k) ?_
    refine own_st (V := T97.setTop (mkF m 49 #[.val (.int p1), .val (.int p2), .val (.int p3), .val (.int p4), .val (.int p5), .val (.int (0 : Int32)), .val (.int (1 : Int32)), .val (.ref s94), .val (.ref s95), .val (.ref b96), .unset] [])) (fun t k => XS.ifNo X97.here hx rfl (hb hby at_46) rfl ((if0 _ _).trans (teq (by decide : (0 : Int32) = (0 : Int32))).2) k) ?_
    refine own_st (V := T97.setTop (mkF m 51 #[.val (.int p1), .val (.int p2), .val (.int p3), .val (.int p4), .val (.int p5), .val (.int (0 : Int32)), .val (.int (1 : Int32)), .val (.ref s94), .val (.ref s95), .val (.ref b96), .unset] [(.int (1 : Int32))])) (fun t k => XS.iload X97.here hx rfl (hb hby at_49) rfl k) ?_
    refine own_st (V := T97.setTop (mkF m 54 #[.val (.int p1), .val (.int p2), .val (.int p3), .val (.int p4), .val (.int p5), .val (.int (0 : Int32)), .val (.int (1 : Int32)), .val (.ref s94), .val (.ref s95), .val (.ref b96), .unset] [])) (fun t k => XS.ifNo X97.here hx rfl (hb hby at_51) rfl ((if0 _ _).trans (feq (by decide : ¬ ((1 : Int32) = (0 : Int32)))).1) k) ?_
    refine own_st (V := T97.setTop (mkF m 55 #[.val (.int p1), .val (.int p2), .val (.int p3), .val (.int p4), .val (.int p5), .val (.int (0 : Int32)), .val (.int (1 : Int32)), .val (.ref s94), .val (.ref s95), .val (.ref b96), .unset] [(.int (1 : Int32))])) (fun t k => XS.iconst X97.here hx rfl (hb hby at_54) k) ?_
    refine own_st (V := T97.setTop (mkF m 59 #[.val (.int p1), .val (.int p2), .val (.int p3), .val (.int p4), .val (.int p5), .val (.int (0 : Int32)), .val (.int (1 : Int32)), .val (.ref s94), .val (.ref s95), .val (.ref b96), .unset] [(.int (1 : Int32))])) (fun t k => XS.goto X97.here hx rfl (pc0 := 55) (pc' := 59) rfl (hb hby at_55) (by decide) (by decide) k) ?_
    refine own_st (V := T97.setTop (mkF m 61 #[.val (.int p1), .val (.int p2), .val (.int p3), .val (.int p4), .val (.int p5), .val (.int (0 : Int32)), .val (.int (1 : Int32)), .val (.ref s94), .val (.ref s95), .val (.ref b96), .val (.int (1 : Int32))] [])) (fun t k => XS.istore X97.here hx rfl (hb hby at_59) rfl (l' := #[.val (.int p1), .val (.int p2), .val (.int p3), .val (.int p4), .val (.int p5), .val (.int (0 : Int32)), .val (.int (1 : Int32)), .val (.ref s94), .val (.ref s95), .val (.ref b96), .val (.int (1 : Int32))]) rfl k) ?_
    refine own_st (V := T97.setTop (mkF m 63 #[.val (.int p1), .val (.int p2), .val (.int p3), .val (.int p4), .val (.int p5), .val (.int (0 : Int32)), .val (.int (1 : Int32)), .val (.ref s94), .val (.ref s95), .val (.ref b96), .val (.int (1 : Int32))] [(.ref b96)])) (fun t k => XS.aload X97.here hx rfl (hb hby at_61) rfl rfl k) ?_
    obtain ⟨cq98, kq98, q98a, q98b, q98c⟩ := isOf hZ_94 rfl Ex97_q
    obtain ⟨_, _, ⟨T98, L98, k98, n98⟩, -, X98, ⟨Lc98, hQ98, l98, y98, z98⟩, st98⟩ := X97.virtualBack hx (y := (⟨"com/example/tempora/tempora/core/Issue", "isGiven", "()Z"⟩ : MethodName)) (z := (⟨"com/example/tempora/tempora/core/Issue", "isGiven", "()Z"⟩ : MethodName)) hown_94 (mvT hZ_94 (hw _ (List.mem_of_getElem? (i := 42) rfl))) (mvT hZ_94 (hw _ (List.mem_of_getElem? (i := 43) rfl))) (notFace_of_selects (args := #[]) (mvT hZ_94 (hw _ (List.mem_of_getElem? (i := 45) rfl)))) (mvT hZ_94 (hw _ (List.mem_of_getElem? (i := 45) rfl))) (mvT hZ_94 (hw _ (List.mem_of_getElem? (i := 44) rfl))) (by decide) (backOf (W := 0) (own_ig01 l Z a0 hw [] b96 s94 s95 t94 t95 kt94 kt95 vst94 vst95 T97.heap n0 Z0_97 Fq97_0 Fq97_1 Ex97_s94 Ex97_s95 F97_s94_value F97_s95_value V97_t94 V97_t95) hZ_94 (hw _ (List.mem_of_getElem? (i := 46) rfl)) (hw _ (List.mem_of_getElem? (i := 28) rfl)) (by decide) (by decide)) q98a q98c (g := (mkF m 63 #[.val (.int p1), .val (.int p2), .val (.int p3), .val (.int p4), .val (.int p5), .val (.int (0 : Int32)), .val (.int (1 : Int32)), .val (.ref s94), .val (.ref s95), .val (.ref b96), .val (.int (1 : Int32))] [(.ref b96)])) rfl (by rw [hml]; rfl) (Steps.refl _) (argsL := []) (rest := []) (lenOf own_pd6 rfl) rfl (by show 2 * 0 + _ ≤ _; exact Nat.le_of_eq rfl) (hb hby at_63) (fun _ _ => ⟨rfl, rfl, (by decide : 10 + 0 ≤ _), (by decide : 20 + 0 ≤ _)⟩)
    dsimp only [Pt.U, Pt.locs, Pt.cells, Pt.slots] at X98 l98 y98 z98 st98 hQ98
    subst l98 y98 z98
    obtain ⟨rfl, N98q, e98⟩ := hQ98
    have N98 := Fr.app N97 N98q
    refine own_st (V := T98.setTop (mkF m 66 #[.val (.int p1), .val (.int p2), .val (.int p3), .val (.int p4), .val (.int p5), .val (.int (0 : Int32)), .val (.int (1 : Int32)), .val (.ref s94), .val (.ref s95), .val (.ref b96), .val (.int (1 : Int32))] [(.int (1 : Int32))])) (fun t k => st98.trans k) ?_
    refine own_st (V := T98.setTop (mkF m 68 #[.val (.int p1), .val (.int p2), .val (.int p3), .val (.int p4), .val (.int p5), .val (.int (0 : Int32)), .val (.int (1 : Int32)), .val (.ref s94), .val (.ref s95), .val (.ref b96), .val (.int (1 : Int32))] [(.int (1 : Int32)), (.int (1 : Int32))])) (fun t k => XS.iload X98.here hx rfl (hb hby at_66) rfl k) ?_
    refine own_st (V := T98.setTop (mkF m 71 #[.val (.int p1), .val (.int p2), .val (.int p3), .val (.int p4), .val (.int p5), .val (.int (0 : Int32)), .val (.int (1 : Int32)), .val (.ref s94), .val (.ref s95), .val (.ref b96), .val (.int (1 : Int32))] [])) (fun t k => XS.icmpNo X98.here hx rfl (hb hby at_68) rfl (teq (by decide : (1 : Int32) = (1 : Int32))).2 k) ?_
    refine own_st (V := T98.setTop (mkF m 72 #[.val (.int p1), .val (.int p2), .val (.int p3), .val (.int p4), .val (.int p5), .val (.int (0 : Int32)), .val (.int (1 : Int32)), .val (.ref s94), .val (.ref s95), .val (.ref b96), .val (.int (1 : Int32))] [(.int (1 : Int32))])) (fun t k => XS.iconst X98.here hx rfl (hb hby at_71) k) ?_
    refine own_st (V := T98.setTop (mkF m 76 #[.val (.int p1), .val (.int p2), .val (.int p3), .val (.int p4), .val (.int p5), .val (.int (0 : Int32)), .val (.int (1 : Int32)), .val (.ref s94), .val (.ref s95), .val (.ref b96), .val (.int (1 : Int32))] [(.int (1 : Int32))])) (fun t k => XS.goto X98.here hx rfl (pc0 := 72) (pc' := 76) rfl (hb hby at_72) (by decide) (by decide) k) ?_
    exact own_retW (s := s) hS_94 (by rw [e98]; exact kz_97) X98 hx hlk Bd.returns (by decide +kernel) (Or.inl ⟨rfl, by simp, _, rfl⟩) (hb hby at_76) (by decide) (by decide) ⟨rfl, N98⟩
  · rw [h2]
    refine own_st (V := s₁.setTop (mkF m 12 #[.val (.int p1), .val (.int p2), .val (.int p3), .val (.int p4), .val (.int p5), .val (.int (0 : Int32)), .val (.int (2 : Int32)), .unset, .unset, .unset, .unset] [])) (fun t k => XS.istore X0.here hx rfl (hb hby at_10) rfl (l' := #[.val (.int p1), .val (.int p2), .val (.int p3), .val (.int p4), .val (.int p5), .val (.int (0 : Int32)), .val (.int (2 : Int32)), .unset, .unset, .unset, .unset]) rfl k) ?_
    refine own_st (V := s₁.setTop (mkF m 14 #[.val (.int p1), .val (.int p2), .val (.int p3), .val (.int p4), .val (.int p5), .val (.int (0 : Int32)), .val (.int (2 : Int32)), .unset, .unset, .unset, .unset] [(.int (0 : Int32))])) (fun t k => XS.iload X0.here hx rfl (hb hby at_12) rfl k) ?_
    refine own_st (V := s₁.setTop (mkF m 15 #[.val (.int p1), .val (.int p2), .val (.int p3), .val (.int p4), .val (.int p5), .val (.int (0 : Int32)), .val (.int (2 : Int32)), .unset, .unset, .unset, .unset] [(.int p2), (.int (0 : Int32))])) (fun t k => XS.iloadN X0.here hx rfl (hb hby at_14) rfl k) ?_
    refine own_st (V := s₁.setTop (mkF m 16 #[.val (.int p1), .val (.int p2), .val (.int p3), .val (.int p4), .val (.int p5), .val (.int (0 : Int32)), .val (.int (2 : Int32)), .unset, .unset, .unset, .unset] [(.int p3), (.int p2), (.int (0 : Int32))])) (fun t k => XS.iloadN X0.here hx rfl (hb hby at_15) rfl k) ?_
    obtain ⟨_, _, ⟨T99, L99, k99, n99⟩, -, X99, hSi99, hgr99, ⟨Lc99, hQ99, l99, y99, z99, hCr99⟩, st99⟩ := Jvm.RoadKit.callSS X0 hx (y := (⟨"com/example/tempora/tempora/core/IssueIsGivenPinLaw", "str", "(III)Ljava/lang/String;"⟩ : MethodName)) hown (mvT hZ (hw _ (List.mem_of_getElem? (i := 0) rfl))) (mvT hZ (hw _ (List.mem_of_getElem? (i := 1) rfl))) (mvT hZ (hw _ (List.mem_of_getElem? (i := 2) rfl))) (mvT hZ (hw _ (List.mem_of_getElem? (i := 3) rfl))) (by decide) (backOfSH (s := s) (vm0 := s.vm) (W := 0) (own_str0 l Z a0 hw [] p2 p3 h0 n0 Z0 ) hZ (hw _ (List.mem_of_getElem? (i := 3) rfl)) (hw _ (List.mem_of_getElem? (i := 2) rfl)) (by decide) (by decide) hEL Cr.1) (g := (mkF m 16 #[.val (.int p1), .val (.int p2), .val (.int p3), .val (.int p4), .val (.int p5), .val (.int (0 : Int32)), .val (.int (2 : Int32)), .unset, .unset, .unset, .unset] [(.int p3), (.int p2), (.int (0 : Int32))])) rfl (by rw [hml]; rfl) (argsL := [(.int (0 : Int32)), (.int p2), (.int p3)]) (rest := []) (lenOf own_pd7 rfl) rfl (by show 2 * 0 + _ ≤ _; exact Nat.le_of_eq rfl) (hb hby at_16) (fun _ _ => ⟨rfl, e0, (by decide : 0 + 6 ≤ _), (by decide : 0 + 12 ≤ _)⟩)
    dsimp only [Pt.U, Pt.locs, Pt.cells, Pt.slots] at X99 l99 y99 z99 st99 hQ99
    subst l99 y99 z99
    dsimp only [Pt.U] at hSi99 hgr99 hCr99
    obtain ⟨s99, rfl, N99q, K99, Ex99_q, t99, kt99, vst99, Fq99_0, Vq99⟩ := hQ99
    have N99 := Fr.app N0 N99q
    have Z0_99 : n0 ≤ T99.heap.size := Nat.le_trans Z0 K99.1
    have Od99 := Od.keep K99 all0
    have kz_99 : 0 ≤ T99.heap.size := Nat.le_trans kz K99.1
    have hZ_99 : Z.Warmed39 (s.setVm T99.vm).vm := State.Warmed39.trans hZ hSi99.1
    have hown_99 : (s.setVm T99.vm).vm.findClass "com/example/tempora/tempora/core/IssueIsGivenPinLaw" = some m.cls := by rw [show (s.setVm T99.vm).vm = T99.vm from rfl, hSi99.1.alike.findClass]; exact hown
    have hS_99 : s.Since T99.vm T99.heap.size := foldS (s := s) hSi (by rw [e0]; exact kz) hSi99 hgr99
    have X99 : Stand p l e _ (s.setVm T99.vm) m _ below meth c T99 _ _ _ := X99
    have kz_99 : T99.heap.size ≤ T99.heap.size := Nat.le_refl _
    have Cr_99 := Cr.trans hCr99
    refine own_st (V := T99.setTop (mkF m 19 #[.val (.int p1), .val (.int p2), .val (.int p3), .val (.int p4), .val (.int p5), .val (.int (0 : Int32)), .val (.int (2 : Int32)), .unset, .unset, .unset, .unset] [(.ref s99)])) (fun t k => st99.trans k) ?_
    refine own_st (V := T99.setTop (mkF m 21 #[.val (.int p1), .val (.int p2), .val (.int p3), .val (.int p4), .val (.int p5), .val (.int (0 : Int32)), .val (.int (2 : Int32)), .val (.ref s99), .unset, .unset, .unset] [])) (fun t k => XS.astore X99.here hx rfl (hb hby at_19) rfl rfl (l' := #[.val (.int p1), .val (.int p2), .val (.int p3), .val (.int p4), .val (.int p5), .val (.int (0 : Int32)), .val (.int (2 : Int32)), .val (.ref s99), .unset, .unset, .unset]) rfl k) ?_
    refine own_st (V := T99.setTop (mkF m 23 #[.val (.int p1), .val (.int p2), .val (.int p3), .val (.int p4), .val (.int p5), .val (.int (0 : Int32)), .val (.int (2 : Int32)), .val (.ref s99), .unset, .unset, .unset] [(.int (2 : Int32))])) (fun t k => XS.iload X99.here hx rfl (hb hby at_21) rfl k) ?_
    refine own_st (V := T99.setTop (mkF m 24 #[.val (.int p1), .val (.int p2), .val (.int p3), .val (.int p4), .val (.int p5), .val (.int (0 : Int32)), .val (.int (2 : Int32)), .val (.ref s99), .unset, .unset, .unset] [(.int p4), (.int (2 : Int32))])) (fun t k => XS.iloadN X99.here hx rfl (hb hby at_23) rfl k) ?_
    refine own_st (V := T99.setTop (mkF m 26 #[.val (.int p1), .val (.int p2), .val (.int p3), .val (.int p4), .val (.int p5), .val (.int (0 : Int32)), .val (.int (2 : Int32)), .val (.ref s99), .unset, .unset, .unset] [(.int p5), (.int p4), (.int (2 : Int32))])) (fun t k => XS.iload X99.here hx rfl (hb hby at_24) rfl k) ?_
    obtain ⟨_, _, ⟨T100, L100, k100, n100⟩, -, X100, ⟨Lc100, hQ100, l100, y100, z100⟩, st100⟩ := Jvm.LawKit.callS X99 hx (y := (⟨"com/example/tempora/tempora/core/IssueIsGivenPinLaw", "str", "(III)Ljava/lang/String;"⟩ : MethodName)) hown_99 (mvT hZ_99 (hw _ (List.mem_of_getElem? (i := 0) rfl))) (mvT hZ_99 (hw _ (List.mem_of_getElem? (i := 1) rfl))) (mvT hZ_99 (hw _ (List.mem_of_getElem? (i := 2) rfl))) (mvT hZ_99 (hw _ (List.mem_of_getElem? (i := 3) rfl))) (by decide) (backOf (W := 0) (own_str2 l Z a0 hw [] p4 p5 cs T99.heap n0 Z0_99 Od99 SC hcs) hZ_99 (hw _ (List.mem_of_getElem? (i := 3) rfl)) (hw _ (List.mem_of_getElem? (i := 2) rfl)) (by decide) (by decide)) (g := (mkF m 26 #[.val (.int p1), .val (.int p2), .val (.int p3), .val (.int p4), .val (.int p5), .val (.int (0 : Int32)), .val (.int (2 : Int32)), .val (.ref s99), .unset, .unset, .unset] [(.int p5), (.int p4), (.int (2 : Int32))])) rfl (by rw [hml]; rfl) (argsL := [(.int (2 : Int32)), (.int p4), (.int p5)]) (rest := []) (lenOf own_pd7 rfl) rfl (by show 2 * 0 + _ ≤ _; exact Nat.le_of_eq rfl) (hb hby at_26) (fun _ _ => ⟨rfl, rfl, (by decide : 6 + 3 ≤ _), (by decide : 12 + 8 ≤ _)⟩)
    dsimp only [Pt.U, Pt.locs, Pt.cells, Pt.slots] at X100 l100 y100 z100 st100 hQ100
    subst l100 y100 z100
    obtain ⟨s100, rfl, N100q, K100, Ex100_q, t100, kt100, vst100, Fq100_0, Vq100⟩ := hQ100
    have N100 := Fr.app N99 N100q
    have Z0_100 : n0 ≤ T100.heap.size := Nat.le_trans Z0_99 K100.1
    have F100_s99_value := Fq99_0.keep K100 nin0
    have Ex100_s99 := Ex99_q.keep K100
    have V100_t99 := Vq99.keep K100 nin0
    have Od100 := Od99.keep K100 all0
    have kz_100 : T99.heap.size ≤ T100.heap.size := Nat.le_trans kz_99 K100.1
    refine own_st (V := T100.setTop (mkF m 29 #[.val (.int p1), .val (.int p2), .val (.int p3), .val (.int p4), .val (.int p5), .val (.int (0 : Int32)), .val (.int (2 : Int32)), .val (.ref s99), .unset, .unset, .unset] [(.ref s100)])) (fun t k => st100 _ k) ?_
    refine own_st (V := T100.setTop (mkF m 31 #[.val (.int p1), .val (.int p2), .val (.int p3), .val (.int p4), .val (.int p5), .val (.int (0 : Int32)), .val (.int (2 : Int32)), .val (.ref s99), .val (.ref s100), .unset, .unset] [])) (fun t k => XS.astore X100.here hx rfl (hb hby at_29) rfl rfl (l' := #[.val (.int p1), .val (.int p2), .val (.int p3), .val (.int p4), .val (.int p5), .val (.int (0 : Int32)), .val (.int (2 : Int32)), .val (.ref s99), .val (.ref s100), .unset, .unset]) rfl k) ?_
    obtain ⟨T101, h101, X101, e101, E101, A101, D101, -, st101⟩ := newO X100 hx hZ_99 hown_99 (hw _ (List.mem_of_getElem? (i := 26) rfl)) (hw _ (List.mem_of_getElem? (i := 27) rfl)) (hw _ (List.mem_of_getElem? (i := 28) rfl)) rfl (g := (mkF m 31 #[.val (.int p1), .val (.int p2), .val (.int p3), .val (.int p4), .val (.int p5), .val (.int (0 : Int32)), .val (.int (2 : Int32)), .val (.ref s99), .val (.ref s100), .unset, .unset] [])) rfl (hb hby at_31) (by decide) (by decide)
    obtain ⟨b101, g101⟩ : ∃ z, z = T100.heap.size := ⟨_, rfl⟩
    rw [← g101] at A101 D101 st101
    have gb_b101 : n0 ≤ b101 := Nat.le_trans Z0_100 (Nat.le_of_eq g101.symm)
    have Z0_101 : n0 ≤ h101.size := Nat.le_trans Z0_100 E101.1
    have ne_t99_b101 : t99 ≠ b101 := Nat.ne_of_lt (Nat.lt_of_lt_of_le V100_t99.lt (Nat.le_of_eq g101.symm))
    have ne_t100_b101 : t100 ≠ b101 := Nat.ne_of_lt (Nat.lt_of_lt_of_le Vq100.lt (Nat.le_of_eq g101.symm))
    have ne_s99_b101 : s99 ≠ b101 := Nat.ne_of_lt (Nat.lt_of_lt_of_le Ex100_s99.lt (Nat.le_of_eq g101.symm))
    have ne_s100_b101 : s100 ≠ b101 := Nat.ne_of_lt (Nat.lt_of_lt_of_le Ex100_q.lt (Nat.le_of_eq g101.symm))
    have F101_s99_value := F100_s99_value.ext E101
    have F101_s100_value := Fq100_0.ext E101
    have Ex101_s99 := Ex100_s99.ext E101
    have Ex101_s100 := Ex100_q.ext E101
    have V101_t99 := V100_t99.ext E101
    have V101_t100 := Vq100.ext E101
    have Od101 := Od100.ext E101
    have kz_101 : T99.heap.size ≤ h101.size := Nat.le_trans kz_100 E101.1
    have F101_b101_designation : Fld Z h101 b101 "com/example/tempora/tempora/core/Issue" "designation" "Ljava/lang/String;" .null := D101 (Or.inr (hw _ (List.mem_of_getElem? (i := 39) rfl))) (ty := (.object "java/lang/String")) (by decide)
    have F101_b101_date : Fld Z h101 b101 "com/example/tempora/tempora/core/Issue" "date" "Ljava/lang/String;" .null := D101 (Or.inr (hw _ (List.mem_of_getElem? (i := 41) rfl))) (ty := (.object "java/lang/String")) (by decide)
    refine own_st (V := T101.setTop (mkF m 34 #[.val (.int p1), .val (.int p2), .val (.int p3), .val (.int p4), .val (.int p5), .val (.int (0 : Int32)), .val (.int (2 : Int32)), .val (.ref s99), .val (.ref s100), .unset, .unset] [(.ref b101)])) (fun t k => st101 _ k) ?_
    refine own_st (V := T101.setTop (mkF m 35 #[.val (.int p1), .val (.int p2), .val (.int p3), .val (.int p4), .val (.int p5), .val (.int (0 : Int32)), .val (.int (2 : Int32)), .val (.ref s99), .val (.ref s100), .unset, .unset] [(.ref b101), (.ref b101)])) (fun t k => XS.dup X101.here hx rfl (hb hby at_34) rfl rfl k) ?_
    refine own_st (V := T101.setTop (mkF m 37 #[.val (.int p1), .val (.int p2), .val (.int p3), .val (.int p4), .val (.int p5), .val (.int (0 : Int32)), .val (.int (2 : Int32)), .val (.ref s99), .val (.ref s100), .unset, .unset] [(.ref s99), (.ref b101), (.ref b101)])) (fun t k => XS.aload X101.here hx rfl (hb hby at_35) rfl rfl k) ?_
    refine own_st (V := T101.setTop (mkF m 39 #[.val (.int p1), .val (.int p2), .val (.int p3), .val (.int p4), .val (.int p5), .val (.int (0 : Int32)), .val (.int (2 : Int32)), .val (.ref s99), .val (.ref s100), .unset, .unset] [(.ref s100), (.ref s99), (.ref b101), (.ref b101)])) (fun t k => XS.aload X101.here hx rfl (hb hby at_37) rfl rfl k) ?_
    obtain ⟨_, _, ⟨T102, L102, k102, n102⟩, -, X102, ⟨Lc102, hQ102, l102, y102, z102⟩, st102⟩ := X101.specialBack hx (y := (⟨"com/example/tempora/tempora/core/Issue", "<init>", "(Ljava/lang/String;Ljava/lang/String;)V"⟩ : MethodName)) rfl hown_99 (mvT hZ_99 (hw _ (List.mem_of_getElem? (i := 29) rfl))) (mvT hZ_99 (hw _ (List.mem_of_getElem? (i := 30) rfl))) (mvT hZ_99 (hw _ (List.mem_of_getElem? (i := 31) rfl))) (by decide) (backOf (W := 1) (own_ii l Z a0 hw [] b101 s99 s100 h101 n0 Z0_101 F101_b101_designation F101_b101_date A101 gb_b101) hZ_99 (hw _ (List.mem_of_getElem? (i := 31) rfl)) (hw _ (List.mem_of_getElem? (i := 28) rfl)) (by decide) (by decide)) (g := (mkF m 39 #[.val (.int p1), .val (.int p2), .val (.int p3), .val (.int p4), .val (.int p5), .val (.int (0 : Int32)), .val (.int (2 : Int32)), .val (.ref s99), .val (.ref s100), .unset, .unset] [(.ref s100), (.ref s99), (.ref b101), (.ref b101)])) rfl (by rw [hml]; rfl) (Steps.refl _) (a := b101) (argsL := [(.ref s99), (.ref s100)]) (rest := [(.ref b101)]) (lenOf own_pd8 rfl) rfl (by show 2 * 0 + _ ≤ _; exact Nat.le_of_eq rfl) (hb hby at_39) (fun _ _ => ⟨rfl, e101, (by decide : 10 + 0 ≤ _), (by decide : 22 + 0 ≤ _)⟩)
    dsimp only [Pt.U, Pt.locs, Pt.cells, Pt.slots] at X102 l102 y102 z102 st102 hQ102
    subst l102 y102 z102
    obtain ⟨rfl, N102q, K102, Ex102_q, Fq102_0, Fq102_1⟩ := hQ102
    have N102 := Fr.app N100 N102q
    have Z0_102 : n0 ≤ T102.heap.size := Nat.le_trans Z0_101 K102.1
    have F102_s99_value := F101_s99_value.keep K102 (ninS ne_s99_b101 nin0)
    have F102_s100_value := F101_s100_value.keep K102 (ninS ne_s100_b101 nin0)
    have Ex102_s99 := Ex101_s99.keep K102
    have Ex102_s100 := Ex101_s100.keep K102
    have Ex102_b101 := A101.keep K102
    have V102_t99 := V101_t99.keep K102 (ninS ne_t99_b101 nin0)
    have V102_t100 := V101_t100.keep K102 (ninS ne_t100_b101 nin0)
    have Od102 := Od101.keep K102 (allS gb_b101 all0)
    have kz_102 : T99.heap.size ≤ T102.heap.size := Nat.le_trans kz_101 K102.1
    refine own_st (V := T102.setTop (mkF m 42 #[.val (.int p1), .val (.int p2), .val (.int p3), .val (.int p4), .val (.int p5), .val (.int (0 : Int32)), .val (.int (2 : Int32)), .val (.ref s99), .val (.ref s100), .unset, .unset] [(.ref b101)])) (fun t k => st102.trans k) ?_
    refine own_st (V := T102.setTop (mkF m 44 #[.val (.int p1), .val (.int p2), .val (.int p3), .val (.int p4), .val (.int p5), .val (.int (0 : Int32)), .val (.int (2 : Int32)), .val (.ref s99), .val (.ref s100), .val (.ref b101), .unset] [])) (fun t k => XS.astore X102.here hx rfl (hb hby at_42) rfl rfl (l' := #[.val (.int p1), .val (.int p2), .val (.int p3), .val (.int p4), .val (.int p5), .val (.int (0 : Int32)), .val (.int (2 : Int32)), .val (.ref s99), .val (.ref s100), .val (.ref b101), .unset]) rfl k) ?_
    refine own_st (V := T102.setTop (mkF m 46 #[.val (.int p1), .val (.int p2), .val (.int p3), .val (.int p4), .val (.int p5), .val (.int (0 : Int32)), .val (.int (2 : Int32)), .val (.ref s99), .val (.ref s100), .val (.ref b101), .unset] [(.int (0 : Int32))])) (fun t k => XS.iload X102.here hx rfl (hb hby at_44) rfl k) ?_
    refine own_st (V := T102.setTop (mkF m 49 #[.val (.int p1), .val (.int p2), .val (.int p3), .val (.int p4), .val (.int p5), .val (.int (0 : Int32)), .val (.int (2 : Int32)), .val (.ref s99), .val (.ref s100), .val (.ref b101), .unset] [])) (fun t k => XS.ifNo X102.here hx rfl (hb hby at_46) rfl ((if0 _ _).trans (teq (by decide : (0 : Int32) = (0 : Int32))).2) k) ?_
    refine own_st (V := T102.setTop (mkF m 51 #[.val (.int p1), .val (.int p2), .val (.int p3), .val (.int p4), .val (.int p5), .val (.int (0 : Int32)), .val (.int (2 : Int32)), .val (.ref s99), .val (.ref s100), .val (.ref b101), .unset] [(.int (2 : Int32))])) (fun t k => XS.iload X102.here hx rfl (hb hby at_49) rfl k) ?_
    refine own_st (V := T102.setTop (mkF m 54 #[.val (.int p1), .val (.int p2), .val (.int p3), .val (.int p4), .val (.int p5), .val (.int (0 : Int32)), .val (.int (2 : Int32)), .val (.ref s99), .val (.ref s100), .val (.ref b101), .unset] [])) (fun t k => XS.ifNo X102.here hx rfl (hb hby at_51) rfl ((if0 _ _).trans (feq (by decide : ¬ ((2 : Int32) = (0 : Int32)))).1) k) ?_
    refine own_st (V := T102.setTop (mkF m 55 #[.val (.int p1), .val (.int p2), .val (.int p3), .val (.int p4), .val (.int p5), .val (.int (0 : Int32)), .val (.int (2 : Int32)), .val (.ref s99), .val (.ref s100), .val (.ref b101), .unset] [(.int (1 : Int32))])) (fun t k => XS.iconst X102.here hx rfl (hb hby at_54) k) ?_
    refine own_st (V := T102.setTop (mkF m 59 #[.val (.int p1), .val (.int p2), .val (.int p3), .val (.int p4), .val (.int p5), .val (.int (0 : Int32)), .val (.int (2 : Int32)), .val (.ref s99), .val (.ref s100), .val (.ref b101), .unset] [(.int (1 : Int32))])) (fun t k => XS.goto X102.here hx rfl (pc0 := 55) (pc' := 59) rfl (hb hby at_55) (by decide) (by decide) k) ?_
    refine own_st (V := T102.setTop (mkF m 61 #[.val (.int p1), .val (.int p2), .val (.int p3), .val (.int p4), .val (.int p5), .val (.int (0 : Int32)), .val (.int (2 : Int32)), .val (.ref s99), .val (.ref s100), .val (.ref b101), .val (.int (1 : Int32))] [])) (fun t k => XS.istore X102.here hx rfl (hb hby at_59) rfl (l' := #[.val (.int p1), .val (.int p2), .val (.int p3), .val (.int p4), .val (.int p5), .val (.int (0 : Int32)), .val (.int (2 : Int32)), .val (.ref s99), .val (.ref s100), .val (.ref b101), .val (.int (1 : Int32))]) rfl k) ?_
    refine own_st (V := T102.setTop (mkF m 63 #[.val (.int p1), .val (.int p2), .val (.int p3), .val (.int p4), .val (.int p5), .val (.int (0 : Int32)), .val (.int (2 : Int32)), .val (.ref s99), .val (.ref s100), .val (.ref b101), .val (.int (1 : Int32))] [(.ref b101)])) (fun t k => XS.aload X102.here hx rfl (hb hby at_61) rfl rfl k) ?_
    obtain ⟨cq103, kq103, q103a, q103b, q103c⟩ := isOf hZ_99 rfl Ex102_q
    obtain ⟨_, _, ⟨T103, L103, k103, n103⟩, -, X103, ⟨Lc103, hQ103, l103, y103, z103⟩, st103⟩ := X102.virtualBack hx (y := (⟨"com/example/tempora/tempora/core/Issue", "isGiven", "()Z"⟩ : MethodName)) (z := (⟨"com/example/tempora/tempora/core/Issue", "isGiven", "()Z"⟩ : MethodName)) hown_99 (mvT hZ_99 (hw _ (List.mem_of_getElem? (i := 42) rfl))) (mvT hZ_99 (hw _ (List.mem_of_getElem? (i := 43) rfl))) (notFace_of_selects (args := #[]) (mvT hZ_99 (hw _ (List.mem_of_getElem? (i := 45) rfl)))) (mvT hZ_99 (hw _ (List.mem_of_getElem? (i := 45) rfl))) (mvT hZ_99 (hw _ (List.mem_of_getElem? (i := 44) rfl))) (by decide) (backOf (W := 0) (own_ig02 l Z a0 hw [] b101 s99 s100 t99 t100 kt99 kt100 vst99 vst100 T102.heap n0 Z0_102 Fq102_0 Fq102_1 Ex102_s99 Ex102_s100 F102_s99_value F102_s100_value V102_t99 V102_t100) hZ_99 (hw _ (List.mem_of_getElem? (i := 46) rfl)) (hw _ (List.mem_of_getElem? (i := 28) rfl)) (by decide) (by decide)) q103a q103c (g := (mkF m 63 #[.val (.int p1), .val (.int p2), .val (.int p3), .val (.int p4), .val (.int p5), .val (.int (0 : Int32)), .val (.int (2 : Int32)), .val (.ref s99), .val (.ref s100), .val (.ref b101), .val (.int (1 : Int32))] [(.ref b101)])) rfl (by rw [hml]; rfl) (Steps.refl _) (argsL := []) (rest := []) (lenOf own_pd6 rfl) rfl (by show 2 * 0 + _ ≤ _; exact Nat.le_of_eq rfl) (hb hby at_63) (fun _ _ => ⟨rfl, rfl, (by decide : 10 + 0 ≤ _), (by decide : 22 + 0 ≤ _)⟩)
    dsimp only [Pt.U, Pt.locs, Pt.cells, Pt.slots] at X103 l103 y103 z103 st103 hQ103
    subst l103 y103 z103
    obtain ⟨rfl, N103q, e103⟩ := hQ103
    have N103 := Fr.app N102 N103q
    refine own_st (V := T103.setTop (mkF m 66 #[.val (.int p1), .val (.int p2), .val (.int p3), .val (.int p4), .val (.int p5), .val (.int (0 : Int32)), .val (.int (2 : Int32)), .val (.ref s99), .val (.ref s100), .val (.ref b101), .val (.int (1 : Int32))] [(.int (1 : Int32))])) (fun t k => st103.trans k) ?_
    refine own_st (V := T103.setTop (mkF m 68 #[.val (.int p1), .val (.int p2), .val (.int p3), .val (.int p4), .val (.int p5), .val (.int (0 : Int32)), .val (.int (2 : Int32)), .val (.ref s99), .val (.ref s100), .val (.ref b101), .val (.int (1 : Int32))] [(.int (1 : Int32)), (.int (1 : Int32))])) (fun t k => XS.iload X103.here hx rfl (hb hby at_66) rfl k) ?_
    refine own_st (V := T103.setTop (mkF m 71 #[.val (.int p1), .val (.int p2), .val (.int p3), .val (.int p4), .val (.int p5), .val (.int (0 : Int32)), .val (.int (2 : Int32)), .val (.ref s99), .val (.ref s100), .val (.ref b101), .val (.int (1 : Int32))] [])) (fun t k => XS.icmpNo X103.here hx rfl (hb hby at_68) rfl (teq (by decide : (1 : Int32) = (1 : Int32))).2 k) ?_
    refine own_st (V := T103.setTop (mkF m 72 #[.val (.int p1), .val (.int p2), .val (.int p3), .val (.int p4), .val (.int p5), .val (.int (0 : Int32)), .val (.int (2 : Int32)), .val (.ref s99), .val (.ref s100), .val (.ref b101), .val (.int (1 : Int32))] [(.int (1 : Int32))])) (fun t k => XS.iconst X103.here hx rfl (hb hby at_71) k) ?_
    refine own_st (V := T103.setTop (mkF m 76 #[.val (.int p1), .val (.int p2), .val (.int p3), .val (.int p4), .val (.int p5), .val (.int (0 : Int32)), .val (.int (2 : Int32)), .val (.ref s99), .val (.ref s100), .val (.ref b101), .val (.int (1 : Int32))] [(.int (1 : Int32))])) (fun t k => XS.goto X103.here hx rfl (pc0 := 72) (pc' := 76) rfl (hb hby at_72) (by decide) (by decide) k) ?_
    exact own_retW (s := s) hS_99 (by rw [e103]; exact kz_102) X103 hx hlk Bd.returns (by decide +kernel) (Or.inl ⟨rfl, by simp, _, rfl⟩) (hb hby at_76) (by decide) (by decide) ⟨rfl, N103⟩
  · rw [h2]
    refine own_st (V := s₁.setTop (mkF m 12 #[.val (.int p1), .val (.int p2), .val (.int p3), .val (.int p4), .val (.int p5), .val (.int (0 : Int32)), .val (.int (3 : Int32)), .unset, .unset, .unset, .unset] [])) (fun t k => XS.istore X0.here hx rfl (hb hby at_10) rfl (l' := #[.val (.int p1), .val (.int p2), .val (.int p3), .val (.int p4), .val (.int p5), .val (.int (0 : Int32)), .val (.int (3 : Int32)), .unset, .unset, .unset, .unset]) rfl k) ?_
    refine own_st (V := s₁.setTop (mkF m 14 #[.val (.int p1), .val (.int p2), .val (.int p3), .val (.int p4), .val (.int p5), .val (.int (0 : Int32)), .val (.int (3 : Int32)), .unset, .unset, .unset, .unset] [(.int (0 : Int32))])) (fun t k => XS.iload X0.here hx rfl (hb hby at_12) rfl k) ?_
    refine own_st (V := s₁.setTop (mkF m 15 #[.val (.int p1), .val (.int p2), .val (.int p3), .val (.int p4), .val (.int p5), .val (.int (0 : Int32)), .val (.int (3 : Int32)), .unset, .unset, .unset, .unset] [(.int p2), (.int (0 : Int32))])) (fun t k => XS.iloadN X0.here hx rfl (hb hby at_14) rfl k) ?_
    refine own_st (V := s₁.setTop (mkF m 16 #[.val (.int p1), .val (.int p2), .val (.int p3), .val (.int p4), .val (.int p5), .val (.int (0 : Int32)), .val (.int (3 : Int32)), .unset, .unset, .unset, .unset] [(.int p3), (.int p2), (.int (0 : Int32))])) (fun t k => XS.iloadN X0.here hx rfl (hb hby at_15) rfl k) ?_
    obtain ⟨_, _, ⟨T104, L104, k104, n104⟩, -, X104, hSi104, hgr104, ⟨Lc104, hQ104, l104, y104, z104, hCr104⟩, st104⟩ := Jvm.RoadKit.callSS X0 hx (y := (⟨"com/example/tempora/tempora/core/IssueIsGivenPinLaw", "str", "(III)Ljava/lang/String;"⟩ : MethodName)) hown (mvT hZ (hw _ (List.mem_of_getElem? (i := 0) rfl))) (mvT hZ (hw _ (List.mem_of_getElem? (i := 1) rfl))) (mvT hZ (hw _ (List.mem_of_getElem? (i := 2) rfl))) (mvT hZ (hw _ (List.mem_of_getElem? (i := 3) rfl))) (by decide) (backOfSH (s := s) (vm0 := s.vm) (W := 0) (own_str0 l Z a0 hw [] p2 p3 h0 n0 Z0 ) hZ (hw _ (List.mem_of_getElem? (i := 3) rfl)) (hw _ (List.mem_of_getElem? (i := 2) rfl)) (by decide) (by decide) hEL Cr.1) (g := (mkF m 16 #[.val (.int p1), .val (.int p2), .val (.int p3), .val (.int p4), .val (.int p5), .val (.int (0 : Int32)), .val (.int (3 : Int32)), .unset, .unset, .unset, .unset] [(.int p3), (.int p2), (.int (0 : Int32))])) rfl (by rw [hml]; rfl) (argsL := [(.int (0 : Int32)), (.int p2), (.int p3)]) (rest := []) (lenOf own_pd7 rfl) rfl (by show 2 * 0 + _ ≤ _; exact Nat.le_of_eq rfl) (hb hby at_16) (fun _ _ => ⟨rfl, e0, (by decide : 0 + 6 ≤ _), (by decide : 0 + 12 ≤ _)⟩)
    dsimp only [Pt.U, Pt.locs, Pt.cells, Pt.slots] at X104 l104 y104 z104 st104 hQ104
    subst l104 y104 z104
    dsimp only [Pt.U] at hSi104 hgr104 hCr104
    obtain ⟨s104, rfl, N104q, K104, Ex104_q, t104, kt104, vst104, Fq104_0, Vq104⟩ := hQ104
    have N104 := Fr.app N0 N104q
    have Z0_104 : n0 ≤ T104.heap.size := Nat.le_trans Z0 K104.1
    have Od104 := Od.keep K104 all0
    have kz_104 : 0 ≤ T104.heap.size := Nat.le_trans kz K104.1
    have hZ_104 : Z.Warmed39 (s.setVm T104.vm).vm := State.Warmed39.trans hZ hSi104.1
    have hown_104 : (s.setVm T104.vm).vm.findClass "com/example/tempora/tempora/core/IssueIsGivenPinLaw" = some m.cls := by rw [show (s.setVm T104.vm).vm = T104.vm from rfl, hSi104.1.alike.findClass]; exact hown
    have hS_104 : s.Since T104.vm T104.heap.size := foldS (s := s) hSi (by rw [e0]; exact kz) hSi104 hgr104
    have X104 : Stand p l e _ (s.setVm T104.vm) m _ below meth c T104 _ _ _ := X104
    have kz_104 : T104.heap.size ≤ T104.heap.size := Nat.le_refl _
    have Cr_104 := Cr.trans hCr104
    refine own_st (V := T104.setTop (mkF m 19 #[.val (.int p1), .val (.int p2), .val (.int p3), .val (.int p4), .val (.int p5), .val (.int (0 : Int32)), .val (.int (3 : Int32)), .unset, .unset, .unset, .unset] [(.ref s104)])) (fun t k => st104.trans k) ?_
    refine own_st (V := T104.setTop (mkF m 21 #[.val (.int p1), .val (.int p2), .val (.int p3), .val (.int p4), .val (.int p5), .val (.int (0 : Int32)), .val (.int (3 : Int32)), .val (.ref s104), .unset, .unset, .unset] [])) (fun t k => XS.astore X104.here hx rfl (hb hby at_19) rfl rfl (l' := #[.val (.int p1), .val (.int p2), .val (.int p3), .val (.int p4), .val (.int p5), .val (.int (0 : Int32)), .val (.int (3 : Int32)), .val (.ref s104), .unset, .unset, .unset]) rfl k) ?_
    refine own_st (V := T104.setTop (mkF m 23 #[.val (.int p1), .val (.int p2), .val (.int p3), .val (.int p4), .val (.int p5), .val (.int (0 : Int32)), .val (.int (3 : Int32)), .val (.ref s104), .unset, .unset, .unset] [(.int (3 : Int32))])) (fun t k => XS.iload X104.here hx rfl (hb hby at_21) rfl k) ?_
    refine own_st (V := T104.setTop (mkF m 24 #[.val (.int p1), .val (.int p2), .val (.int p3), .val (.int p4), .val (.int p5), .val (.int (0 : Int32)), .val (.int (3 : Int32)), .val (.ref s104), .unset, .unset, .unset] [(.int p4), (.int (3 : Int32))])) (fun t k => XS.iloadN X104.here hx rfl (hb hby at_23) rfl k) ?_
    refine own_st (V := T104.setTop (mkF m 26 #[.val (.int p1), .val (.int p2), .val (.int p3), .val (.int p4), .val (.int p5), .val (.int (0 : Int32)), .val (.int (3 : Int32)), .val (.ref s104), .unset, .unset, .unset] [(.int p5), (.int p4), (.int (3 : Int32))])) (fun t k => XS.iload X104.here hx rfl (hb hby at_24) rfl k) ?_
    obtain ⟨_, _, ⟨T105, L105, k105, n105⟩, -, X105, ⟨Lc105, hQ105, l105, y105, z105⟩, st105⟩ := Jvm.LawKit.callS X104 hx (y := (⟨"com/example/tempora/tempora/core/IssueIsGivenPinLaw", "str", "(III)Ljava/lang/String;"⟩ : MethodName)) hown_104 (mvT hZ_104 (hw _ (List.mem_of_getElem? (i := 0) rfl))) (mvT hZ_104 (hw _ (List.mem_of_getElem? (i := 1) rfl))) (mvT hZ_104 (hw _ (List.mem_of_getElem? (i := 2) rfl))) (mvT hZ_104 (hw _ (List.mem_of_getElem? (i := 3) rfl))) (by decide) (backOf (W := 0) (own_str3 l Z a0 hw [] p4 p5 cs T104.heap n0 Z0_104 Od104 SC hcs) hZ_104 (hw _ (List.mem_of_getElem? (i := 3) rfl)) (hw _ (List.mem_of_getElem? (i := 2) rfl)) (by decide) (by decide)) (g := (mkF m 26 #[.val (.int p1), .val (.int p2), .val (.int p3), .val (.int p4), .val (.int p5), .val (.int (0 : Int32)), .val (.int (3 : Int32)), .val (.ref s104), .unset, .unset, .unset] [(.int p5), (.int p4), (.int (3 : Int32))])) rfl (by rw [hml]; rfl) (argsL := [(.int (3 : Int32)), (.int p4), (.int p5)]) (rest := []) (lenOf own_pd7 rfl) rfl (by show 2 * 0 + _ ≤ _; exact Nat.le_of_eq rfl) (hb hby at_26) (fun _ _ => ⟨rfl, rfl, (by decide : 6 + 3 ≤ _), (by decide : 12 + 8 ≤ _)⟩)
    dsimp only [Pt.U, Pt.locs, Pt.cells, Pt.slots] at X105 l105 y105 z105 st105 hQ105
    subst l105 y105 z105
    obtain ⟨s105, rfl, N105q, K105, Ex105_q, t105, kt105, vst105, Fq105_0, Vq105⟩ := hQ105
    have N105 := Fr.app N104 N105q
    have Z0_105 : n0 ≤ T105.heap.size := Nat.le_trans Z0_104 K105.1
    have F105_s104_value := Fq104_0.keep K105 nin0
    have Ex105_s104 := Ex104_q.keep K105
    have V105_t104 := Vq104.keep K105 nin0
    have Od105 := Od104.keep K105 all0
    have kz_105 : T104.heap.size ≤ T105.heap.size := Nat.le_trans kz_104 K105.1
    refine own_st (V := T105.setTop (mkF m 29 #[.val (.int p1), .val (.int p2), .val (.int p3), .val (.int p4), .val (.int p5), .val (.int (0 : Int32)), .val (.int (3 : Int32)), .val (.ref s104), .unset, .unset, .unset] [(.ref s105)])) (fun t k => st105 _ k) ?_
    refine own_st (V := T105.setTop (mkF m 31 #[.val (.int p1), .val (.int p2), .val (.int p3), .val (.int p4), .val (.int p5), .val (.int (0 : Int32)), .val (.int (3 : Int32)), .val (.ref s104), .val (.ref s105), .unset, .unset] [])) (fun t k => XS.astore X105.here hx rfl (hb hby at_29) rfl rfl (l' := #[.val (.int p1), .val (.int p2), .val (.int p3), .val (.int p4), .val (.int p5), .val (.int (0 : Int32)), .val (.int (3 : Int32)), .val (.ref s104), .val (.ref s105), .unset, .unset]) rfl k) ?_
    obtain ⟨T106, h106, X106, e106, E106, A106, D106, -, st106⟩ := newO X105 hx hZ_104 hown_104 (hw _ (List.mem_of_getElem? (i := 26) rfl)) (hw _ (List.mem_of_getElem? (i := 27) rfl)) (hw _ (List.mem_of_getElem? (i := 28) rfl)) rfl (g := (mkF m 31 #[.val (.int p1), .val (.int p2), .val (.int p3), .val (.int p4), .val (.int p5), .val (.int (0 : Int32)), .val (.int (3 : Int32)), .val (.ref s104), .val (.ref s105), .unset, .unset] [])) rfl (hb hby at_31) (by decide) (by decide)
    obtain ⟨b106, g106⟩ : ∃ z, z = T105.heap.size := ⟨_, rfl⟩
    rw [← g106] at A106 D106 st106
    have gb_b106 : n0 ≤ b106 := Nat.le_trans Z0_105 (Nat.le_of_eq g106.symm)
    have Z0_106 : n0 ≤ h106.size := Nat.le_trans Z0_105 E106.1
    have ne_t104_b106 : t104 ≠ b106 := Nat.ne_of_lt (Nat.lt_of_lt_of_le V105_t104.lt (Nat.le_of_eq g106.symm))
    have ne_t105_b106 : t105 ≠ b106 := Nat.ne_of_lt (Nat.lt_of_lt_of_le Vq105.lt (Nat.le_of_eq g106.symm))
    have ne_s104_b106 : s104 ≠ b106 := Nat.ne_of_lt (Nat.lt_of_lt_of_le Ex105_s104.lt (Nat.le_of_eq g106.symm))
    have ne_s105_b106 : s105 ≠ b106 := Nat.ne_of_lt (Nat.lt_of_lt_of_le Ex105_q.lt (Nat.le_of_eq g106.symm))
    have F106_s104_value := F105_s104_value.ext E106
    have F106_s105_value := Fq105_0.ext E106
    have Ex106_s104 := Ex105_s104.ext E106
    have Ex106_s105 := Ex105_q.ext E106
    have V106_t104 := V105_t104.ext E106
    have V106_t105 := Vq105.ext E106
    have Od106 := Od105.ext E106
    have kz_106 : T104.heap.size ≤ h106.size := Nat.le_trans kz_105 E106.1
    have F106_b106_designation : Fld Z h106 b106 "com/example/tempora/tempora/core/Issue" "designation" "Ljava/lang/String;" .null := D106 (Or.inr (hw _ (List.mem_of_getElem? (i := 39) rfl))) (ty := (.object "java/lang/String")) (by decide)
    have F106_b106_date : Fld Z h106 b106 "com/example/tempora/tempora/core/Issue" "date" "Ljava/lang/String;" .null := D106 (Or.inr (hw _ (List.mem_of_getElem? (i := 41) rfl))) (ty := (.object "java/lang/String")) (by decide)
    refine own_st (V := T106.setTop (mkF m 34 #[.val (.int p1), .val (.int p2), .val (.int p3), .val (.int p4), .val (.int p5), .val (.int (0 : Int32)), .val (.int (3 : Int32)), .val (.ref s104), .val (.ref s105), .unset, .unset] [(.ref b106)])) (fun t k => st106 _ k) ?_
    refine own_st (V := T106.setTop (mkF m 35 #[.val (.int p1), .val (.int p2), .val (.int p3), .val (.int p4), .val (.int p5), .val (.int (0 : Int32)), .val (.int (3 : Int32)), .val (.ref s104), .val (.ref s105), .unset, .unset] [(.ref b106), (.ref b106)])) (fun t k => XS.dup X106.here hx rfl (hb hby at_34) rfl rfl k) ?_
    refine own_st (V := T106.setTop (mkF m 37 #[.val (.int p1), .val (.int p2), .val (.int p3), .val (.int p4), .val (.int p5), .val (.int (0 : Int32)), .val (.int (3 : Int32)), .val (.ref s104), .val (.ref s105), .unset, .unset] [(.ref s104), (.ref b106), (.ref b106)])) (fun t k => XS.aload X106.here hx rfl (hb hby at_35) rfl rfl k) ?_
    refine own_st (V := T106.setTop (mkF m 39 #[.val (.int p1), .val (.int p2), .val (.int p3), .val (.int p4), .val (.int p5), .val (.int (0 : Int32)), .val (.int (3 : Int32)), .val (.ref s104), .val (.ref s105), .unset, .unset] [(.ref s105), (.ref s104), (.ref b106), (.ref b106)])) (fun t k => XS.aload X106.here hx rfl (hb hby at_37) rfl rfl k) ?_
    obtain ⟨_, _, ⟨T107, L107, k107, n107⟩, -, X107, ⟨Lc107, hQ107, l107, y107, z107⟩, st107⟩ := X106.specialBack hx (y := (⟨"com/example/tempora/tempora/core/Issue", "<init>", "(Ljava/lang/String;Ljava/lang/String;)V"⟩ : MethodName)) rfl hown_104 (mvT hZ_104 (hw _ (List.mem_of_getElem? (i := 29) rfl))) (mvT hZ_104 (hw _ (List.mem_of_getElem? (i := 30) rfl))) (mvT hZ_104 (hw _ (List.mem_of_getElem? (i := 31) rfl))) (by decide) (backOf (W := 1) (own_ii l Z a0 hw [] b106 s104 s105 h106 n0 Z0_106 F106_b106_designation F106_b106_date A106 gb_b106) hZ_104 (hw _ (List.mem_of_getElem? (i := 31) rfl)) (hw _ (List.mem_of_getElem? (i := 28) rfl)) (by decide) (by decide)) (g := (mkF m 39 #[.val (.int p1), .val (.int p2), .val (.int p3), .val (.int p4), .val (.int p5), .val (.int (0 : Int32)), .val (.int (3 : Int32)), .val (.ref s104), .val (.ref s105), .unset, .unset] [(.ref s105), (.ref s104), (.ref b106), (.ref b106)])) rfl (by rw [hml]; rfl) (Steps.refl _) (a := b106) (argsL := [(.ref s104), (.ref s105)]) (rest := [(.ref b106)]) (lenOf own_pd8 rfl) rfl (by show 2 * 0 + _ ≤ _; exact Nat.le_of_eq rfl) (hb hby at_39) (fun _ _ => ⟨rfl, e106, (by decide : 10 + 0 ≤ _), (by decide : 22 + 0 ≤ _)⟩)
    dsimp only [Pt.U, Pt.locs, Pt.cells, Pt.slots] at X107 l107 y107 z107 st107 hQ107
    subst l107 y107 z107
    obtain ⟨rfl, N107q, K107, Ex107_q, Fq107_0, Fq107_1⟩ := hQ107
    have N107 := Fr.app N105 N107q
    have Z0_107 : n0 ≤ T107.heap.size := Nat.le_trans Z0_106 K107.1
    have F107_s104_value := F106_s104_value.keep K107 (ninS ne_s104_b106 nin0)
    have F107_s105_value := F106_s105_value.keep K107 (ninS ne_s105_b106 nin0)
    have Ex107_s104 := Ex106_s104.keep K107
    have Ex107_s105 := Ex106_s105.keep K107
    have Ex107_b106 := A106.keep K107
    have V107_t104 := V106_t104.keep K107 (ninS ne_t104_b106 nin0)
    have V107_t105 := V106_t105.keep K107 (ninS ne_t105_b106 nin0)
    have Od107 := Od106.keep K107 (allS gb_b106 all0)
    have kz_107 : T104.heap.size ≤ T107.heap.size := Nat.le_trans kz_106 K107.1
    refine own_st (V := T107.setTop (mkF m 42 #[.val (.int p1), .val (.int p2), .val (.int p3), .val (.int p4), .val (.int p5), .val (.int (0 : Int32)), .val (.int (3 : Int32)), .val (.ref s104), .val (.ref s105), .unset, .unset] [(.ref b106)])) (fun t k => st107.trans k) ?_
    refine own_st (V := T107.setTop (mkF m 44 #[.val (.int p1), .val (.int p2), .val (.int p3), .val (.int p4), .val (.int p5), .val (.int (0 : Int32)), .val (.int (3 : Int32)), .val (.ref s104), .val (.ref s105), .val (.ref b106), .unset] [])) (fun t k => XS.astore X107.here hx rfl (hb hby at_42) rfl rfl (l' := #[.val (.int p1), .val (.int p2), .val (.int p3), .val (.int p4), .val (.int p5), .val (.int (0 : Int32)), .val (.int (3 : Int32)), .val (.ref s104), .val (.ref s105), .val (.ref b106), .unset]) rfl k) ?_
    refine own_st (V := T107.setTop (mkF m 46 #[.val (.int p1), .val (.int p2), .val (.int p3), .val (.int p4), .val (.int p5), .val (.int (0 : Int32)), .val (.int (3 : Int32)), .val (.ref s104), .val (.ref s105), .val (.ref b106), .unset] [(.int (0 : Int32))])) (fun t k => XS.iload X107.here hx rfl (hb hby at_44) rfl k) ?_
    refine own_st (V := T107.setTop (mkF m 49 #[.val (.int p1), .val (.int p2), .val (.int p3), .val (.int p4), .val (.int p5), .val (.int (0 : Int32)), .val (.int (3 : Int32)), .val (.ref s104), .val (.ref s105), .val (.ref b106), .unset] [])) (fun t k => XS.ifNo X107.here hx rfl (hb hby at_46) rfl ((if0 _ _).trans (teq (by decide : (0 : Int32) = (0 : Int32))).2) k) ?_
    refine own_st (V := T107.setTop (mkF m 51 #[.val (.int p1), .val (.int p2), .val (.int p3), .val (.int p4), .val (.int p5), .val (.int (0 : Int32)), .val (.int (3 : Int32)), .val (.ref s104), .val (.ref s105), .val (.ref b106), .unset] [(.int (3 : Int32))])) (fun t k => XS.iload X107.here hx rfl (hb hby at_49) rfl k) ?_
    refine own_st (V := T107.setTop (mkF m 54 #[.val (.int p1), .val (.int p2), .val (.int p3), .val (.int p4), .val (.int p5), .val (.int (0 : Int32)), .val (.int (3 : Int32)), .val (.ref s104), .val (.ref s105), .val (.ref b106), .unset] [])) (fun t k => XS.ifNo X107.here hx rfl (hb hby at_51) rfl ((if0 _ _).trans (feq (by decide : ¬ ((3 : Int32) = (0 : Int32)))).1) k) ?_
    refine own_st (V := T107.setTop (mkF m 55 #[.val (.int p1), .val (.int p2), .val (.int p3), .val (.int p4), .val (.int p5), .val (.int (0 : Int32)), .val (.int (3 : Int32)), .val (.ref s104), .val (.ref s105), .val (.ref b106), .unset] [(.int (1 : Int32))])) (fun t k => XS.iconst X107.here hx rfl (hb hby at_54) k) ?_
    refine own_st (V := T107.setTop (mkF m 59 #[.val (.int p1), .val (.int p2), .val (.int p3), .val (.int p4), .val (.int p5), .val (.int (0 : Int32)), .val (.int (3 : Int32)), .val (.ref s104), .val (.ref s105), .val (.ref b106), .unset] [(.int (1 : Int32))])) (fun t k => XS.goto X107.here hx rfl (pc0 := 55) (pc' := 59) rfl (hb hby at_55) (by decide) (by decide) k) ?_
    refine own_st (V := T107.setTop (mkF m 61 #[.val (.int p1), .val (.int p2), .val (.int p3), .val (.int p4), .val (.int p5), .val (.int (0 : Int32)), .val (.int (3 : Int32)), .val (.ref s104), .val (.ref s105), .val (.ref b106), .val (.int (1 : Int32))] [])) (fun t k => XS.istore X107.here hx rfl (hb hby at_59) rfl (l' := #[.val (.int p1), .val (.int p2), .val (.int p3), .val (.int p4), .val (.int p5), .val (.int (0 : Int32)), .val (.int (3 : Int32)), .val (.ref s104), .val (.ref s105), .val (.ref b106), .val (.int (1 : Int32))]) rfl k) ?_
    refine own_st (V := T107.setTop (mkF m 63 #[.val (.int p1), .val (.int p2), .val (.int p3), .val (.int p4), .val (.int p5), .val (.int (0 : Int32)), .val (.int (3 : Int32)), .val (.ref s104), .val (.ref s105), .val (.ref b106), .val (.int (1 : Int32))] [(.ref b106)])) (fun t k => XS.aload X107.here hx rfl (hb hby at_61) rfl rfl k) ?_
    obtain ⟨cq108, kq108, q108a, q108b, q108c⟩ := isOf hZ_104 rfl Ex107_q
    obtain ⟨_, _, ⟨T108, L108, k108, n108⟩, -, X108, ⟨Lc108, hQ108, l108, y108, z108⟩, st108⟩ := X107.virtualBack hx (y := (⟨"com/example/tempora/tempora/core/Issue", "isGiven", "()Z"⟩ : MethodName)) (z := (⟨"com/example/tempora/tempora/core/Issue", "isGiven", "()Z"⟩ : MethodName)) hown_104 (mvT hZ_104 (hw _ (List.mem_of_getElem? (i := 42) rfl))) (mvT hZ_104 (hw _ (List.mem_of_getElem? (i := 43) rfl))) (notFace_of_selects (args := #[]) (mvT hZ_104 (hw _ (List.mem_of_getElem? (i := 45) rfl)))) (mvT hZ_104 (hw _ (List.mem_of_getElem? (i := 45) rfl))) (mvT hZ_104 (hw _ (List.mem_of_getElem? (i := 44) rfl))) (by decide) (backOf (W := 0) (own_ig02 l Z a0 hw [] b106 s104 s105 t104 t105 kt104 kt105 vst104 vst105 T107.heap n0 Z0_107 Fq107_0 Fq107_1 Ex107_s104 Ex107_s105 F107_s104_value F107_s105_value V107_t104 V107_t105) hZ_104 (hw _ (List.mem_of_getElem? (i := 46) rfl)) (hw _ (List.mem_of_getElem? (i := 28) rfl)) (by decide) (by decide)) q108a q108c (g := (mkF m 63 #[.val (.int p1), .val (.int p2), .val (.int p3), .val (.int p4), .val (.int p5), .val (.int (0 : Int32)), .val (.int (3 : Int32)), .val (.ref s104), .val (.ref s105), .val (.ref b106), .val (.int (1 : Int32))] [(.ref b106)])) rfl (by rw [hml]; rfl) (Steps.refl _) (argsL := []) (rest := []) (lenOf own_pd6 rfl) rfl (by show 2 * 0 + _ ≤ _; exact Nat.le_of_eq rfl) (hb hby at_63) (fun _ _ => ⟨rfl, rfl, (by decide : 10 + 0 ≤ _), (by decide : 22 + 0 ≤ _)⟩)
    dsimp only [Pt.U, Pt.locs, Pt.cells, Pt.slots] at X108 l108 y108 z108 st108 hQ108
    subst l108 y108 z108
    obtain ⟨rfl, N108q, e108⟩ := hQ108
    have N108 := Fr.app N107 N108q
    refine own_st (V := T108.setTop (mkF m 66 #[.val (.int p1), .val (.int p2), .val (.int p3), .val (.int p4), .val (.int p5), .val (.int (0 : Int32)), .val (.int (3 : Int32)), .val (.ref s104), .val (.ref s105), .val (.ref b106), .val (.int (1 : Int32))] [(.int (1 : Int32))])) (fun t k => st108.trans k) ?_
    refine own_st (V := T108.setTop (mkF m 68 #[.val (.int p1), .val (.int p2), .val (.int p3), .val (.int p4), .val (.int p5), .val (.int (0 : Int32)), .val (.int (3 : Int32)), .val (.ref s104), .val (.ref s105), .val (.ref b106), .val (.int (1 : Int32))] [(.int (1 : Int32)), (.int (1 : Int32))])) (fun t k => XS.iload X108.here hx rfl (hb hby at_66) rfl k) ?_
    refine own_st (V := T108.setTop (mkF m 71 #[.val (.int p1), .val (.int p2), .val (.int p3), .val (.int p4), .val (.int p5), .val (.int (0 : Int32)), .val (.int (3 : Int32)), .val (.ref s104), .val (.ref s105), .val (.ref b106), .val (.int (1 : Int32))] [])) (fun t k => XS.icmpNo X108.here hx rfl (hb hby at_68) rfl (teq (by decide : (1 : Int32) = (1 : Int32))).2 k) ?_
    refine own_st (V := T108.setTop (mkF m 72 #[.val (.int p1), .val (.int p2), .val (.int p3), .val (.int p4), .val (.int p5), .val (.int (0 : Int32)), .val (.int (3 : Int32)), .val (.ref s104), .val (.ref s105), .val (.ref b106), .val (.int (1 : Int32))] [(.int (1 : Int32))])) (fun t k => XS.iconst X108.here hx rfl (hb hby at_71) k) ?_
    refine own_st (V := T108.setTop (mkF m 76 #[.val (.int p1), .val (.int p2), .val (.int p3), .val (.int p4), .val (.int p5), .val (.int (0 : Int32)), .val (.int (3 : Int32)), .val (.ref s104), .val (.ref s105), .val (.ref b106), .val (.int (1 : Int32))] [(.int (1 : Int32))])) (fun t k => XS.goto X108.here hx rfl (pc0 := 72) (pc' := 76) rfl (hb hby at_72) (by decide) (by decide) k) ?_
    exact own_retW (s := s) hS_104 (by rw [e108]; exact kz_107) X108 hx hlk Bd.returns (by decide +kernel) (Or.inl ⟨rfl, by simp, _, rfl⟩) (hb hby at_76) (by decide) (by decide) ⟨rfl, N108⟩
set_option maxRecDepth 65536 in
set_option maxHeartbeats 40000000 in
theorem own_law1 (l : Launch) (Z : State) (a0 : Array Value) (hw : ∀ d ∈ tables_1, d.before a0 Z = true) (ws : List Jvm.Cond) (p1 p2 p3 p4 p5 cs : Int32) (h0 : Heap) (n0 : Nat) (Z0 : n0 ≤ h0.size) (Od : Old Z n0 h0) (SC : Sta Z Z.heap "java/lang/String" "COMPACT_STRINGS" "Z" (.int cs)) (hcs : ¬ (cs = (0 : Int32))) (hk : (p1 &&& (3 : Int32)) = (1 : Int32)) :
    MetFree l x (head1 (Jvm.Cond.code x code maxLocals ret :: ws) room_1) (fun a U => a = #[(.int p1), (.int p2), (.int p3), (.int p4), (.int p5)] ∧ Z.Warmed39 U.vm ∧ U.heap = h0 ∧ CHv Z own_EL U.vm h0) (fun _ _ _ _ _ => True) (fun _ U o U' => ∃ v L, o = .returned v ∧ own_Q0 Z p1 p2 p3 p4 p5 cs h0 n0 v U'.heap L ∧ ReturnedEndW U o U' L room_1.cells room_1.slots) := by
  refine MetFree.of_bodySF (plainFor_of_name own_pn_com_example_tempora_tempora_core_IssueIsGivenPinLaw) hisR ?_
  intro p e s m args below meth c s₁ Bd hml0 hP hK
  obtain ⟨rfl, hZ, hh, hC0⟩ := hP
  have hx := Bd.exec
  have hby := Bd.bytes
  have hml : c.maxLocals = 11 := hml0
  have hown : s.vm.findClass "com/example/tempora/tempora/core/IssueIsGivenPinLaw" = some m.cls := findClass_of_methodNamed Bd.named
  have hnm := (name_of_methodNamed Bd.named Bd.method).1
  have hlk : meth.locks = false := BodyLoose.notSynchronized Bd
  have X0 : Stand p l e room_1 (s.setVm s.vm) m #[(.int p1), (.int p2), (.int p3), (.int p4), (.int p5)] below meth c s₁ [] 0 0 := Stand.of_body Bd
  have hZ : Z.Warmed39 (s.setVm s.vm).vm := hZ
  have hown : (s.setVm s.vm).vm.findClass "com/example/tempora/tempora/core/IssueIsGivenPinLaw" = some m.cls := hown
  have hSi : s.Since s.vm 0 := (State.WarmedH.refl s).since 0
  have kz : 0 ≤ h0.size := Nat.zero_le _
  have hEL := own_ew hw
  have Cr : CHr Z own_EL s.vm h0 s.vm h0 := CHr.refl hC0
  have e0 : s₁.heap = h0 := by rw [← hh, Bd.state]; rfl
  have N0 := Fr.nil n0
  show own_Go p e below #[(.int p1), (.int p2), (.int p3), (.int p4), (.int p5)] s (fun _ U o U' => ∃ v L, o = .returned v ∧ own_Q0 Z p1 p2 p3 p4 p5 cs h0 n0 v U'.heap L ∧ ReturnedEndW U o U' L room_1.cells room_1.slots) (s₁.setTop (entryFrame m #[(.int p1), (.int p2), (.int p3), (.int p4), (.int p5)] maxLocals))
  refine own_st (V := s₁.setTop (mkF m 0 #[.val (.int p1), .val (.int p2), .val (.int p3), .val (.int p4), .val (.int p5), .unset, .unset, .unset, .unset, .unset, .unset] [])) (fun t k => castTop (by first | (simp [entryFrame, mkF, argsToLocals, Value.category, maxLocals]; done) | rfl) k) ?_
  refine own_st (V := s₁.setTop (mkF m 1 #[.val (.int p1), .val (.int p2), .val (.int p3), .val (.int p4), .val (.int p5), .unset, .unset, .unset, .unset, .unset, .unset] [(.int p1)])) (fun t k => XS.iloadN X0.here hx rfl (hb hby at_0) rfl k) ?_
  refine own_st (V := s₁.setTop (mkF m 2 #[.val (.int p1), .val (.int p2), .val (.int p3), .val (.int p4), .val (.int p5), .unset, .unset, .unset, .unset, .unset, .unset] [(.int (3 : Int32)), (.int p1)])) (fun t k => XS.iconst X0.here hx rfl (hb hby at_1) k) ?_
  refine own_st (V := s₁.setTop (mkF m 3 #[.val (.int p1), .val (.int p2), .val (.int p3), .val (.int p4), .val (.int p5), .unset, .unset, .unset, .unset, .unset, .unset] [(.int (p1 &&& (3 : Int32)))])) (fun t k => XS.iand X0.here hx rfl (hb hby at_2) rfl k) ?_
  rw [hk]
  refine own_st (V := s₁.setTop (mkF m 5 #[.val (.int p1), .val (.int p2), .val (.int p3), .val (.int p4), .val (.int p5), .val (.int (1 : Int32)), .unset, .unset, .unset, .unset, .unset] [])) (fun t k => XS.istore X0.here hx rfl (hb hby at_3) rfl (l' := #[.val (.int p1), .val (.int p2), .val (.int p3), .val (.int p4), .val (.int p5), .val (.int (1 : Int32)), .unset, .unset, .unset, .unset, .unset]) rfl k) ?_
  refine own_st (V := s₁.setTop (mkF m 6 #[.val (.int p1), .val (.int p2), .val (.int p3), .val (.int p4), .val (.int p5), .val (.int (1 : Int32)), .unset, .unset, .unset, .unset, .unset] [(.int p1)])) (fun t k => XS.iloadN X0.here hx rfl (hb hby at_5) rfl k) ?_
  refine own_st (V := s₁.setTop (mkF m 7 #[.val (.int p1), .val (.int p2), .val (.int p3), .val (.int p4), .val (.int p5), .val (.int (1 : Int32)), .unset, .unset, .unset, .unset, .unset] [(.int (2 : Int32)), (.int p1)])) (fun t k => XS.iconst X0.here hx rfl (hb hby at_6) k) ?_
  refine own_st (V := s₁.setTop (mkF m 8 #[.val (.int p1), .val (.int p2), .val (.int p3), .val (.int p4), .val (.int p5), .val (.int (1 : Int32)), .unset, .unset, .unset, .unset, .unset] [(.int ((p1.toUInt32 >>> ((2 : Int32) &&& 31).toUInt32).toInt32))])) (fun t k => XS.iushr X0.here hx rfl (hb hby at_7) rfl k) ?_
  refine own_st (V := s₁.setTop (mkF m 9 #[.val (.int p1), .val (.int p2), .val (.int p3), .val (.int p4), .val (.int p5), .val (.int (1 : Int32)), .unset, .unset, .unset, .unset, .unset] [(.int (3 : Int32)), (.int ((p1.toUInt32 >>> ((2 : Int32) &&& 31).toUInt32).toInt32))])) (fun t k => XS.iconst X0.here hx rfl (hb hby at_8) k) ?_
  refine own_st (V := s₁.setTop (mkF m 10 #[.val (.int p1), .val (.int p2), .val (.int p3), .val (.int p4), .val (.int p5), .val (.int (1 : Int32)), .unset, .unset, .unset, .unset, .unset] [(.int (((p1.toUInt32 >>> ((2 : Int32) &&& 31).toUInt32).toInt32) &&& (3 : Int32)))])) (fun t k => XS.iand X0.here hx rfl (hb hby at_9) rfl k) ?_
  rcases own_c ((p1.toUInt32 >>> ((2 : Int32) &&& 31).toUInt32).toInt32) with h2 | h2 | h2 | h2
  · rw [h2]
    refine own_st (V := s₁.setTop (mkF m 12 #[.val (.int p1), .val (.int p2), .val (.int p3), .val (.int p4), .val (.int p5), .val (.int (1 : Int32)), .val (.int (0 : Int32)), .unset, .unset, .unset, .unset] [])) (fun t k => XS.istore X0.here hx rfl (hb hby at_10) rfl (l' := #[.val (.int p1), .val (.int p2), .val (.int p3), .val (.int p4), .val (.int p5), .val (.int (1 : Int32)), .val (.int (0 : Int32)), .unset, .unset, .unset, .unset]) rfl k) ?_
    refine own_st (V := s₁.setTop (mkF m 14 #[.val (.int p1), .val (.int p2), .val (.int p3), .val (.int p4), .val (.int p5), .val (.int (1 : Int32)), .val (.int (0 : Int32)), .unset, .unset, .unset, .unset] [(.int (1 : Int32))])) (fun t k => XS.iload X0.here hx rfl (hb hby at_12) rfl k) ?_
    refine own_st (V := s₁.setTop (mkF m 15 #[.val (.int p1), .val (.int p2), .val (.int p3), .val (.int p4), .val (.int p5), .val (.int (1 : Int32)), .val (.int (0 : Int32)), .unset, .unset, .unset, .unset] [(.int p2), (.int (1 : Int32))])) (fun t k => XS.iloadN X0.here hx rfl (hb hby at_14) rfl k) ?_
    refine own_st (V := s₁.setTop (mkF m 16 #[.val (.int p1), .val (.int p2), .val (.int p3), .val (.int p4), .val (.int p5), .val (.int (1 : Int32)), .val (.int (0 : Int32)), .unset, .unset, .unset, .unset] [(.int p3), (.int p2), (.int (1 : Int32))])) (fun t k => XS.iloadN X0.here hx rfl (hb hby at_15) rfl k) ?_
    obtain ⟨_, _, ⟨T109, L109, k109, n109⟩, -, X109, ⟨Lc109, hQ109, l109, y109, z109⟩, st109⟩ := Jvm.LawKit.callS X0 hx (y := (⟨"com/example/tempora/tempora/core/IssueIsGivenPinLaw", "str", "(III)Ljava/lang/String;"⟩ : MethodName)) hown (mvT hZ (hw _ (List.mem_of_getElem? (i := 0) rfl))) (mvT hZ (hw _ (List.mem_of_getElem? (i := 1) rfl))) (mvT hZ (hw _ (List.mem_of_getElem? (i := 2) rfl))) (mvT hZ (hw _ (List.mem_of_getElem? (i := 3) rfl))) (by decide) (backOf (W := 0) (own_str1 l Z a0 hw [] p2 p3 cs h0 n0 Z0 Od SC hcs) hZ (hw _ (List.mem_of_getElem? (i := 3) rfl)) (hw _ (List.mem_of_getElem? (i := 2) rfl)) (by decide) (by decide)) (g := (mkF m 16 #[.val (.int p1), .val (.int p2), .val (.int p3), .val (.int p4), .val (.int p5), .val (.int (1 : Int32)), .val (.int (0 : Int32)), .unset, .unset, .unset, .unset] [(.int p3), (.int p2), (.int (1 : Int32))])) rfl (by rw [hml]; rfl) (argsL := [(.int (1 : Int32)), (.int p2), (.int p3)]) (rest := []) (lenOf own_pd7 rfl) rfl (by show 2 * 0 + _ ≤ _; exact Nat.le_of_eq rfl) (hb hby at_16) (fun _ _ => ⟨rfl, e0, (by decide : 0 + 3 ≤ _), (by decide : 0 + 6 ≤ _)⟩)
    dsimp only [Pt.U, Pt.locs, Pt.cells, Pt.slots] at X109 l109 y109 z109 st109 hQ109
    subst l109 y109 z109
    obtain ⟨s109, rfl, N109q, K109, Ex109_q, t109, kt109, vst109, Fq109_0, Vq109⟩ := hQ109
    have N109 := Fr.app N0 N109q
    have Z0_109 : n0 ≤ T109.heap.size := Nat.le_trans Z0 K109.1
    have Od109 := Od.keep K109 all0
    have kz_109 : 0 ≤ T109.heap.size := Nat.le_trans kz K109.1
    have Cr_109 := Cr.trans (CHr.keep K109 all0 Cr.1)
    refine own_st (V := T109.setTop (mkF m 19 #[.val (.int p1), .val (.int p2), .val (.int p3), .val (.int p4), .val (.int p5), .val (.int (1 : Int32)), .val (.int (0 : Int32)), .unset, .unset, .unset, .unset] [(.ref s109)])) (fun t k => st109 _ k) ?_
    refine own_st (V := T109.setTop (mkF m 21 #[.val (.int p1), .val (.int p2), .val (.int p3), .val (.int p4), .val (.int p5), .val (.int (1 : Int32)), .val (.int (0 : Int32)), .val (.ref s109), .unset, .unset, .unset] [])) (fun t k => XS.astore X109.here hx rfl (hb hby at_19) rfl rfl (l' := #[.val (.int p1), .val (.int p2), .val (.int p3), .val (.int p4), .val (.int p5), .val (.int (1 : Int32)), .val (.int (0 : Int32)), .val (.ref s109), .unset, .unset, .unset]) rfl k) ?_
    refine own_st (V := T109.setTop (mkF m 23 #[.val (.int p1), .val (.int p2), .val (.int p3), .val (.int p4), .val (.int p5), .val (.int (1 : Int32)), .val (.int (0 : Int32)), .val (.ref s109), .unset, .unset, .unset] [(.int (0 : Int32))])) (fun t k => XS.iload X109.here hx rfl (hb hby at_21) rfl k) ?_
    refine own_st (V := T109.setTop (mkF m 24 #[.val (.int p1), .val (.int p2), .val (.int p3), .val (.int p4), .val (.int p5), .val (.int (1 : Int32)), .val (.int (0 : Int32)), .val (.ref s109), .unset, .unset, .unset] [(.int p4), (.int (0 : Int32))])) (fun t k => XS.iloadN X109.here hx rfl (hb hby at_23) rfl k) ?_
    refine own_st (V := T109.setTop (mkF m 26 #[.val (.int p1), .val (.int p2), .val (.int p3), .val (.int p4), .val (.int p5), .val (.int (1 : Int32)), .val (.int (0 : Int32)), .val (.ref s109), .unset, .unset, .unset] [(.int p5), (.int p4), (.int (0 : Int32))])) (fun t k => XS.iload X109.here hx rfl (hb hby at_24) rfl k) ?_
    obtain ⟨_, _, ⟨T110, L110, k110, n110⟩, -, X110, hSi110, hgr110, ⟨Lc110, hQ110, l110, y110, z110, hCr110⟩, st110⟩ := Jvm.RoadKit.callSS X109 hx (y := (⟨"com/example/tempora/tempora/core/IssueIsGivenPinLaw", "str", "(III)Ljava/lang/String;"⟩ : MethodName)) hown (mvT hZ (hw _ (List.mem_of_getElem? (i := 0) rfl))) (mvT hZ (hw _ (List.mem_of_getElem? (i := 1) rfl))) (mvT hZ (hw _ (List.mem_of_getElem? (i := 2) rfl))) (mvT hZ (hw _ (List.mem_of_getElem? (i := 3) rfl))) (by decide) (backOfSH (s := s) (vm0 := s.vm) (W := 0) (own_str0 l Z a0 hw [] p4 p5 T109.heap n0 Z0_109 ) hZ (hw _ (List.mem_of_getElem? (i := 3) rfl)) (hw _ (List.mem_of_getElem? (i := 2) rfl)) (by decide) (by decide) hEL Cr_109.1) (g := (mkF m 26 #[.val (.int p1), .val (.int p2), .val (.int p3), .val (.int p4), .val (.int p5), .val (.int (1 : Int32)), .val (.int (0 : Int32)), .val (.ref s109), .unset, .unset, .unset] [(.int p5), (.int p4), (.int (0 : Int32))])) rfl (by rw [hml]; rfl) (argsL := [(.int (0 : Int32)), (.int p4), (.int p5)]) (rest := []) (lenOf own_pd7 rfl) rfl (by show 2 * 0 + _ ≤ _; exact Nat.le_of_eq rfl) (hb hby at_26) (fun _ _ => ⟨rfl, rfl, (by decide : 3 + 6 ≤ _), (by decide : 6 + 12 ≤ _)⟩)
    dsimp only [Pt.U, Pt.locs, Pt.cells, Pt.slots] at X110 l110 y110 z110 st110 hQ110
    subst l110 y110 z110
    dsimp only [Pt.U] at hSi110 hgr110 hCr110
    obtain ⟨s110, rfl, N110q, K110, Ex110_q, t110, kt110, vst110, Fq110_0, Vq110⟩ := hQ110
    have N110 := Fr.app N109 N110q
    have Z0_110 : n0 ≤ T110.heap.size := Nat.le_trans Z0_109 K110.1
    have F110_s109_value := Fq109_0.keep K110 nin0
    have Ex110_s109 := Ex109_q.keep K110
    have V110_t109 := Vq109.keep K110 nin0
    have Od110 := Od109.keep K110 all0
    have kz_110 : 0 ≤ T110.heap.size := Nat.le_trans kz_109 K110.1
    have hZ_110 : Z.Warmed39 (s.setVm T110.vm).vm := State.Warmed39.trans hZ hSi110.1
    have hown_110 : (s.setVm T110.vm).vm.findClass "com/example/tempora/tempora/core/IssueIsGivenPinLaw" = some m.cls := by rw [show (s.setVm T110.vm).vm = T110.vm from rfl, hSi110.1.alike.findClass]; exact hown
    have hS_110 : s.Since T110.vm T110.heap.size := foldS (s := s) hSi kz_109 hSi110 hgr110
    have X110 : Stand p l e _ (s.setVm T110.vm) m _ below meth c T110 _ _ _ := X110
    have kz_110 : T110.heap.size ≤ T110.heap.size := Nat.le_refl _
    have Cr_110 := Cr_109.trans hCr110
    refine own_st (V := T110.setTop (mkF m 29 #[.val (.int p1), .val (.int p2), .val (.int p3), .val (.int p4), .val (.int p5), .val (.int (1 : Int32)), .val (.int (0 : Int32)), .val (.ref s109), .unset, .unset, .unset] [(.ref s110)])) (fun t k => st110.trans k) ?_
    refine own_st (V := T110.setTop (mkF m 31 #[.val (.int p1), .val (.int p2), .val (.int p3), .val (.int p4), .val (.int p5), .val (.int (1 : Int32)), .val (.int (0 : Int32)), .val (.ref s109), .val (.ref s110), .unset, .unset] [])) (fun t k => XS.astore X110.here hx rfl (hb hby at_29) rfl rfl (l' := #[.val (.int p1), .val (.int p2), .val (.int p3), .val (.int p4), .val (.int p5), .val (.int (1 : Int32)), .val (.int (0 : Int32)), .val (.ref s109), .val (.ref s110), .unset, .unset]) rfl k) ?_
    obtain ⟨T111, h111, X111, e111, E111, A111, D111, -, st111⟩ := newO X110 hx hZ_110 hown_110 (hw _ (List.mem_of_getElem? (i := 26) rfl)) (hw _ (List.mem_of_getElem? (i := 27) rfl)) (hw _ (List.mem_of_getElem? (i := 28) rfl)) rfl (g := (mkF m 31 #[.val (.int p1), .val (.int p2), .val (.int p3), .val (.int p4), .val (.int p5), .val (.int (1 : Int32)), .val (.int (0 : Int32)), .val (.ref s109), .val (.ref s110), .unset, .unset] [])) rfl (hb hby at_31) (by decide) (by decide)
    obtain ⟨b111, g111⟩ : ∃ z, z = T110.heap.size := ⟨_, rfl⟩
    rw [← g111] at A111 D111 st111
    have gb_b111 : n0 ≤ b111 := Nat.le_trans Z0_110 (Nat.le_of_eq g111.symm)
    have Z0_111 : n0 ≤ h111.size := Nat.le_trans Z0_110 E111.1
    have ne_t109_b111 : t109 ≠ b111 := Nat.ne_of_lt (Nat.lt_of_lt_of_le V110_t109.lt (Nat.le_of_eq g111.symm))
    have ne_t110_b111 : t110 ≠ b111 := Nat.ne_of_lt (Nat.lt_of_lt_of_le Vq110.lt (Nat.le_of_eq g111.symm))
    have ne_s109_b111 : s109 ≠ b111 := Nat.ne_of_lt (Nat.lt_of_lt_of_le Ex110_s109.lt (Nat.le_of_eq g111.symm))
    have ne_s110_b111 : s110 ≠ b111 := Nat.ne_of_lt (Nat.lt_of_lt_of_le Ex110_q.lt (Nat.le_of_eq g111.symm))
    have F111_s109_value := F110_s109_value.ext E111
    have F111_s110_value := Fq110_0.ext E111
    have Ex111_s109 := Ex110_s109.ext E111
    have Ex111_s110 := Ex110_q.ext E111
    have V111_t109 := V110_t109.ext E111
    have V111_t110 := Vq110.ext E111
    have Od111 := Od110.ext E111
    have kz_111 : T110.heap.size ≤ h111.size := Nat.le_trans kz_110 E111.1
    have Cr_111 := Cr_110.trans (CHr.ext E111 Cr_110.1)
    have F111_b111_designation : Fld Z h111 b111 "com/example/tempora/tempora/core/Issue" "designation" "Ljava/lang/String;" .null := D111 (Or.inr (hw _ (List.mem_of_getElem? (i := 39) rfl))) (ty := (.object "java/lang/String")) (by decide)
    have F111_b111_date : Fld Z h111 b111 "com/example/tempora/tempora/core/Issue" "date" "Ljava/lang/String;" .null := D111 (Or.inr (hw _ (List.mem_of_getElem? (i := 41) rfl))) (ty := (.object "java/lang/String")) (by decide)
    refine own_st (V := T111.setTop (mkF m 34 #[.val (.int p1), .val (.int p2), .val (.int p3), .val (.int p4), .val (.int p5), .val (.int (1 : Int32)), .val (.int (0 : Int32)), .val (.ref s109), .val (.ref s110), .unset, .unset] [(.ref b111)])) (fun t k => st111 _ k) ?_
    refine own_st (V := T111.setTop (mkF m 35 #[.val (.int p1), .val (.int p2), .val (.int p3), .val (.int p4), .val (.int p5), .val (.int (1 : Int32)), .val (.int (0 : Int32)), .val (.ref s109), .val (.ref s110), .unset, .unset] [(.ref b111), (.ref b111)])) (fun t k => XS.dup X111.here hx rfl (hb hby at_34) rfl rfl k) ?_
    refine own_st (V := T111.setTop (mkF m 37 #[.val (.int p1), .val (.int p2), .val (.int p3), .val (.int p4), .val (.int p5), .val (.int (1 : Int32)), .val (.int (0 : Int32)), .val (.ref s109), .val (.ref s110), .unset, .unset] [(.ref s109), (.ref b111), (.ref b111)])) (fun t k => XS.aload X111.here hx rfl (hb hby at_35) rfl rfl k) ?_
    refine own_st (V := T111.setTop (mkF m 39 #[.val (.int p1), .val (.int p2), .val (.int p3), .val (.int p4), .val (.int p5), .val (.int (1 : Int32)), .val (.int (0 : Int32)), .val (.ref s109), .val (.ref s110), .unset, .unset] [(.ref s110), (.ref s109), (.ref b111), (.ref b111)])) (fun t k => XS.aload X111.here hx rfl (hb hby at_37) rfl rfl k) ?_
    obtain ⟨_, _, ⟨T112, L112, k112, n112⟩, -, X112, ⟨Lc112, hQ112, l112, y112, z112⟩, st112⟩ := X111.specialBack hx (y := (⟨"com/example/tempora/tempora/core/Issue", "<init>", "(Ljava/lang/String;Ljava/lang/String;)V"⟩ : MethodName)) rfl hown_110 (mvT hZ_110 (hw _ (List.mem_of_getElem? (i := 29) rfl))) (mvT hZ_110 (hw _ (List.mem_of_getElem? (i := 30) rfl))) (mvT hZ_110 (hw _ (List.mem_of_getElem? (i := 31) rfl))) (by decide) (backOf (W := 1) (own_ii l Z a0 hw [] b111 s109 s110 h111 n0 Z0_111 F111_b111_designation F111_b111_date A111 gb_b111) hZ_110 (hw _ (List.mem_of_getElem? (i := 31) rfl)) (hw _ (List.mem_of_getElem? (i := 28) rfl)) (by decide) (by decide)) (g := (mkF m 39 #[.val (.int p1), .val (.int p2), .val (.int p3), .val (.int p4), .val (.int p5), .val (.int (1 : Int32)), .val (.int (0 : Int32)), .val (.ref s109), .val (.ref s110), .unset, .unset] [(.ref s110), (.ref s109), (.ref b111), (.ref b111)])) rfl (by rw [hml]; rfl) (Steps.refl _) (a := b111) (argsL := [(.ref s109), (.ref s110)]) (rest := [(.ref b111)]) (lenOf own_pd8 rfl) rfl (by show 2 * 0 + _ ≤ _; exact Nat.le_of_eq rfl) (hb hby at_39) (fun _ _ => ⟨rfl, e111, (by decide : 10 + 0 ≤ _), (by decide : 20 + 0 ≤ _)⟩)
    dsimp only [Pt.U, Pt.locs, Pt.cells, Pt.slots] at X112 l112 y112 z112 st112 hQ112
    subst l112 y112 z112
    obtain ⟨rfl, N112q, K112, Ex112_q, Fq112_0, Fq112_1⟩ := hQ112
    have N112 := Fr.app N110 N112q
    have Z0_112 : n0 ≤ T112.heap.size := Nat.le_trans Z0_111 K112.1
    have F112_s109_value := F111_s109_value.keep K112 (ninS ne_s109_b111 nin0)
    have F112_s110_value := F111_s110_value.keep K112 (ninS ne_s110_b111 nin0)
    have Ex112_s109 := Ex111_s109.keep K112
    have Ex112_s110 := Ex111_s110.keep K112
    have Ex112_b111 := A111.keep K112
    have V112_t109 := V111_t109.keep K112 (ninS ne_t109_b111 nin0)
    have V112_t110 := V111_t110.keep K112 (ninS ne_t110_b111 nin0)
    have Od112 := Od111.keep K112 (allS gb_b111 all0)
    have kz_112 : T110.heap.size ≤ T112.heap.size := Nat.le_trans kz_111 K112.1
    refine own_st (V := T112.setTop (mkF m 42 #[.val (.int p1), .val (.int p2), .val (.int p3), .val (.int p4), .val (.int p5), .val (.int (1 : Int32)), .val (.int (0 : Int32)), .val (.ref s109), .val (.ref s110), .unset, .unset] [(.ref b111)])) (fun t k => st112.trans k) ?_
    refine own_st (V := T112.setTop (mkF m 44 #[.val (.int p1), .val (.int p2), .val (.int p3), .val (.int p4), .val (.int p5), .val (.int (1 : Int32)), .val (.int (0 : Int32)), .val (.ref s109), .val (.ref s110), .val (.ref b111), .unset] [])) (fun t k => XS.astore X112.here hx rfl (hb hby at_42) rfl rfl (l' := #[.val (.int p1), .val (.int p2), .val (.int p3), .val (.int p4), .val (.int p5), .val (.int (1 : Int32)), .val (.int (0 : Int32)), .val (.ref s109), .val (.ref s110), .val (.ref b111), .unset]) rfl k) ?_
    refine own_st (V := T112.setTop (mkF m 46 #[.val (.int p1), .val (.int p2), .val (.int p3), .val (.int p4), .val (.int p5), .val (.int (1 : Int32)), .val (.int (0 : Int32)), .val (.ref s109), .val (.ref s110), .val (.ref b111), .unset] [(.int (1 : Int32))])) (fun t k => XS.iload X112.here hx rfl (hb hby at_44) rfl k) ?_
    refine own_st (V := T112.setTop (mkF m 54 #[.val (.int p1), .val (.int p2), .val (.int p3), .val (.int p4), .val (.int p5), .val (.int (1 : Int32)), .val (.int (0 : Int32)), .val (.ref s109), .val (.ref s110), .val (.ref b111), .unset] [])) (fun t k => XS.ifYes X112.here hx rfl (pc0 := 46) (pc' := 54) rfl (hb hby at_46) rfl ((if0 _ _).trans (feq (by decide : ¬ ((1 : Int32) = (0 : Int32)))).2) (by decide) (by decide) k) ?_
    refine own_st (V := T112.setTop (mkF m 55 #[.val (.int p1), .val (.int p2), .val (.int p3), .val (.int p4), .val (.int p5), .val (.int (1 : Int32)), .val (.int (0 : Int32)), .val (.ref s109), .val (.ref s110), .val (.ref b111), .unset] [(.int (1 : Int32))])) (fun t k => XS.iconst X112.here hx rfl (hb hby at_54) k) ?_
    refine own_st (V := T112.setTop (mkF m 59 #[.val (.int p1), .val (.int p2), .val (.int p3), .val (.int p4), .val (.int p5), .val (.int (1 : Int32)), .val (.int (0 : Int32)), .val (.ref s109), .val (.ref s110), .val (.ref b111), .unset] [(.int (1 : Int32))])) (fun t k => XS.goto X112.here hx rfl (pc0 := 55) (pc' := 59) rfl (hb hby at_55) (by decide) (by decide) k) ?_
    refine own_st (V := T112.setTop (mkF m 61 #[.val (.int p1), .val (.int p2), .val (.int p3), .val (.int p4), .val (.int p5), .val (.int (1 : Int32)), .val (.int (0 : Int32)), .val (.ref s109), .val (.ref s110), .val (.ref b111), .val (.int (1 : Int32))] [])) (fun t k => XS.istore X112.here hx rfl (hb hby at_59) rfl (l' := #[.val (.int p1), .val (.int p2), .val (.int p3), .val (.int p4), .val (.int p5), .val (.int (1 : Int32)), .val (.int (0 : Int32)), .val (.ref s109), .val (.ref s110), .val (.ref b111), .val (.int (1 : Int32))]) rfl k) ?_
    refine own_st (V := T112.setTop (mkF m 63 #[.val (.int p1), .val (.int p2), .val (.int p3), .val (.int p4), .val (.int p5), .val (.int (1 : Int32)), .val (.int (0 : Int32)), .val (.ref s109), .val (.ref s110), .val (.ref b111), .val (.int (1 : Int32))] [(.ref b111)])) (fun t k => XS.aload X112.here hx rfl (hb hby at_61) rfl rfl k) ?_
    obtain ⟨cq113, kq113, q113a, q113b, q113c⟩ := isOf hZ_110 rfl Ex112_q
    obtain ⟨_, _, ⟨T113, L113, k113, n113⟩, -, X113, ⟨Lc113, hQ113, l113, y113, z113⟩, st113⟩ := X112.virtualBack hx (y := (⟨"com/example/tempora/tempora/core/Issue", "isGiven", "()Z"⟩ : MethodName)) (z := (⟨"com/example/tempora/tempora/core/Issue", "isGiven", "()Z"⟩ : MethodName)) hown_110 (mvT hZ_110 (hw _ (List.mem_of_getElem? (i := 42) rfl))) (mvT hZ_110 (hw _ (List.mem_of_getElem? (i := 43) rfl))) (notFace_of_selects (args := #[]) (mvT hZ_110 (hw _ (List.mem_of_getElem? (i := 45) rfl)))) (mvT hZ_110 (hw _ (List.mem_of_getElem? (i := 45) rfl))) (mvT hZ_110 (hw _ (List.mem_of_getElem? (i := 44) rfl))) (by decide) (backOf (W := 0) (own_ig10 l Z a0 hw [] b111 s109 s110 t109 t110 kt109 kt110 vst109 vst110 T112.heap n0 Z0_112 Fq112_0 Fq112_1 Ex112_s109 Ex112_s110 F112_s109_value F112_s110_value V112_t109 V112_t110) hZ_110 (hw _ (List.mem_of_getElem? (i := 46) rfl)) (hw _ (List.mem_of_getElem? (i := 28) rfl)) (by decide) (by decide)) q113a q113c (g := (mkF m 63 #[.val (.int p1), .val (.int p2), .val (.int p3), .val (.int p4), .val (.int p5), .val (.int (1 : Int32)), .val (.int (0 : Int32)), .val (.ref s109), .val (.ref s110), .val (.ref b111), .val (.int (1 : Int32))] [(.ref b111)])) rfl (by rw [hml]; rfl) (Steps.refl _) (argsL := []) (rest := []) (lenOf own_pd6 rfl) rfl (by show 2 * 0 + _ ≤ _; exact Nat.le_of_eq rfl) (hb hby at_63) (fun _ _ => ⟨rfl, rfl, (by decide : 10 + 0 ≤ _), (by decide : 20 + 0 ≤ _)⟩)
    dsimp only [Pt.U, Pt.locs, Pt.cells, Pt.slots] at X113 l113 y113 z113 st113 hQ113
    subst l113 y113 z113
    obtain ⟨rfl, N113q, e113⟩ := hQ113
    have N113 := Fr.app N112 N113q
    refine own_st (V := T113.setTop (mkF m 66 #[.val (.int p1), .val (.int p2), .val (.int p3), .val (.int p4), .val (.int p5), .val (.int (1 : Int32)), .val (.int (0 : Int32)), .val (.ref s109), .val (.ref s110), .val (.ref b111), .val (.int (1 : Int32))] [(.int (1 : Int32))])) (fun t k => st113.trans k) ?_
    refine own_st (V := T113.setTop (mkF m 68 #[.val (.int p1), .val (.int p2), .val (.int p3), .val (.int p4), .val (.int p5), .val (.int (1 : Int32)), .val (.int (0 : Int32)), .val (.ref s109), .val (.ref s110), .val (.ref b111), .val (.int (1 : Int32))] [(.int (1 : Int32)), (.int (1 : Int32))])) (fun t k => XS.iload X113.here hx rfl (hb hby at_66) rfl k) ?_
    refine own_st (V := T113.setTop (mkF m 71 #[.val (.int p1), .val (.int p2), .val (.int p3), .val (.int p4), .val (.int p5), .val (.int (1 : Int32)), .val (.int (0 : Int32)), .val (.ref s109), .val (.ref s110), .val (.ref b111), .val (.int (1 : Int32))] [])) (fun t k => XS.icmpNo X113.here hx rfl (hb hby at_68) rfl (teq (by decide : (1 : Int32) = (1 : Int32))).2 k) ?_
    refine own_st (V := T113.setTop (mkF m 72 #[.val (.int p1), .val (.int p2), .val (.int p3), .val (.int p4), .val (.int p5), .val (.int (1 : Int32)), .val (.int (0 : Int32)), .val (.ref s109), .val (.ref s110), .val (.ref b111), .val (.int (1 : Int32))] [(.int (1 : Int32))])) (fun t k => XS.iconst X113.here hx rfl (hb hby at_71) k) ?_
    refine own_st (V := T113.setTop (mkF m 76 #[.val (.int p1), .val (.int p2), .val (.int p3), .val (.int p4), .val (.int p5), .val (.int (1 : Int32)), .val (.int (0 : Int32)), .val (.ref s109), .val (.ref s110), .val (.ref b111), .val (.int (1 : Int32))] [(.int (1 : Int32))])) (fun t k => XS.goto X113.here hx rfl (pc0 := 72) (pc' := 76) rfl (hb hby at_72) (by decide) (by decide) k) ?_
    exact own_retW (s := s) hS_110 (by rw [e113]; exact kz_112) X113 hx hlk Bd.returns (by decide +kernel) (Or.inl ⟨rfl, by simp, _, rfl⟩) (hb hby at_76) (by decide) (by decide) ⟨rfl, N113⟩
  · rw [h2]
    refine own_st (V := s₁.setTop (mkF m 12 #[.val (.int p1), .val (.int p2), .val (.int p3), .val (.int p4), .val (.int p5), .val (.int (1 : Int32)), .val (.int (1 : Int32)), .unset, .unset, .unset, .unset] [])) (fun t k => XS.istore X0.here hx rfl (hb hby at_10) rfl (l' := #[.val (.int p1), .val (.int p2), .val (.int p3), .val (.int p4), .val (.int p5), .val (.int (1 : Int32)), .val (.int (1 : Int32)), .unset, .unset, .unset, .unset]) rfl k) ?_
    refine own_st (V := s₁.setTop (mkF m 14 #[.val (.int p1), .val (.int p2), .val (.int p3), .val (.int p4), .val (.int p5), .val (.int (1 : Int32)), .val (.int (1 : Int32)), .unset, .unset, .unset, .unset] [(.int (1 : Int32))])) (fun t k => XS.iload X0.here hx rfl (hb hby at_12) rfl k) ?_
    refine own_st (V := s₁.setTop (mkF m 15 #[.val (.int p1), .val (.int p2), .val (.int p3), .val (.int p4), .val (.int p5), .val (.int (1 : Int32)), .val (.int (1 : Int32)), .unset, .unset, .unset, .unset] [(.int p2), (.int (1 : Int32))])) (fun t k => XS.iloadN X0.here hx rfl (hb hby at_14) rfl k) ?_
    refine own_st (V := s₁.setTop (mkF m 16 #[.val (.int p1), .val (.int p2), .val (.int p3), .val (.int p4), .val (.int p5), .val (.int (1 : Int32)), .val (.int (1 : Int32)), .unset, .unset, .unset, .unset] [(.int p3), (.int p2), (.int (1 : Int32))])) (fun t k => XS.iloadN X0.here hx rfl (hb hby at_15) rfl k) ?_
    obtain ⟨_, _, ⟨T114, L114, k114, n114⟩, -, X114, ⟨Lc114, hQ114, l114, y114, z114⟩, st114⟩ := Jvm.LawKit.callS X0 hx (y := (⟨"com/example/tempora/tempora/core/IssueIsGivenPinLaw", "str", "(III)Ljava/lang/String;"⟩ : MethodName)) hown (mvT hZ (hw _ (List.mem_of_getElem? (i := 0) rfl))) (mvT hZ (hw _ (List.mem_of_getElem? (i := 1) rfl))) (mvT hZ (hw _ (List.mem_of_getElem? (i := 2) rfl))) (mvT hZ (hw _ (List.mem_of_getElem? (i := 3) rfl))) (by decide) (backOf (W := 0) (own_str1 l Z a0 hw [] p2 p3 cs h0 n0 Z0 Od SC hcs) hZ (hw _ (List.mem_of_getElem? (i := 3) rfl)) (hw _ (List.mem_of_getElem? (i := 2) rfl)) (by decide) (by decide)) (g := (mkF m 16 #[.val (.int p1), .val (.int p2), .val (.int p3), .val (.int p4), .val (.int p5), .val (.int (1 : Int32)), .val (.int (1 : Int32)), .unset, .unset, .unset, .unset] [(.int p3), (.int p2), (.int (1 : Int32))])) rfl (by rw [hml]; rfl) (argsL := [(.int (1 : Int32)), (.int p2), (.int p3)]) (rest := []) (lenOf own_pd7 rfl) rfl (by show 2 * 0 + _ ≤ _; exact Nat.le_of_eq rfl) (hb hby at_16) (fun _ _ => ⟨rfl, e0, (by decide : 0 + 3 ≤ _), (by decide : 0 + 6 ≤ _)⟩)
    dsimp only [Pt.U, Pt.locs, Pt.cells, Pt.slots] at X114 l114 y114 z114 st114 hQ114
    subst l114 y114 z114
    obtain ⟨s114, rfl, N114q, K114, Ex114_q, t114, kt114, vst114, Fq114_0, Vq114⟩ := hQ114
    have N114 := Fr.app N0 N114q
    have Z0_114 : n0 ≤ T114.heap.size := Nat.le_trans Z0 K114.1
    have Od114 := Od.keep K114 all0
    have kz_114 : 0 ≤ T114.heap.size := Nat.le_trans kz K114.1
    have Cr_114 := Cr.trans (CHr.keep K114 all0 Cr.1)
    refine own_st (V := T114.setTop (mkF m 19 #[.val (.int p1), .val (.int p2), .val (.int p3), .val (.int p4), .val (.int p5), .val (.int (1 : Int32)), .val (.int (1 : Int32)), .unset, .unset, .unset, .unset] [(.ref s114)])) (fun t k => st114 _ k) ?_
    refine own_st (V := T114.setTop (mkF m 21 #[.val (.int p1), .val (.int p2), .val (.int p3), .val (.int p4), .val (.int p5), .val (.int (1 : Int32)), .val (.int (1 : Int32)), .val (.ref s114), .unset, .unset, .unset] [])) (fun t k => XS.astore X114.here hx rfl (hb hby at_19) rfl rfl (l' := #[.val (.int p1), .val (.int p2), .val (.int p3), .val (.int p4), .val (.int p5), .val (.int (1 : Int32)), .val (.int (1 : Int32)), .val (.ref s114), .unset, .unset, .unset]) rfl k) ?_
    refine own_st (V := T114.setTop (mkF m 23 #[.val (.int p1), .val (.int p2), .val (.int p3), .val (.int p4), .val (.int p5), .val (.int (1 : Int32)), .val (.int (1 : Int32)), .val (.ref s114), .unset, .unset, .unset] [(.int (1 : Int32))])) (fun t k => XS.iload X114.here hx rfl (hb hby at_21) rfl k) ?_
    refine own_st (V := T114.setTop (mkF m 24 #[.val (.int p1), .val (.int p2), .val (.int p3), .val (.int p4), .val (.int p5), .val (.int (1 : Int32)), .val (.int (1 : Int32)), .val (.ref s114), .unset, .unset, .unset] [(.int p4), (.int (1 : Int32))])) (fun t k => XS.iloadN X114.here hx rfl (hb hby at_23) rfl k) ?_
    refine own_st (V := T114.setTop (mkF m 26 #[.val (.int p1), .val (.int p2), .val (.int p3), .val (.int p4), .val (.int p5), .val (.int (1 : Int32)), .val (.int (1 : Int32)), .val (.ref s114), .unset, .unset, .unset] [(.int p5), (.int p4), (.int (1 : Int32))])) (fun t k => XS.iload X114.here hx rfl (hb hby at_24) rfl k) ?_
    obtain ⟨_, _, ⟨T115, L115, k115, n115⟩, -, X115, ⟨Lc115, hQ115, l115, y115, z115⟩, st115⟩ := Jvm.LawKit.callS X114 hx (y := (⟨"com/example/tempora/tempora/core/IssueIsGivenPinLaw", "str", "(III)Ljava/lang/String;"⟩ : MethodName)) hown (mvT hZ (hw _ (List.mem_of_getElem? (i := 0) rfl))) (mvT hZ (hw _ (List.mem_of_getElem? (i := 1) rfl))) (mvT hZ (hw _ (List.mem_of_getElem? (i := 2) rfl))) (mvT hZ (hw _ (List.mem_of_getElem? (i := 3) rfl))) (by decide) (backOf (W := 0) (own_str1 l Z a0 hw [] p4 p5 cs T114.heap n0 Z0_114 Od114 SC hcs) hZ (hw _ (List.mem_of_getElem? (i := 3) rfl)) (hw _ (List.mem_of_getElem? (i := 2) rfl)) (by decide) (by decide)) (g := (mkF m 26 #[.val (.int p1), .val (.int p2), .val (.int p3), .val (.int p4), .val (.int p5), .val (.int (1 : Int32)), .val (.int (1 : Int32)), .val (.ref s114), .unset, .unset, .unset] [(.int p5), (.int p4), (.int (1 : Int32))])) rfl (by rw [hml]; rfl) (argsL := [(.int (1 : Int32)), (.int p4), (.int p5)]) (rest := []) (lenOf own_pd7 rfl) rfl (by show 2 * 0 + _ ≤ _; exact Nat.le_of_eq rfl) (hb hby at_26) (fun _ _ => ⟨rfl, rfl, (by decide : 3 + 3 ≤ _), (by decide : 6 + 6 ≤ _)⟩)
    dsimp only [Pt.U, Pt.locs, Pt.cells, Pt.slots] at X115 l115 y115 z115 st115 hQ115
    subst l115 y115 z115
    obtain ⟨s115, rfl, N115q, K115, Ex115_q, t115, kt115, vst115, Fq115_0, Vq115⟩ := hQ115
    have N115 := Fr.app N114 N115q
    have Z0_115 : n0 ≤ T115.heap.size := Nat.le_trans Z0_114 K115.1
    have F115_s114_value := Fq114_0.keep K115 nin0
    have Ex115_s114 := Ex114_q.keep K115
    have V115_t114 := Vq114.keep K115 nin0
    have Od115 := Od114.keep K115 all0
    have kz_115 : 0 ≤ T115.heap.size := Nat.le_trans kz_114 K115.1
    refine own_st (V := T115.setTop (mkF m 29 #[.val (.int p1), .val (.int p2), .val (.int p3), .val (.int p4), .val (.int p5), .val (.int (1 : Int32)), .val (.int (1 : Int32)), .val (.ref s114), .unset, .unset, .unset] [(.ref s115)])) (fun t k => st115 _ k) ?_
    refine own_st (V := T115.setTop (mkF m 31 #[.val (.int p1), .val (.int p2), .val (.int p3), .val (.int p4), .val (.int p5), .val (.int (1 : Int32)), .val (.int (1 : Int32)), .val (.ref s114), .val (.ref s115), .unset, .unset] [])) (fun t k => XS.astore X115.here hx rfl (hb hby at_29) rfl rfl (l' := #[.val (.int p1), .val (.int p2), .val (.int p3), .val (.int p4), .val (.int p5), .val (.int (1 : Int32)), .val (.int (1 : Int32)), .val (.ref s114), .val (.ref s115), .unset, .unset]) rfl k) ?_
    obtain ⟨T116, h116, X116, e116, E116, A116, D116, -, st116⟩ := newO X115 hx hZ hown (hw _ (List.mem_of_getElem? (i := 26) rfl)) (hw _ (List.mem_of_getElem? (i := 27) rfl)) (hw _ (List.mem_of_getElem? (i := 28) rfl)) rfl (g := (mkF m 31 #[.val (.int p1), .val (.int p2), .val (.int p3), .val (.int p4), .val (.int p5), .val (.int (1 : Int32)), .val (.int (1 : Int32)), .val (.ref s114), .val (.ref s115), .unset, .unset] [])) rfl (hb hby at_31) (by decide) (by decide)
    obtain ⟨b116, g116⟩ : ∃ z, z = T115.heap.size := ⟨_, rfl⟩
    rw [← g116] at A116 D116 st116
    have gb_b116 : n0 ≤ b116 := Nat.le_trans Z0_115 (Nat.le_of_eq g116.symm)
    have Z0_116 : n0 ≤ h116.size := Nat.le_trans Z0_115 E116.1
    have ne_t114_b116 : t114 ≠ b116 := Nat.ne_of_lt (Nat.lt_of_lt_of_le V115_t114.lt (Nat.le_of_eq g116.symm))
    have ne_t115_b116 : t115 ≠ b116 := Nat.ne_of_lt (Nat.lt_of_lt_of_le Vq115.lt (Nat.le_of_eq g116.symm))
    have ne_s114_b116 : s114 ≠ b116 := Nat.ne_of_lt (Nat.lt_of_lt_of_le Ex115_s114.lt (Nat.le_of_eq g116.symm))
    have ne_s115_b116 : s115 ≠ b116 := Nat.ne_of_lt (Nat.lt_of_lt_of_le Ex115_q.lt (Nat.le_of_eq g116.symm))
    have F116_s114_value := F115_s114_value.ext E116
    have F116_s115_value := Fq115_0.ext E116
    have Ex116_s114 := Ex115_s114.ext E116
    have Ex116_s115 := Ex115_q.ext E116
    have V116_t114 := V115_t114.ext E116
    have V116_t115 := Vq115.ext E116
    have Od116 := Od115.ext E116
    have kz_116 : 0 ≤ h116.size := Nat.le_trans kz_115 E116.1
    have F116_b116_designation : Fld Z h116 b116 "com/example/tempora/tempora/core/Issue" "designation" "Ljava/lang/String;" .null := D116 (Or.inr (hw _ (List.mem_of_getElem? (i := 39) rfl))) (ty := (.object "java/lang/String")) (by decide)
    have F116_b116_date : Fld Z h116 b116 "com/example/tempora/tempora/core/Issue" "date" "Ljava/lang/String;" .null := D116 (Or.inr (hw _ (List.mem_of_getElem? (i := 41) rfl))) (ty := (.object "java/lang/String")) (by decide)
    refine own_st (V := T116.setTop (mkF m 34 #[.val (.int p1), .val (.int p2), .val (.int p3), .val (.int p4), .val (.int p5), .val (.int (1 : Int32)), .val (.int (1 : Int32)), .val (.ref s114), .val (.ref s115), .unset, .unset] [(.ref b116)])) (fun t k => st116 _ k) ?_
    refine own_st (V := T116.setTop (mkF m 35 #[.val (.int p1), .val (.int p2), .val (.int p3), .val (.int p4), .val (.int p5), .val (.int (1 : Int32)), .val (.int (1 : Int32)), .val (.ref s114), .val (.ref s115), .unset, .unset] [(.ref b116), (.ref b116)])) (fun t k => XS.dup X116.here hx rfl (hb hby at_34) rfl rfl k) ?_
    refine own_st (V := T116.setTop (mkF m 37 #[.val (.int p1), .val (.int p2), .val (.int p3), .val (.int p4), .val (.int p5), .val (.int (1 : Int32)), .val (.int (1 : Int32)), .val (.ref s114), .val (.ref s115), .unset, .unset] [(.ref s114), (.ref b116), (.ref b116)])) (fun t k => XS.aload X116.here hx rfl (hb hby at_35) rfl rfl k) ?_
    refine own_st (V := T116.setTop (mkF m 39 #[.val (.int p1), .val (.int p2), .val (.int p3), .val (.int p4), .val (.int p5), .val (.int (1 : Int32)), .val (.int (1 : Int32)), .val (.ref s114), .val (.ref s115), .unset, .unset] [(.ref s115), (.ref s114), (.ref b116), (.ref b116)])) (fun t k => XS.aload X116.here hx rfl (hb hby at_37) rfl rfl k) ?_
    obtain ⟨_, _, ⟨T117, L117, k117, n117⟩, -, X117, ⟨Lc117, hQ117, l117, y117, z117⟩, st117⟩ := X116.specialBack hx (y := (⟨"com/example/tempora/tempora/core/Issue", "<init>", "(Ljava/lang/String;Ljava/lang/String;)V"⟩ : MethodName)) rfl hown (mvT hZ (hw _ (List.mem_of_getElem? (i := 29) rfl))) (mvT hZ (hw _ (List.mem_of_getElem? (i := 30) rfl))) (mvT hZ (hw _ (List.mem_of_getElem? (i := 31) rfl))) (by decide) (backOf (W := 1) (own_ii l Z a0 hw [] b116 s114 s115 h116 n0 Z0_116 F116_b116_designation F116_b116_date A116 gb_b116) hZ (hw _ (List.mem_of_getElem? (i := 31) rfl)) (hw _ (List.mem_of_getElem? (i := 28) rfl)) (by decide) (by decide)) (g := (mkF m 39 #[.val (.int p1), .val (.int p2), .val (.int p3), .val (.int p4), .val (.int p5), .val (.int (1 : Int32)), .val (.int (1 : Int32)), .val (.ref s114), .val (.ref s115), .unset, .unset] [(.ref s115), (.ref s114), (.ref b116), (.ref b116)])) rfl (by rw [hml]; rfl) (Steps.refl _) (a := b116) (argsL := [(.ref s114), (.ref s115)]) (rest := [(.ref b116)]) (lenOf own_pd8 rfl) rfl (by show 2 * 0 + _ ≤ _; exact Nat.le_of_eq rfl) (hb hby at_39) (fun _ _ => ⟨rfl, e116, (by decide : 7 + 0 ≤ _), (by decide : 14 + 0 ≤ _)⟩)
    dsimp only [Pt.U, Pt.locs, Pt.cells, Pt.slots] at X117 l117 y117 z117 st117 hQ117
    subst l117 y117 z117
    obtain ⟨rfl, N117q, K117, Ex117_q, Fq117_0, Fq117_1⟩ := hQ117
    have N117 := Fr.app N115 N117q
    have Z0_117 : n0 ≤ T117.heap.size := Nat.le_trans Z0_116 K117.1
    have F117_s114_value := F116_s114_value.keep K117 (ninS ne_s114_b116 nin0)
    have F117_s115_value := F116_s115_value.keep K117 (ninS ne_s115_b116 nin0)
    have Ex117_s114 := Ex116_s114.keep K117
    have Ex117_s115 := Ex116_s115.keep K117
    have Ex117_b116 := A116.keep K117
    have V117_t114 := V116_t114.keep K117 (ninS ne_t114_b116 nin0)
    have V117_t115 := V116_t115.keep K117 (ninS ne_t115_b116 nin0)
    have Od117 := Od116.keep K117 (allS gb_b116 all0)
    have kz_117 : 0 ≤ T117.heap.size := Nat.le_trans kz_116 K117.1
    refine own_st (V := T117.setTop (mkF m 42 #[.val (.int p1), .val (.int p2), .val (.int p3), .val (.int p4), .val (.int p5), .val (.int (1 : Int32)), .val (.int (1 : Int32)), .val (.ref s114), .val (.ref s115), .unset, .unset] [(.ref b116)])) (fun t k => st117.trans k) ?_
    refine own_st (V := T117.setTop (mkF m 44 #[.val (.int p1), .val (.int p2), .val (.int p3), .val (.int p4), .val (.int p5), .val (.int (1 : Int32)), .val (.int (1 : Int32)), .val (.ref s114), .val (.ref s115), .val (.ref b116), .unset] [])) (fun t k => XS.astore X117.here hx rfl (hb hby at_42) rfl rfl (l' := #[.val (.int p1), .val (.int p2), .val (.int p3), .val (.int p4), .val (.int p5), .val (.int (1 : Int32)), .val (.int (1 : Int32)), .val (.ref s114), .val (.ref s115), .val (.ref b116), .unset]) rfl k) ?_
    refine own_st (V := T117.setTop (mkF m 46 #[.val (.int p1), .val (.int p2), .val (.int p3), .val (.int p4), .val (.int p5), .val (.int (1 : Int32)), .val (.int (1 : Int32)), .val (.ref s114), .val (.ref s115), .val (.ref b116), .unset] [(.int (1 : Int32))])) (fun t k => XS.iload X117.here hx rfl (hb hby at_44) rfl k) ?_
    refine own_st (V := T117.setTop (mkF m 54 #[.val (.int p1), .val (.int p2), .val (.int p3), .val (.int p4), .val (.int p5), .val (.int (1 : Int32)), .val (.int (1 : Int32)), .val (.ref s114), .val (.ref s115), .val (.ref b116), .unset] [])) (fun t k => XS.ifYes X117.here hx rfl (pc0 := 46) (pc' := 54) rfl (hb hby at_46) rfl ((if0 _ _).trans (feq (by decide : ¬ ((1 : Int32) = (0 : Int32)))).2) (by decide) (by decide) k) ?_
    refine own_st (V := T117.setTop (mkF m 55 #[.val (.int p1), .val (.int p2), .val (.int p3), .val (.int p4), .val (.int p5), .val (.int (1 : Int32)), .val (.int (1 : Int32)), .val (.ref s114), .val (.ref s115), .val (.ref b116), .unset] [(.int (1 : Int32))])) (fun t k => XS.iconst X117.here hx rfl (hb hby at_54) k) ?_
    refine own_st (V := T117.setTop (mkF m 59 #[.val (.int p1), .val (.int p2), .val (.int p3), .val (.int p4), .val (.int p5), .val (.int (1 : Int32)), .val (.int (1 : Int32)), .val (.ref s114), .val (.ref s115), .val (.ref b116), .unset] [(.int (1 : Int32))])) (fun t k => XS.goto X117.here hx rfl (pc0 := 55) (pc' := 59) rfl (hb hby at_55) (by decide) (by decide) k) ?_
    refine own_st (V := T117.setTop (mkF m 61 #[.val (.int p1), .val (.int p2), .val (.int p3), .val (.int p4), .val (.int p5), .val (.int (1 : Int32)), .val (.int (1 : Int32)), .val (.ref s114), .val (.ref s115), .val (.ref b116), .val (.int (1 : Int32))] [])) (fun t k => XS.istore X117.here hx rfl (hb hby at_59) rfl (l' := #[.val (.int p1), .val (.int p2), .val (.int p3), .val (.int p4), .val (.int p5), .val (.int (1 : Int32)), .val (.int (1 : Int32)), .val (.ref s114), .val (.ref s115), .val (.ref b116), .val (.int (1 : Int32))]) rfl k) ?_
    refine own_st (V := T117.setTop (mkF m 63 #[.val (.int p1), .val (.int p2), .val (.int p3), .val (.int p4), .val (.int p5), .val (.int (1 : Int32)), .val (.int (1 : Int32)), .val (.ref s114), .val (.ref s115), .val (.ref b116), .val (.int (1 : Int32))] [(.ref b116)])) (fun t k => XS.aload X117.here hx rfl (hb hby at_61) rfl rfl k) ?_
    obtain ⟨cq118, kq118, q118a, q118b, q118c⟩ := isOf hZ rfl Ex117_q
    obtain ⟨_, _, ⟨T118, L118, k118, n118⟩, -, X118, ⟨Lc118, hQ118, l118, y118, z118⟩, st118⟩ := X117.virtualBack hx (y := (⟨"com/example/tempora/tempora/core/Issue", "isGiven", "()Z"⟩ : MethodName)) (z := (⟨"com/example/tempora/tempora/core/Issue", "isGiven", "()Z"⟩ : MethodName)) hown (mvT hZ (hw _ (List.mem_of_getElem? (i := 42) rfl))) (mvT hZ (hw _ (List.mem_of_getElem? (i := 43) rfl))) (notFace_of_selects (args := #[]) (mvT hZ (hw _ (List.mem_of_getElem? (i := 45) rfl)))) (mvT hZ (hw _ (List.mem_of_getElem? (i := 45) rfl))) (mvT hZ (hw _ (List.mem_of_getElem? (i := 44) rfl))) (by decide) (backOf (W := 0) (own_ig11 l Z a0 hw [] b116 s114 s115 t114 t115 kt114 kt115 vst114 vst115 T117.heap n0 Z0_117 Fq117_0 Fq117_1 Ex117_s114 Ex117_s115 F117_s114_value F117_s115_value V117_t114 V117_t115) hZ (hw _ (List.mem_of_getElem? (i := 46) rfl)) (hw _ (List.mem_of_getElem? (i := 28) rfl)) (by decide) (by decide)) q118a q118c (g := (mkF m 63 #[.val (.int p1), .val (.int p2), .val (.int p3), .val (.int p4), .val (.int p5), .val (.int (1 : Int32)), .val (.int (1 : Int32)), .val (.ref s114), .val (.ref s115), .val (.ref b116), .val (.int (1 : Int32))] [(.ref b116)])) rfl (by rw [hml]; rfl) (Steps.refl _) (argsL := []) (rest := []) (lenOf own_pd6 rfl) rfl (by show 2 * 0 + _ ≤ _; exact Nat.le_of_eq rfl) (hb hby at_63) (fun _ _ => ⟨rfl, rfl, (by decide : 7 + 0 ≤ _), (by decide : 14 + 0 ≤ _)⟩)
    dsimp only [Pt.U, Pt.locs, Pt.cells, Pt.slots] at X118 l118 y118 z118 st118 hQ118
    subst l118 y118 z118
    obtain ⟨rfl, N118q, e118⟩ := hQ118
    have N118 := Fr.app N117 N118q
    refine own_st (V := T118.setTop (mkF m 66 #[.val (.int p1), .val (.int p2), .val (.int p3), .val (.int p4), .val (.int p5), .val (.int (1 : Int32)), .val (.int (1 : Int32)), .val (.ref s114), .val (.ref s115), .val (.ref b116), .val (.int (1 : Int32))] [(.int (1 : Int32))])) (fun t k => st118.trans k) ?_
    refine own_st (V := T118.setTop (mkF m 68 #[.val (.int p1), .val (.int p2), .val (.int p3), .val (.int p4), .val (.int p5), .val (.int (1 : Int32)), .val (.int (1 : Int32)), .val (.ref s114), .val (.ref s115), .val (.ref b116), .val (.int (1 : Int32))] [(.int (1 : Int32)), (.int (1 : Int32))])) (fun t k => XS.iload X118.here hx rfl (hb hby at_66) rfl k) ?_
    refine own_st (V := T118.setTop (mkF m 71 #[.val (.int p1), .val (.int p2), .val (.int p3), .val (.int p4), .val (.int p5), .val (.int (1 : Int32)), .val (.int (1 : Int32)), .val (.ref s114), .val (.ref s115), .val (.ref b116), .val (.int (1 : Int32))] [])) (fun t k => XS.icmpNo X118.here hx rfl (hb hby at_68) rfl (teq (by decide : (1 : Int32) = (1 : Int32))).2 k) ?_
    refine own_st (V := T118.setTop (mkF m 72 #[.val (.int p1), .val (.int p2), .val (.int p3), .val (.int p4), .val (.int p5), .val (.int (1 : Int32)), .val (.int (1 : Int32)), .val (.ref s114), .val (.ref s115), .val (.ref b116), .val (.int (1 : Int32))] [(.int (1 : Int32))])) (fun t k => XS.iconst X118.here hx rfl (hb hby at_71) k) ?_
    refine own_st (V := T118.setTop (mkF m 76 #[.val (.int p1), .val (.int p2), .val (.int p3), .val (.int p4), .val (.int p5), .val (.int (1 : Int32)), .val (.int (1 : Int32)), .val (.ref s114), .val (.ref s115), .val (.ref b116), .val (.int (1 : Int32))] [(.int (1 : Int32))])) (fun t k => XS.goto X118.here hx rfl (pc0 := 72) (pc' := 76) rfl (hb hby at_72) (by decide) (by decide) k) ?_
    exact own_retW (s := s) hSi (by rw [e118]; exact kz_117) X118 hx hlk Bd.returns (by decide +kernel) (Or.inl ⟨rfl, by simp, _, rfl⟩) (hb hby at_76) (by decide) (by decide) ⟨rfl, N118⟩
  · rw [h2]
    refine own_st (V := s₁.setTop (mkF m 12 #[.val (.int p1), .val (.int p2), .val (.int p3), .val (.int p4), .val (.int p5), .val (.int (1 : Int32)), .val (.int (2 : Int32)), .unset, .unset, .unset, .unset] [])) (fun t k => XS.istore X0.here hx rfl (hb hby at_10) rfl (l' := #[.val (.int p1), .val (.int p2), .val (.int p3), .val (.int p4), .val (.int p5), .val (.int (1 : Int32)), .val (.int (2 : Int32)), .unset, .unset, .unset, .unset]) rfl k) ?_
    refine own_st (V := s₁.setTop (mkF m 14 #[.val (.int p1), .val (.int p2), .val (.int p3), .val (.int p4), .val (.int p5), .val (.int (1 : Int32)), .val (.int (2 : Int32)), .unset, .unset, .unset, .unset] [(.int (1 : Int32))])) (fun t k => XS.iload X0.here hx rfl (hb hby at_12) rfl k) ?_
    refine own_st (V := s₁.setTop (mkF m 15 #[.val (.int p1), .val (.int p2), .val (.int p3), .val (.int p4), .val (.int p5), .val (.int (1 : Int32)), .val (.int (2 : Int32)), .unset, .unset, .unset, .unset] [(.int p2), (.int (1 : Int32))])) (fun t k => XS.iloadN X0.here hx rfl (hb hby at_14) rfl k) ?_
    refine own_st (V := s₁.setTop (mkF m 16 #[.val (.int p1), .val (.int p2), .val (.int p3), .val (.int p4), .val (.int p5), .val (.int (1 : Int32)), .val (.int (2 : Int32)), .unset, .unset, .unset, .unset] [(.int p3), (.int p2), (.int (1 : Int32))])) (fun t k => XS.iloadN X0.here hx rfl (hb hby at_15) rfl k) ?_
    obtain ⟨_, _, ⟨T119, L119, k119, n119⟩, -, X119, ⟨Lc119, hQ119, l119, y119, z119⟩, st119⟩ := Jvm.LawKit.callS X0 hx (y := (⟨"com/example/tempora/tempora/core/IssueIsGivenPinLaw", "str", "(III)Ljava/lang/String;"⟩ : MethodName)) hown (mvT hZ (hw _ (List.mem_of_getElem? (i := 0) rfl))) (mvT hZ (hw _ (List.mem_of_getElem? (i := 1) rfl))) (mvT hZ (hw _ (List.mem_of_getElem? (i := 2) rfl))) (mvT hZ (hw _ (List.mem_of_getElem? (i := 3) rfl))) (by decide) (backOf (W := 0) (own_str1 l Z a0 hw [] p2 p3 cs h0 n0 Z0 Od SC hcs) hZ (hw _ (List.mem_of_getElem? (i := 3) rfl)) (hw _ (List.mem_of_getElem? (i := 2) rfl)) (by decide) (by decide)) (g := (mkF m 16 #[.val (.int p1), .val (.int p2), .val (.int p3), .val (.int p4), .val (.int p5), .val (.int (1 : Int32)), .val (.int (2 : Int32)), .unset, .unset, .unset, .unset] [(.int p3), (.int p2), (.int (1 : Int32))])) rfl (by rw [hml]; rfl) (argsL := [(.int (1 : Int32)), (.int p2), (.int p3)]) (rest := []) (lenOf own_pd7 rfl) rfl (by show 2 * 0 + _ ≤ _; exact Nat.le_of_eq rfl) (hb hby at_16) (fun _ _ => ⟨rfl, e0, (by decide : 0 + 3 ≤ _), (by decide : 0 + 6 ≤ _)⟩)
    dsimp only [Pt.U, Pt.locs, Pt.cells, Pt.slots] at X119 l119 y119 z119 st119 hQ119
    subst l119 y119 z119
    obtain ⟨s119, rfl, N119q, K119, Ex119_q, t119, kt119, vst119, Fq119_0, Vq119⟩ := hQ119
    have N119 := Fr.app N0 N119q
    have Z0_119 : n0 ≤ T119.heap.size := Nat.le_trans Z0 K119.1
    have Od119 := Od.keep K119 all0
    have kz_119 : 0 ≤ T119.heap.size := Nat.le_trans kz K119.1
    have Cr_119 := Cr.trans (CHr.keep K119 all0 Cr.1)
    refine own_st (V := T119.setTop (mkF m 19 #[.val (.int p1), .val (.int p2), .val (.int p3), .val (.int p4), .val (.int p5), .val (.int (1 : Int32)), .val (.int (2 : Int32)), .unset, .unset, .unset, .unset] [(.ref s119)])) (fun t k => st119 _ k) ?_
    refine own_st (V := T119.setTop (mkF m 21 #[.val (.int p1), .val (.int p2), .val (.int p3), .val (.int p4), .val (.int p5), .val (.int (1 : Int32)), .val (.int (2 : Int32)), .val (.ref s119), .unset, .unset, .unset] [])) (fun t k => XS.astore X119.here hx rfl (hb hby at_19) rfl rfl (l' := #[.val (.int p1), .val (.int p2), .val (.int p3), .val (.int p4), .val (.int p5), .val (.int (1 : Int32)), .val (.int (2 : Int32)), .val (.ref s119), .unset, .unset, .unset]) rfl k) ?_
    refine own_st (V := T119.setTop (mkF m 23 #[.val (.int p1), .val (.int p2), .val (.int p3), .val (.int p4), .val (.int p5), .val (.int (1 : Int32)), .val (.int (2 : Int32)), .val (.ref s119), .unset, .unset, .unset] [(.int (2 : Int32))])) (fun t k => XS.iload X119.here hx rfl (hb hby at_21) rfl k) ?_
    refine own_st (V := T119.setTop (mkF m 24 #[.val (.int p1), .val (.int p2), .val (.int p3), .val (.int p4), .val (.int p5), .val (.int (1 : Int32)), .val (.int (2 : Int32)), .val (.ref s119), .unset, .unset, .unset] [(.int p4), (.int (2 : Int32))])) (fun t k => XS.iloadN X119.here hx rfl (hb hby at_23) rfl k) ?_
    refine own_st (V := T119.setTop (mkF m 26 #[.val (.int p1), .val (.int p2), .val (.int p3), .val (.int p4), .val (.int p5), .val (.int (1 : Int32)), .val (.int (2 : Int32)), .val (.ref s119), .unset, .unset, .unset] [(.int p5), (.int p4), (.int (2 : Int32))])) (fun t k => XS.iload X119.here hx rfl (hb hby at_24) rfl k) ?_
    obtain ⟨_, _, ⟨T120, L120, k120, n120⟩, -, X120, ⟨Lc120, hQ120, l120, y120, z120⟩, st120⟩ := Jvm.LawKit.callS X119 hx (y := (⟨"com/example/tempora/tempora/core/IssueIsGivenPinLaw", "str", "(III)Ljava/lang/String;"⟩ : MethodName)) hown (mvT hZ (hw _ (List.mem_of_getElem? (i := 0) rfl))) (mvT hZ (hw _ (List.mem_of_getElem? (i := 1) rfl))) (mvT hZ (hw _ (List.mem_of_getElem? (i := 2) rfl))) (mvT hZ (hw _ (List.mem_of_getElem? (i := 3) rfl))) (by decide) (backOf (W := 0) (own_str2 l Z a0 hw [] p4 p5 cs T119.heap n0 Z0_119 Od119 SC hcs) hZ (hw _ (List.mem_of_getElem? (i := 3) rfl)) (hw _ (List.mem_of_getElem? (i := 2) rfl)) (by decide) (by decide)) (g := (mkF m 26 #[.val (.int p1), .val (.int p2), .val (.int p3), .val (.int p4), .val (.int p5), .val (.int (1 : Int32)), .val (.int (2 : Int32)), .val (.ref s119), .unset, .unset, .unset] [(.int p5), (.int p4), (.int (2 : Int32))])) rfl (by rw [hml]; rfl) (argsL := [(.int (2 : Int32)), (.int p4), (.int p5)]) (rest := []) (lenOf own_pd7 rfl) rfl (by show 2 * 0 + _ ≤ _; exact Nat.le_of_eq rfl) (hb hby at_26) (fun _ _ => ⟨rfl, rfl, (by decide : 3 + 3 ≤ _), (by decide : 6 + 8 ≤ _)⟩)
    dsimp only [Pt.U, Pt.locs, Pt.cells, Pt.slots] at X120 l120 y120 z120 st120 hQ120
    subst l120 y120 z120
    obtain ⟨s120, rfl, N120q, K120, Ex120_q, t120, kt120, vst120, Fq120_0, Vq120⟩ := hQ120
    have N120 := Fr.app N119 N120q
    have Z0_120 : n0 ≤ T120.heap.size := Nat.le_trans Z0_119 K120.1
    have F120_s119_value := Fq119_0.keep K120 nin0
    have Ex120_s119 := Ex119_q.keep K120
    have V120_t119 := Vq119.keep K120 nin0
    have Od120 := Od119.keep K120 all0
    have kz_120 : 0 ≤ T120.heap.size := Nat.le_trans kz_119 K120.1
    refine own_st (V := T120.setTop (mkF m 29 #[.val (.int p1), .val (.int p2), .val (.int p3), .val (.int p4), .val (.int p5), .val (.int (1 : Int32)), .val (.int (2 : Int32)), .val (.ref s119), .unset, .unset, .unset] [(.ref s120)])) (fun t k => st120 _ k) ?_
    refine own_st (V := T120.setTop (mkF m 31 #[.val (.int p1), .val (.int p2), .val (.int p3), .val (.int p4), .val (.int p5), .val (.int (1 : Int32)), .val (.int (2 : Int32)), .val (.ref s119), .val (.ref s120), .unset, .unset] [])) (fun t k => XS.astore X120.here hx rfl (hb hby at_29) rfl rfl (l' := #[.val (.int p1), .val (.int p2), .val (.int p3), .val (.int p4), .val (.int p5), .val (.int (1 : Int32)), .val (.int (2 : Int32)), .val (.ref s119), .val (.ref s120), .unset, .unset]) rfl k) ?_
    obtain ⟨T121, h121, X121, e121, E121, A121, D121, -, st121⟩ := newO X120 hx hZ hown (hw _ (List.mem_of_getElem? (i := 26) rfl)) (hw _ (List.mem_of_getElem? (i := 27) rfl)) (hw _ (List.mem_of_getElem? (i := 28) rfl)) rfl (g := (mkF m 31 #[.val (.int p1), .val (.int p2), .val (.int p3), .val (.int p4), .val (.int p5), .val (.int (1 : Int32)), .val (.int (2 : Int32)), .val (.ref s119), .val (.ref s120), .unset, .unset] [])) rfl (hb hby at_31) (by decide) (by decide)
    obtain ⟨b121, g121⟩ : ∃ z, z = T120.heap.size := ⟨_, rfl⟩
    rw [← g121] at A121 D121 st121
    have gb_b121 : n0 ≤ b121 := Nat.le_trans Z0_120 (Nat.le_of_eq g121.symm)
    have Z0_121 : n0 ≤ h121.size := Nat.le_trans Z0_120 E121.1
    have ne_t119_b121 : t119 ≠ b121 := Nat.ne_of_lt (Nat.lt_of_lt_of_le V120_t119.lt (Nat.le_of_eq g121.symm))
    have ne_t120_b121 : t120 ≠ b121 := Nat.ne_of_lt (Nat.lt_of_lt_of_le Vq120.lt (Nat.le_of_eq g121.symm))
    have ne_s119_b121 : s119 ≠ b121 := Nat.ne_of_lt (Nat.lt_of_lt_of_le Ex120_s119.lt (Nat.le_of_eq g121.symm))
    have ne_s120_b121 : s120 ≠ b121 := Nat.ne_of_lt (Nat.lt_of_lt_of_le Ex120_q.lt (Nat.le_of_eq g121.symm))
    have F121_s119_value := F120_s119_value.ext E121
    have F121_s120_value := Fq120_0.ext E121
    have Ex121_s119 := Ex120_s119.ext E121
    have Ex121_s120 := Ex120_q.ext E121
    have V121_t119 := V120_t119.ext E121
    have V121_t120 := Vq120.ext E121
    have Od121 := Od120.ext E121
    have kz_121 : 0 ≤ h121.size := Nat.le_trans kz_120 E121.1
    have F121_b121_designation : Fld Z h121 b121 "com/example/tempora/tempora/core/Issue" "designation" "Ljava/lang/String;" .null := D121 (Or.inr (hw _ (List.mem_of_getElem? (i := 39) rfl))) (ty := (.object "java/lang/String")) (by decide)
    have F121_b121_date : Fld Z h121 b121 "com/example/tempora/tempora/core/Issue" "date" "Ljava/lang/String;" .null := D121 (Or.inr (hw _ (List.mem_of_getElem? (i := 41) rfl))) (ty := (.object "java/lang/String")) (by decide)
    refine own_st (V := T121.setTop (mkF m 34 #[.val (.int p1), .val (.int p2), .val (.int p3), .val (.int p4), .val (.int p5), .val (.int (1 : Int32)), .val (.int (2 : Int32)), .val (.ref s119), .val (.ref s120), .unset, .unset] [(.ref b121)])) (fun t k => st121 _ k) ?_
    refine own_st (V := T121.setTop (mkF m 35 #[.val (.int p1), .val (.int p2), .val (.int p3), .val (.int p4), .val (.int p5), .val (.int (1 : Int32)), .val (.int (2 : Int32)), .val (.ref s119), .val (.ref s120), .unset, .unset] [(.ref b121), (.ref b121)])) (fun t k => XS.dup X121.here hx rfl (hb hby at_34) rfl rfl k) ?_
    refine own_st (V := T121.setTop (mkF m 37 #[.val (.int p1), .val (.int p2), .val (.int p3), .val (.int p4), .val (.int p5), .val (.int (1 : Int32)), .val (.int (2 : Int32)), .val (.ref s119), .val (.ref s120), .unset, .unset] [(.ref s119), (.ref b121), (.ref b121)])) (fun t k => XS.aload X121.here hx rfl (hb hby at_35) rfl rfl k) ?_
    refine own_st (V := T121.setTop (mkF m 39 #[.val (.int p1), .val (.int p2), .val (.int p3), .val (.int p4), .val (.int p5), .val (.int (1 : Int32)), .val (.int (2 : Int32)), .val (.ref s119), .val (.ref s120), .unset, .unset] [(.ref s120), (.ref s119), (.ref b121), (.ref b121)])) (fun t k => XS.aload X121.here hx rfl (hb hby at_37) rfl rfl k) ?_
    obtain ⟨_, _, ⟨T122, L122, k122, n122⟩, -, X122, ⟨Lc122, hQ122, l122, y122, z122⟩, st122⟩ := X121.specialBack hx (y := (⟨"com/example/tempora/tempora/core/Issue", "<init>", "(Ljava/lang/String;Ljava/lang/String;)V"⟩ : MethodName)) rfl hown (mvT hZ (hw _ (List.mem_of_getElem? (i := 29) rfl))) (mvT hZ (hw _ (List.mem_of_getElem? (i := 30) rfl))) (mvT hZ (hw _ (List.mem_of_getElem? (i := 31) rfl))) (by decide) (backOf (W := 1) (own_ii l Z a0 hw [] b121 s119 s120 h121 n0 Z0_121 F121_b121_designation F121_b121_date A121 gb_b121) hZ (hw _ (List.mem_of_getElem? (i := 31) rfl)) (hw _ (List.mem_of_getElem? (i := 28) rfl)) (by decide) (by decide)) (g := (mkF m 39 #[.val (.int p1), .val (.int p2), .val (.int p3), .val (.int p4), .val (.int p5), .val (.int (1 : Int32)), .val (.int (2 : Int32)), .val (.ref s119), .val (.ref s120), .unset, .unset] [(.ref s120), (.ref s119), (.ref b121), (.ref b121)])) rfl (by rw [hml]; rfl) (Steps.refl _) (a := b121) (argsL := [(.ref s119), (.ref s120)]) (rest := [(.ref b121)]) (lenOf own_pd8 rfl) rfl (by show 2 * 0 + _ ≤ _; exact Nat.le_of_eq rfl) (hb hby at_39) (fun _ _ => ⟨rfl, e121, (by decide : 7 + 0 ≤ _), (by decide : 16 + 0 ≤ _)⟩)
    dsimp only [Pt.U, Pt.locs, Pt.cells, Pt.slots] at X122 l122 y122 z122 st122 hQ122
    subst l122 y122 z122
    obtain ⟨rfl, N122q, K122, Ex122_q, Fq122_0, Fq122_1⟩ := hQ122
    have N122 := Fr.app N120 N122q
    have Z0_122 : n0 ≤ T122.heap.size := Nat.le_trans Z0_121 K122.1
    have F122_s119_value := F121_s119_value.keep K122 (ninS ne_s119_b121 nin0)
    have F122_s120_value := F121_s120_value.keep K122 (ninS ne_s120_b121 nin0)
    have Ex122_s119 := Ex121_s119.keep K122
    have Ex122_s120 := Ex121_s120.keep K122
    have Ex122_b121 := A121.keep K122
    have V122_t119 := V121_t119.keep K122 (ninS ne_t119_b121 nin0)
    have V122_t120 := V121_t120.keep K122 (ninS ne_t120_b121 nin0)
    have Od122 := Od121.keep K122 (allS gb_b121 all0)
    have kz_122 : 0 ≤ T122.heap.size := Nat.le_trans kz_121 K122.1
    refine own_st (V := T122.setTop (mkF m 42 #[.val (.int p1), .val (.int p2), .val (.int p3), .val (.int p4), .val (.int p5), .val (.int (1 : Int32)), .val (.int (2 : Int32)), .val (.ref s119), .val (.ref s120), .unset, .unset] [(.ref b121)])) (fun t k => st122.trans k) ?_
    refine own_st (V := T122.setTop (mkF m 44 #[.val (.int p1), .val (.int p2), .val (.int p3), .val (.int p4), .val (.int p5), .val (.int (1 : Int32)), .val (.int (2 : Int32)), .val (.ref s119), .val (.ref s120), .val (.ref b121), .unset] [])) (fun t k => XS.astore X122.here hx rfl (hb hby at_42) rfl rfl (l' := #[.val (.int p1), .val (.int p2), .val (.int p3), .val (.int p4), .val (.int p5), .val (.int (1 : Int32)), .val (.int (2 : Int32)), .val (.ref s119), .val (.ref s120), .val (.ref b121), .unset]) rfl k) ?_
    refine own_st (V := T122.setTop (mkF m 46 #[.val (.int p1), .val (.int p2), .val (.int p3), .val (.int p4), .val (.int p5), .val (.int (1 : Int32)), .val (.int (2 : Int32)), .val (.ref s119), .val (.ref s120), .val (.ref b121), .unset] [(.int (1 : Int32))])) (fun t k => XS.iload X122.here hx rfl (hb hby at_44) rfl k) ?_
    refine own_st (V := T122.setTop (mkF m 54 #[.val (.int p1), .val (.int p2), .val (.int p3), .val (.int p4), .val (.int p5), .val (.int (1 : Int32)), .val (.int (2 : Int32)), .val (.ref s119), .val (.ref s120), .val (.ref b121), .unset] [])) (fun t k => XS.ifYes X122.here hx rfl (pc0 := 46) (pc' := 54) rfl (hb hby at_46) rfl ((if0 _ _).trans (feq (by decide : ¬ ((1 : Int32) = (0 : Int32)))).2) (by decide) (by decide) k) ?_
    refine own_st (V := T122.setTop (mkF m 55 #[.val (.int p1), .val (.int p2), .val (.int p3), .val (.int p4), .val (.int p5), .val (.int (1 : Int32)), .val (.int (2 : Int32)), .val (.ref s119), .val (.ref s120), .val (.ref b121), .unset] [(.int (1 : Int32))])) (fun t k => XS.iconst X122.here hx rfl (hb hby at_54) k) ?_
    refine own_st (V := T122.setTop (mkF m 59 #[.val (.int p1), .val (.int p2), .val (.int p3), .val (.int p4), .val (.int p5), .val (.int (1 : Int32)), .val (.int (2 : Int32)), .val (.ref s119), .val (.ref s120), .val (.ref b121), .unset] [(.int (1 : Int32))])) (fun t k => XS.goto X122.here hx rfl (pc0 := 55) (pc' := 59) rfl (hb hby at_55) (by decide) (by decide) k) ?_
    refine own_st (V := T122.setTop (mkF m 61 #[.val (.int p1), .val (.int p2), .val (.int p3), .val (.int p4), .val (.int p5), .val (.int (1 : Int32)), .val (.int (2 : Int32)), .val (.ref s119), .val (.ref s120), .val (.ref b121), .val (.int (1 : Int32))] [])) (fun t k => XS.istore X122.here hx rfl (hb hby at_59) rfl (l' := #[.val (.int p1), .val (.int p2), .val (.int p3), .val (.int p4), .val (.int p5), .val (.int (1 : Int32)), .val (.int (2 : Int32)), .val (.ref s119), .val (.ref s120), .val (.ref b121), .val (.int (1 : Int32))]) rfl k) ?_
    refine own_st (V := T122.setTop (mkF m 63 #[.val (.int p1), .val (.int p2), .val (.int p3), .val (.int p4), .val (.int p5), .val (.int (1 : Int32)), .val (.int (2 : Int32)), .val (.ref s119), .val (.ref s120), .val (.ref b121), .val (.int (1 : Int32))] [(.ref b121)])) (fun t k => XS.aload X122.here hx rfl (hb hby at_61) rfl rfl k) ?_
    obtain ⟨cq123, kq123, q123a, q123b, q123c⟩ := isOf hZ rfl Ex122_q
    obtain ⟨_, _, ⟨T123, L123, k123, n123⟩, -, X123, ⟨Lc123, hQ123, l123, y123, z123⟩, st123⟩ := X122.virtualBack hx (y := (⟨"com/example/tempora/tempora/core/Issue", "isGiven", "()Z"⟩ : MethodName)) (z := (⟨"com/example/tempora/tempora/core/Issue", "isGiven", "()Z"⟩ : MethodName)) hown (mvT hZ (hw _ (List.mem_of_getElem? (i := 42) rfl))) (mvT hZ (hw _ (List.mem_of_getElem? (i := 43) rfl))) (notFace_of_selects (args := #[]) (mvT hZ (hw _ (List.mem_of_getElem? (i := 45) rfl)))) (mvT hZ (hw _ (List.mem_of_getElem? (i := 45) rfl))) (mvT hZ (hw _ (List.mem_of_getElem? (i := 44) rfl))) (by decide) (backOf (W := 0) (own_ig12 l Z a0 hw [] b121 s119 s120 t119 t120 kt119 kt120 vst119 vst120 T122.heap n0 Z0_122 Fq122_0 Fq122_1 Ex122_s119 Ex122_s120 F122_s119_value F122_s120_value V122_t119 V122_t120) hZ (hw _ (List.mem_of_getElem? (i := 46) rfl)) (hw _ (List.mem_of_getElem? (i := 28) rfl)) (by decide) (by decide)) q123a q123c (g := (mkF m 63 #[.val (.int p1), .val (.int p2), .val (.int p3), .val (.int p4), .val (.int p5), .val (.int (1 : Int32)), .val (.int (2 : Int32)), .val (.ref s119), .val (.ref s120), .val (.ref b121), .val (.int (1 : Int32))] [(.ref b121)])) rfl (by rw [hml]; rfl) (Steps.refl _) (argsL := []) (rest := []) (lenOf own_pd6 rfl) rfl (by show 2 * 0 + _ ≤ _; exact Nat.le_of_eq rfl) (hb hby at_63) (fun _ _ => ⟨rfl, rfl, (by decide : 7 + 0 ≤ _), (by decide : 16 + 0 ≤ _)⟩)
    dsimp only [Pt.U, Pt.locs, Pt.cells, Pt.slots] at X123 l123 y123 z123 st123 hQ123
    subst l123 y123 z123
    obtain ⟨rfl, N123q, e123⟩ := hQ123
    have N123 := Fr.app N122 N123q
    refine own_st (V := T123.setTop (mkF m 66 #[.val (.int p1), .val (.int p2), .val (.int p3), .val (.int p4), .val (.int p5), .val (.int (1 : Int32)), .val (.int (2 : Int32)), .val (.ref s119), .val (.ref s120), .val (.ref b121), .val (.int (1 : Int32))] [(.int (1 : Int32))])) (fun t k => st123.trans k) ?_
    refine own_st (V := T123.setTop (mkF m 68 #[.val (.int p1), .val (.int p2), .val (.int p3), .val (.int p4), .val (.int p5), .val (.int (1 : Int32)), .val (.int (2 : Int32)), .val (.ref s119), .val (.ref s120), .val (.ref b121), .val (.int (1 : Int32))] [(.int (1 : Int32)), (.int (1 : Int32))])) (fun t k => XS.iload X123.here hx rfl (hb hby at_66) rfl k) ?_
    refine own_st (V := T123.setTop (mkF m 71 #[.val (.int p1), .val (.int p2), .val (.int p3), .val (.int p4), .val (.int p5), .val (.int (1 : Int32)), .val (.int (2 : Int32)), .val (.ref s119), .val (.ref s120), .val (.ref b121), .val (.int (1 : Int32))] [])) (fun t k => XS.icmpNo X123.here hx rfl (hb hby at_68) rfl (teq (by decide : (1 : Int32) = (1 : Int32))).2 k) ?_
    refine own_st (V := T123.setTop (mkF m 72 #[.val (.int p1), .val (.int p2), .val (.int p3), .val (.int p4), .val (.int p5), .val (.int (1 : Int32)), .val (.int (2 : Int32)), .val (.ref s119), .val (.ref s120), .val (.ref b121), .val (.int (1 : Int32))] [(.int (1 : Int32))])) (fun t k => XS.iconst X123.here hx rfl (hb hby at_71) k) ?_
    refine own_st (V := T123.setTop (mkF m 76 #[.val (.int p1), .val (.int p2), .val (.int p3), .val (.int p4), .val (.int p5), .val (.int (1 : Int32)), .val (.int (2 : Int32)), .val (.ref s119), .val (.ref s120), .val (.ref b121), .val (.int (1 : Int32))] [(.int (1 : Int32))])) (fun t k => XS.goto X123.here hx rfl (pc0 := 72) (pc' := 76) rfl (hb hby at_72) (by decide) (by decide) k) ?_
    exact own_retW (s := s) hSi (by rw [e123]; exact kz_122) X123 hx hlk Bd.returns (by decide +kernel) (Or.inl ⟨rfl, by simp, _, rfl⟩) (hb hby at_76) (by decide) (by decide) ⟨rfl, N123⟩
  · rw [h2]
    refine own_st (V := s₁.setTop (mkF m 12 #[.val (.int p1), .val (.int p2), .val (.int p3), .val (.int p4), .val (.int p5), .val (.int (1 : Int32)), .val (.int (3 : Int32)), .unset, .unset, .unset, .unset] [])) (fun t k => XS.istore X0.here hx rfl (hb hby at_10) rfl (l' := #[.val (.int p1), .val (.int p2), .val (.int p3), .val (.int p4), .val (.int p5), .val (.int (1 : Int32)), .val (.int (3 : Int32)), .unset, .unset, .unset, .unset]) rfl k) ?_
    refine own_st (V := s₁.setTop (mkF m 14 #[.val (.int p1), .val (.int p2), .val (.int p3), .val (.int p4), .val (.int p5), .val (.int (1 : Int32)), .val (.int (3 : Int32)), .unset, .unset, .unset, .unset] [(.int (1 : Int32))])) (fun t k => XS.iload X0.here hx rfl (hb hby at_12) rfl k) ?_
    refine own_st (V := s₁.setTop (mkF m 15 #[.val (.int p1), .val (.int p2), .val (.int p3), .val (.int p4), .val (.int p5), .val (.int (1 : Int32)), .val (.int (3 : Int32)), .unset, .unset, .unset, .unset] [(.int p2), (.int (1 : Int32))])) (fun t k => XS.iloadN X0.here hx rfl (hb hby at_14) rfl k) ?_
    refine own_st (V := s₁.setTop (mkF m 16 #[.val (.int p1), .val (.int p2), .val (.int p3), .val (.int p4), .val (.int p5), .val (.int (1 : Int32)), .val (.int (3 : Int32)), .unset, .unset, .unset, .unset] [(.int p3), (.int p2), (.int (1 : Int32))])) (fun t k => XS.iloadN X0.here hx rfl (hb hby at_15) rfl k) ?_
    obtain ⟨_, _, ⟨T124, L124, k124, n124⟩, -, X124, ⟨Lc124, hQ124, l124, y124, z124⟩, st124⟩ := Jvm.LawKit.callS X0 hx (y := (⟨"com/example/tempora/tempora/core/IssueIsGivenPinLaw", "str", "(III)Ljava/lang/String;"⟩ : MethodName)) hown (mvT hZ (hw _ (List.mem_of_getElem? (i := 0) rfl))) (mvT hZ (hw _ (List.mem_of_getElem? (i := 1) rfl))) (mvT hZ (hw _ (List.mem_of_getElem? (i := 2) rfl))) (mvT hZ (hw _ (List.mem_of_getElem? (i := 3) rfl))) (by decide) (backOf (W := 0) (own_str1 l Z a0 hw [] p2 p3 cs h0 n0 Z0 Od SC hcs) hZ (hw _ (List.mem_of_getElem? (i := 3) rfl)) (hw _ (List.mem_of_getElem? (i := 2) rfl)) (by decide) (by decide)) (g := (mkF m 16 #[.val (.int p1), .val (.int p2), .val (.int p3), .val (.int p4), .val (.int p5), .val (.int (1 : Int32)), .val (.int (3 : Int32)), .unset, .unset, .unset, .unset] [(.int p3), (.int p2), (.int (1 : Int32))])) rfl (by rw [hml]; rfl) (argsL := [(.int (1 : Int32)), (.int p2), (.int p3)]) (rest := []) (lenOf own_pd7 rfl) rfl (by show 2 * 0 + _ ≤ _; exact Nat.le_of_eq rfl) (hb hby at_16) (fun _ _ => ⟨rfl, e0, (by decide : 0 + 3 ≤ _), (by decide : 0 + 6 ≤ _)⟩)
    dsimp only [Pt.U, Pt.locs, Pt.cells, Pt.slots] at X124 l124 y124 z124 st124 hQ124
    subst l124 y124 z124
    obtain ⟨s124, rfl, N124q, K124, Ex124_q, t124, kt124, vst124, Fq124_0, Vq124⟩ := hQ124
    have N124 := Fr.app N0 N124q
    have Z0_124 : n0 ≤ T124.heap.size := Nat.le_trans Z0 K124.1
    have Od124 := Od.keep K124 all0
    have kz_124 : 0 ≤ T124.heap.size := Nat.le_trans kz K124.1
    have Cr_124 := Cr.trans (CHr.keep K124 all0 Cr.1)
    refine own_st (V := T124.setTop (mkF m 19 #[.val (.int p1), .val (.int p2), .val (.int p3), .val (.int p4), .val (.int p5), .val (.int (1 : Int32)), .val (.int (3 : Int32)), .unset, .unset, .unset, .unset] [(.ref s124)])) (fun t k => st124 _ k) ?_
    refine own_st (V := T124.setTop (mkF m 21 #[.val (.int p1), .val (.int p2), .val (.int p3), .val (.int p4), .val (.int p5), .val (.int (1 : Int32)), .val (.int (3 : Int32)), .val (.ref s124), .unset, .unset, .unset] [])) (fun t k => XS.astore X124.here hx rfl (hb hby at_19) rfl rfl (l' := #[.val (.int p1), .val (.int p2), .val (.int p3), .val (.int p4), .val (.int p5), .val (.int (1 : Int32)), .val (.int (3 : Int32)), .val (.ref s124), .unset, .unset, .unset]) rfl k) ?_
    refine own_st (V := T124.setTop (mkF m 23 #[.val (.int p1), .val (.int p2), .val (.int p3), .val (.int p4), .val (.int p5), .val (.int (1 : Int32)), .val (.int (3 : Int32)), .val (.ref s124), .unset, .unset, .unset] [(.int (3 : Int32))])) (fun t k => XS.iload X124.here hx rfl (hb hby at_21) rfl k) ?_
    refine own_st (V := T124.setTop (mkF m 24 #[.val (.int p1), .val (.int p2), .val (.int p3), .val (.int p4), .val (.int p5), .val (.int (1 : Int32)), .val (.int (3 : Int32)), .val (.ref s124), .unset, .unset, .unset] [(.int p4), (.int (3 : Int32))])) (fun t k => XS.iloadN X124.here hx rfl (hb hby at_23) rfl k) ?_
    refine own_st (V := T124.setTop (mkF m 26 #[.val (.int p1), .val (.int p2), .val (.int p3), .val (.int p4), .val (.int p5), .val (.int (1 : Int32)), .val (.int (3 : Int32)), .val (.ref s124), .unset, .unset, .unset] [(.int p5), (.int p4), (.int (3 : Int32))])) (fun t k => XS.iload X124.here hx rfl (hb hby at_24) rfl k) ?_
    obtain ⟨_, _, ⟨T125, L125, k125, n125⟩, -, X125, ⟨Lc125, hQ125, l125, y125, z125⟩, st125⟩ := Jvm.LawKit.callS X124 hx (y := (⟨"com/example/tempora/tempora/core/IssueIsGivenPinLaw", "str", "(III)Ljava/lang/String;"⟩ : MethodName)) hown (mvT hZ (hw _ (List.mem_of_getElem? (i := 0) rfl))) (mvT hZ (hw _ (List.mem_of_getElem? (i := 1) rfl))) (mvT hZ (hw _ (List.mem_of_getElem? (i := 2) rfl))) (mvT hZ (hw _ (List.mem_of_getElem? (i := 3) rfl))) (by decide) (backOf (W := 0) (own_str3 l Z a0 hw [] p4 p5 cs T124.heap n0 Z0_124 Od124 SC hcs) hZ (hw _ (List.mem_of_getElem? (i := 3) rfl)) (hw _ (List.mem_of_getElem? (i := 2) rfl)) (by decide) (by decide)) (g := (mkF m 26 #[.val (.int p1), .val (.int p2), .val (.int p3), .val (.int p4), .val (.int p5), .val (.int (1 : Int32)), .val (.int (3 : Int32)), .val (.ref s124), .unset, .unset, .unset] [(.int p5), (.int p4), (.int (3 : Int32))])) rfl (by rw [hml]; rfl) (argsL := [(.int (3 : Int32)), (.int p4), (.int p5)]) (rest := []) (lenOf own_pd7 rfl) rfl (by show 2 * 0 + _ ≤ _; exact Nat.le_of_eq rfl) (hb hby at_26) (fun _ _ => ⟨rfl, rfl, (by decide : 3 + 3 ≤ _), (by decide : 6 + 8 ≤ _)⟩)
    dsimp only [Pt.U, Pt.locs, Pt.cells, Pt.slots] at X125 l125 y125 z125 st125 hQ125
    subst l125 y125 z125
    obtain ⟨s125, rfl, N125q, K125, Ex125_q, t125, kt125, vst125, Fq125_0, Vq125⟩ := hQ125
    have N125 := Fr.app N124 N125q
    have Z0_125 : n0 ≤ T125.heap.size := Nat.le_trans Z0_124 K125.1
    have F125_s124_value := Fq124_0.keep K125 nin0
    have Ex125_s124 := Ex124_q.keep K125
    have V125_t124 := Vq124.keep K125 nin0
    have Od125 := Od124.keep K125 all0
    have kz_125 : 0 ≤ T125.heap.size := Nat.le_trans kz_124 K125.1
    refine own_st (V := T125.setTop (mkF m 29 #[.val (.int p1), .val (.int p2), .val (.int p3), .val (.int p4), .val (.int p5), .val (.int (1 : Int32)), .val (.int (3 : Int32)), .val (.ref s124), .unset, .unset, .unset] [(.ref s125)])) (fun t k => st125 _ k) ?_
    refine own_st (V := T125.setTop (mkF m 31 #[.val (.int p1), .val (.int p2), .val (.int p3), .val (.int p4), .val (.int p5), .val (.int (1 : Int32)), .val (.int (3 : Int32)), .val (.ref s124), .val (.ref s125), .unset, .unset] [])) (fun t k => XS.astore X125.here hx rfl (hb hby at_29) rfl rfl (l' := #[.val (.int p1), .val (.int p2), .val (.int p3), .val (.int p4), .val (.int p5), .val (.int (1 : Int32)), .val (.int (3 : Int32)), .val (.ref s124), .val (.ref s125), .unset, .unset]) rfl k) ?_
    obtain ⟨T126, h126, X126, e126, E126, A126, D126, -, st126⟩ := newO X125 hx hZ hown (hw _ (List.mem_of_getElem? (i := 26) rfl)) (hw _ (List.mem_of_getElem? (i := 27) rfl)) (hw _ (List.mem_of_getElem? (i := 28) rfl)) rfl (g := (mkF m 31 #[.val (.int p1), .val (.int p2), .val (.int p3), .val (.int p4), .val (.int p5), .val (.int (1 : Int32)), .val (.int (3 : Int32)), .val (.ref s124), .val (.ref s125), .unset, .unset] [])) rfl (hb hby at_31) (by decide) (by decide)
    obtain ⟨b126, g126⟩ : ∃ z, z = T125.heap.size := ⟨_, rfl⟩
    rw [← g126] at A126 D126 st126
    have gb_b126 : n0 ≤ b126 := Nat.le_trans Z0_125 (Nat.le_of_eq g126.symm)
    have Z0_126 : n0 ≤ h126.size := Nat.le_trans Z0_125 E126.1
    have ne_t124_b126 : t124 ≠ b126 := Nat.ne_of_lt (Nat.lt_of_lt_of_le V125_t124.lt (Nat.le_of_eq g126.symm))
    have ne_t125_b126 : t125 ≠ b126 := Nat.ne_of_lt (Nat.lt_of_lt_of_le Vq125.lt (Nat.le_of_eq g126.symm))
    have ne_s124_b126 : s124 ≠ b126 := Nat.ne_of_lt (Nat.lt_of_lt_of_le Ex125_s124.lt (Nat.le_of_eq g126.symm))
    have ne_s125_b126 : s125 ≠ b126 := Nat.ne_of_lt (Nat.lt_of_lt_of_le Ex125_q.lt (Nat.le_of_eq g126.symm))
    have F126_s124_value := F125_s124_value.ext E126
    have F126_s125_value := Fq125_0.ext E126
    have Ex126_s124 := Ex125_s124.ext E126
    have Ex126_s125 := Ex125_q.ext E126
    have V126_t124 := V125_t124.ext E126
    have V126_t125 := Vq125.ext E126
    have Od126 := Od125.ext E126
    have kz_126 : 0 ≤ h126.size := Nat.le_trans kz_125 E126.1
    have F126_b126_designation : Fld Z h126 b126 "com/example/tempora/tempora/core/Issue" "designation" "Ljava/lang/String;" .null := D126 (Or.inr (hw _ (List.mem_of_getElem? (i := 39) rfl))) (ty := (.object "java/lang/String")) (by decide)
    have F126_b126_date : Fld Z h126 b126 "com/example/tempora/tempora/core/Issue" "date" "Ljava/lang/String;" .null := D126 (Or.inr (hw _ (List.mem_of_getElem? (i := 41) rfl))) (ty := (.object "java/lang/String")) (by decide)
    refine own_st (V := T126.setTop (mkF m 34 #[.val (.int p1), .val (.int p2), .val (.int p3), .val (.int p4), .val (.int p5), .val (.int (1 : Int32)), .val (.int (3 : Int32)), .val (.ref s124), .val (.ref s125), .unset, .unset] [(.ref b126)])) (fun t k => st126 _ k) ?_
    refine own_st (V := T126.setTop (mkF m 35 #[.val (.int p1), .val (.int p2), .val (.int p3), .val (.int p4), .val (.int p5), .val (.int (1 : Int32)), .val (.int (3 : Int32)), .val (.ref s124), .val (.ref s125), .unset, .unset] [(.ref b126), (.ref b126)])) (fun t k => XS.dup X126.here hx rfl (hb hby at_34) rfl rfl k) ?_
    refine own_st (V := T126.setTop (mkF m 37 #[.val (.int p1), .val (.int p2), .val (.int p3), .val (.int p4), .val (.int p5), .val (.int (1 : Int32)), .val (.int (3 : Int32)), .val (.ref s124), .val (.ref s125), .unset, .unset] [(.ref s124), (.ref b126), (.ref b126)])) (fun t k => XS.aload X126.here hx rfl (hb hby at_35) rfl rfl k) ?_
    refine own_st (V := T126.setTop (mkF m 39 #[.val (.int p1), .val (.int p2), .val (.int p3), .val (.int p4), .val (.int p5), .val (.int (1 : Int32)), .val (.int (3 : Int32)), .val (.ref s124), .val (.ref s125), .unset, .unset] [(.ref s125), (.ref s124), (.ref b126), (.ref b126)])) (fun t k => XS.aload X126.here hx rfl (hb hby at_37) rfl rfl k) ?_
    obtain ⟨_, _, ⟨T127, L127, k127, n127⟩, -, X127, ⟨Lc127, hQ127, l127, y127, z127⟩, st127⟩ := X126.specialBack hx (y := (⟨"com/example/tempora/tempora/core/Issue", "<init>", "(Ljava/lang/String;Ljava/lang/String;)V"⟩ : MethodName)) rfl hown (mvT hZ (hw _ (List.mem_of_getElem? (i := 29) rfl))) (mvT hZ (hw _ (List.mem_of_getElem? (i := 30) rfl))) (mvT hZ (hw _ (List.mem_of_getElem? (i := 31) rfl))) (by decide) (backOf (W := 1) (own_ii l Z a0 hw [] b126 s124 s125 h126 n0 Z0_126 F126_b126_designation F126_b126_date A126 gb_b126) hZ (hw _ (List.mem_of_getElem? (i := 31) rfl)) (hw _ (List.mem_of_getElem? (i := 28) rfl)) (by decide) (by decide)) (g := (mkF m 39 #[.val (.int p1), .val (.int p2), .val (.int p3), .val (.int p4), .val (.int p5), .val (.int (1 : Int32)), .val (.int (3 : Int32)), .val (.ref s124), .val (.ref s125), .unset, .unset] [(.ref s125), (.ref s124), (.ref b126), (.ref b126)])) rfl (by rw [hml]; rfl) (Steps.refl _) (a := b126) (argsL := [(.ref s124), (.ref s125)]) (rest := [(.ref b126)]) (lenOf own_pd8 rfl) rfl (by show 2 * 0 + _ ≤ _; exact Nat.le_of_eq rfl) (hb hby at_39) (fun _ _ => ⟨rfl, e126, (by decide : 7 + 0 ≤ _), (by decide : 16 + 0 ≤ _)⟩)
    dsimp only [Pt.U, Pt.locs, Pt.cells, Pt.slots] at X127 l127 y127 z127 st127 hQ127
    subst l127 y127 z127
    obtain ⟨rfl, N127q, K127, Ex127_q, Fq127_0, Fq127_1⟩ := hQ127
    have N127 := Fr.app N125 N127q
    have Z0_127 : n0 ≤ T127.heap.size := Nat.le_trans Z0_126 K127.1
    have F127_s124_value := F126_s124_value.keep K127 (ninS ne_s124_b126 nin0)
    have F127_s125_value := F126_s125_value.keep K127 (ninS ne_s125_b126 nin0)
    have Ex127_s124 := Ex126_s124.keep K127
    have Ex127_s125 := Ex126_s125.keep K127
    have Ex127_b126 := A126.keep K127
    have V127_t124 := V126_t124.keep K127 (ninS ne_t124_b126 nin0)
    have V127_t125 := V126_t125.keep K127 (ninS ne_t125_b126 nin0)
    have Od127 := Od126.keep K127 (allS gb_b126 all0)
    have kz_127 : 0 ≤ T127.heap.size := Nat.le_trans kz_126 K127.1
    refine own_st (V := T127.setTop (mkF m 42 #[.val (.int p1), .val (.int p2), .val (.int p3), .val (.int p4), .val (.int p5), .val (.int (1 : Int32)), .val (.int (3 : Int32)), .val (.ref s124), .val (.ref s125), .unset, .unset] [(.ref b126)])) (fun t k => st127.trans k) ?_
    refine own_st (V := T127.setTop (mkF m 44 #[.val (.int p1), .val (.int p2), .val (.int p3), .val (.int p4), .val (.int p5), .val (.int (1 : Int32)), .val (.int (3 : Int32)), .val (.ref s124), .val (.ref s125), .val (.ref b126), .unset] [])) (fun t k => XS.astore X127.here hx rfl (hb hby at_42) rfl rfl (l' := #[.val (.int p1), .val (.int p2), .val (.int p3), .val (.int p4), .val (.int p5), .val (.int (1 : Int32)), .val (.int (3 : Int32)), .val (.ref s124), .val (.ref s125), .val (.ref b126), .unset]) rfl k) ?_
    refine own_st (V := T127.setTop (mkF m 46 #[.val (.int p1), .val (.int p2), .val (.int p3), .val (.int p4), .val (.int p5), .val (.int (1 : Int32)), .val (.int (3 : Int32)), .val (.ref s124), .val (.ref s125), .val (.ref b126), .unset] [(.int (1 : Int32))])) (fun t k => XS.iload X127.here hx rfl (hb hby at_44) rfl k) ?_
    refine own_st (V := T127.setTop (mkF m 54 #[.val (.int p1), .val (.int p2), .val (.int p3), .val (.int p4), .val (.int p5), .val (.int (1 : Int32)), .val (.int (3 : Int32)), .val (.ref s124), .val (.ref s125), .val (.ref b126), .unset] [])) (fun t k => XS.ifYes X127.here hx rfl (pc0 := 46) (pc' := 54) rfl (hb hby at_46) rfl ((if0 _ _).trans (feq (by decide : ¬ ((1 : Int32) = (0 : Int32)))).2) (by decide) (by decide) k) ?_
    refine own_st (V := T127.setTop (mkF m 55 #[.val (.int p1), .val (.int p2), .val (.int p3), .val (.int p4), .val (.int p5), .val (.int (1 : Int32)), .val (.int (3 : Int32)), .val (.ref s124), .val (.ref s125), .val (.ref b126), .unset] [(.int (1 : Int32))])) (fun t k => XS.iconst X127.here hx rfl (hb hby at_54) k) ?_
    refine own_st (V := T127.setTop (mkF m 59 #[.val (.int p1), .val (.int p2), .val (.int p3), .val (.int p4), .val (.int p5), .val (.int (1 : Int32)), .val (.int (3 : Int32)), .val (.ref s124), .val (.ref s125), .val (.ref b126), .unset] [(.int (1 : Int32))])) (fun t k => XS.goto X127.here hx rfl (pc0 := 55) (pc' := 59) rfl (hb hby at_55) (by decide) (by decide) k) ?_
    refine own_st (V := T127.setTop (mkF m 61 #[.val (.int p1), .val (.int p2), .val (.int p3), .val (.int p4), .val (.int p5), .val (.int (1 : Int32)), .val (.int (3 : Int32)), .val (.ref s124), .val (.ref s125), .val (.ref b126), .val (.int (1 : Int32))] [])) (fun t k => XS.istore X127.here hx rfl (hb hby at_59) rfl (l' := #[.val (.int p1), .val (.int p2), .val (.int p3), .val (.int p4), .val (.int p5), .val (.int (1 : Int32)), .val (.int (3 : Int32)), .val (.ref s124), .val (.ref s125), .val (.ref b126), .val (.int (1 : Int32))]) rfl k) ?_
    refine own_st (V := T127.setTop (mkF m 63 #[.val (.int p1), .val (.int p2), .val (.int p3), .val (.int p4), .val (.int p5), .val (.int (1 : Int32)), .val (.int (3 : Int32)), .val (.ref s124), .val (.ref s125), .val (.ref b126), .val (.int (1 : Int32))] [(.ref b126)])) (fun t k => XS.aload X127.here hx rfl (hb hby at_61) rfl rfl k) ?_
    obtain ⟨cq128, kq128, q128a, q128b, q128c⟩ := isOf hZ rfl Ex127_q
    obtain ⟨_, _, ⟨T128, L128, k128, n128⟩, -, X128, ⟨Lc128, hQ128, l128, y128, z128⟩, st128⟩ := X127.virtualBack hx (y := (⟨"com/example/tempora/tempora/core/Issue", "isGiven", "()Z"⟩ : MethodName)) (z := (⟨"com/example/tempora/tempora/core/Issue", "isGiven", "()Z"⟩ : MethodName)) hown (mvT hZ (hw _ (List.mem_of_getElem? (i := 42) rfl))) (mvT hZ (hw _ (List.mem_of_getElem? (i := 43) rfl))) (notFace_of_selects (args := #[]) (mvT hZ (hw _ (List.mem_of_getElem? (i := 45) rfl)))) (mvT hZ (hw _ (List.mem_of_getElem? (i := 45) rfl))) (mvT hZ (hw _ (List.mem_of_getElem? (i := 44) rfl))) (by decide) (backOf (W := 0) (own_ig12 l Z a0 hw [] b126 s124 s125 t124 t125 kt124 kt125 vst124 vst125 T127.heap n0 Z0_127 Fq127_0 Fq127_1 Ex127_s124 Ex127_s125 F127_s124_value F127_s125_value V127_t124 V127_t125) hZ (hw _ (List.mem_of_getElem? (i := 46) rfl)) (hw _ (List.mem_of_getElem? (i := 28) rfl)) (by decide) (by decide)) q128a q128c (g := (mkF m 63 #[.val (.int p1), .val (.int p2), .val (.int p3), .val (.int p4), .val (.int p5), .val (.int (1 : Int32)), .val (.int (3 : Int32)), .val (.ref s124), .val (.ref s125), .val (.ref b126), .val (.int (1 : Int32))] [(.ref b126)])) rfl (by rw [hml]; rfl) (Steps.refl _) (argsL := []) (rest := []) (lenOf own_pd6 rfl) rfl (by show 2 * 0 + _ ≤ _; exact Nat.le_of_eq rfl) (hb hby at_63) (fun _ _ => ⟨rfl, rfl, (by decide : 7 + 0 ≤ _), (by decide : 16 + 0 ≤ _)⟩)
    dsimp only [Pt.U, Pt.locs, Pt.cells, Pt.slots] at X128 l128 y128 z128 st128 hQ128
    subst l128 y128 z128
    obtain ⟨rfl, N128q, e128⟩ := hQ128
    have N128 := Fr.app N127 N128q
    refine own_st (V := T128.setTop (mkF m 66 #[.val (.int p1), .val (.int p2), .val (.int p3), .val (.int p4), .val (.int p5), .val (.int (1 : Int32)), .val (.int (3 : Int32)), .val (.ref s124), .val (.ref s125), .val (.ref b126), .val (.int (1 : Int32))] [(.int (1 : Int32))])) (fun t k => st128.trans k) ?_
    refine own_st (V := T128.setTop (mkF m 68 #[.val (.int p1), .val (.int p2), .val (.int p3), .val (.int p4), .val (.int p5), .val (.int (1 : Int32)), .val (.int (3 : Int32)), .val (.ref s124), .val (.ref s125), .val (.ref b126), .val (.int (1 : Int32))] [(.int (1 : Int32)), (.int (1 : Int32))])) (fun t k => XS.iload X128.here hx rfl (hb hby at_66) rfl k) ?_
    refine own_st (V := T128.setTop (mkF m 71 #[.val (.int p1), .val (.int p2), .val (.int p3), .val (.int p4), .val (.int p5), .val (.int (1 : Int32)), .val (.int (3 : Int32)), .val (.ref s124), .val (.ref s125), .val (.ref b126), .val (.int (1 : Int32))] [])) (fun t k => XS.icmpNo X128.here hx rfl (hb hby at_68) rfl (teq (by decide : (1 : Int32) = (1 : Int32))).2 k) ?_
    refine own_st (V := T128.setTop (mkF m 72 #[.val (.int p1), .val (.int p2), .val (.int p3), .val (.int p4), .val (.int p5), .val (.int (1 : Int32)), .val (.int (3 : Int32)), .val (.ref s124), .val (.ref s125), .val (.ref b126), .val (.int (1 : Int32))] [(.int (1 : Int32))])) (fun t k => XS.iconst X128.here hx rfl (hb hby at_71) k) ?_
    refine own_st (V := T128.setTop (mkF m 76 #[.val (.int p1), .val (.int p2), .val (.int p3), .val (.int p4), .val (.int p5), .val (.int (1 : Int32)), .val (.int (3 : Int32)), .val (.ref s124), .val (.ref s125), .val (.ref b126), .val (.int (1 : Int32))] [(.int (1 : Int32))])) (fun t k => XS.goto X128.here hx rfl (pc0 := 72) (pc' := 76) rfl (hb hby at_72) (by decide) (by decide) k) ?_
    exact own_retW (s := s) hSi (by rw [e128]; exact kz_127) X128 hx hlk Bd.returns (by decide +kernel) (Or.inl ⟨rfl, by simp, _, rfl⟩) (hb hby at_76) (by decide) (by decide) ⟨rfl, N128⟩
set_option maxRecDepth 65536 in
set_option maxHeartbeats 40000000 in
theorem own_law2 (l : Launch) (Z : State) (a0 : Array Value) (hw : ∀ d ∈ tables_1, d.before a0 Z = true) (ws : List Jvm.Cond) (p1 p2 p3 p4 p5 cs : Int32) (h0 : Heap) (n0 : Nat) (Z0 : n0 ≤ h0.size) (Od : Old Z n0 h0) (SC : Sta Z Z.heap "java/lang/String" "COMPACT_STRINGS" "Z" (.int cs)) (hcs : ¬ (cs = (0 : Int32))) (hk : (p1 &&& (3 : Int32)) = (2 : Int32)) :
    MetFree l x (head1 (Jvm.Cond.code x code maxLocals ret :: ws) room_1) (fun a U => a = #[(.int p1), (.int p2), (.int p3), (.int p4), (.int p5)] ∧ Z.Warmed39 U.vm ∧ U.heap = h0 ∧ CHv Z own_EL U.vm h0) (fun _ _ _ _ _ => True) (fun _ U o U' => ∃ v L, o = .returned v ∧ own_Q0 Z p1 p2 p3 p4 p5 cs h0 n0 v U'.heap L ∧ ReturnedEndW U o U' L room_1.cells room_1.slots) := by
  refine MetFree.of_bodySF (plainFor_of_name own_pn_com_example_tempora_tempora_core_IssueIsGivenPinLaw) hisR ?_
  intro p e s m args below meth c s₁ Bd hml0 hP hK
  obtain ⟨rfl, hZ, hh, hC0⟩ := hP
  have hx := Bd.exec
  have hby := Bd.bytes
  have hml : c.maxLocals = 11 := hml0
  have hown : s.vm.findClass "com/example/tempora/tempora/core/IssueIsGivenPinLaw" = some m.cls := findClass_of_methodNamed Bd.named
  have hnm := (name_of_methodNamed Bd.named Bd.method).1
  have hlk : meth.locks = false := BodyLoose.notSynchronized Bd
  have X0 : Stand p l e room_1 (s.setVm s.vm) m #[(.int p1), (.int p2), (.int p3), (.int p4), (.int p5)] below meth c s₁ [] 0 0 := Stand.of_body Bd
  have hZ : Z.Warmed39 (s.setVm s.vm).vm := hZ
  have hown : (s.setVm s.vm).vm.findClass "com/example/tempora/tempora/core/IssueIsGivenPinLaw" = some m.cls := hown
  have hSi : s.Since s.vm 0 := (State.WarmedH.refl s).since 0
  have kz : 0 ≤ h0.size := Nat.zero_le _
  have hEL := own_ew hw
  have Cr : CHr Z own_EL s.vm h0 s.vm h0 := CHr.refl hC0
  have e0 : s₁.heap = h0 := by rw [← hh, Bd.state]; rfl
  have N0 := Fr.nil n0
  show own_Go p e below #[(.int p1), (.int p2), (.int p3), (.int p4), (.int p5)] s (fun _ U o U' => ∃ v L, o = .returned v ∧ own_Q0 Z p1 p2 p3 p4 p5 cs h0 n0 v U'.heap L ∧ ReturnedEndW U o U' L room_1.cells room_1.slots) (s₁.setTop (entryFrame m #[(.int p1), (.int p2), (.int p3), (.int p4), (.int p5)] maxLocals))
  refine own_st (V := s₁.setTop (mkF m 0 #[.val (.int p1), .val (.int p2), .val (.int p3), .val (.int p4), .val (.int p5), .unset, .unset, .unset, .unset, .unset, .unset] [])) (fun t k => castTop (by first | (simp [entryFrame, mkF, argsToLocals, Value.category, maxLocals]; done) | rfl) k) ?_
  refine own_st (V := s₁.setTop (mkF m 1 #[.val (.int p1), .val (.int p2), .val (.int p3), .val (.int p4), .val (.int p5), .unset, .unset, .unset, .unset, .unset, .unset] [(.int p1)])) (fun t k => XS.iloadN X0.here hx rfl (hb hby at_0) rfl k) ?_
  refine own_st (V := s₁.setTop (mkF m 2 #[.val (.int p1), .val (.int p2), .val (.int p3), .val (.int p4), .val (.int p5), .unset, .unset, .unset, .unset, .unset, .unset] [(.int (3 : Int32)), (.int p1)])) (fun t k => XS.iconst X0.here hx rfl (hb hby at_1) k) ?_
  refine own_st (V := s₁.setTop (mkF m 3 #[.val (.int p1), .val (.int p2), .val (.int p3), .val (.int p4), .val (.int p5), .unset, .unset, .unset, .unset, .unset, .unset] [(.int (p1 &&& (3 : Int32)))])) (fun t k => XS.iand X0.here hx rfl (hb hby at_2) rfl k) ?_
  rw [hk]
  refine own_st (V := s₁.setTop (mkF m 5 #[.val (.int p1), .val (.int p2), .val (.int p3), .val (.int p4), .val (.int p5), .val (.int (2 : Int32)), .unset, .unset, .unset, .unset, .unset] [])) (fun t k => XS.istore X0.here hx rfl (hb hby at_3) rfl (l' := #[.val (.int p1), .val (.int p2), .val (.int p3), .val (.int p4), .val (.int p5), .val (.int (2 : Int32)), .unset, .unset, .unset, .unset, .unset]) rfl k) ?_
  refine own_st (V := s₁.setTop (mkF m 6 #[.val (.int p1), .val (.int p2), .val (.int p3), .val (.int p4), .val (.int p5), .val (.int (2 : Int32)), .unset, .unset, .unset, .unset, .unset] [(.int p1)])) (fun t k => XS.iloadN X0.here hx rfl (hb hby at_5) rfl k) ?_
  refine own_st (V := s₁.setTop (mkF m 7 #[.val (.int p1), .val (.int p2), .val (.int p3), .val (.int p4), .val (.int p5), .val (.int (2 : Int32)), .unset, .unset, .unset, .unset, .unset] [(.int (2 : Int32)), (.int p1)])) (fun t k => XS.iconst X0.here hx rfl (hb hby at_6) k) ?_
  refine own_st (V := s₁.setTop (mkF m 8 #[.val (.int p1), .val (.int p2), .val (.int p3), .val (.int p4), .val (.int p5), .val (.int (2 : Int32)), .unset, .unset, .unset, .unset, .unset] [(.int ((p1.toUInt32 >>> ((2 : Int32) &&& 31).toUInt32).toInt32))])) (fun t k => XS.iushr X0.here hx rfl (hb hby at_7) rfl k) ?_
  refine own_st (V := s₁.setTop (mkF m 9 #[.val (.int p1), .val (.int p2), .val (.int p3), .val (.int p4), .val (.int p5), .val (.int (2 : Int32)), .unset, .unset, .unset, .unset, .unset] [(.int (3 : Int32)), (.int ((p1.toUInt32 >>> ((2 : Int32) &&& 31).toUInt32).toInt32))])) (fun t k => XS.iconst X0.here hx rfl (hb hby at_8) k) ?_
  refine own_st (V := s₁.setTop (mkF m 10 #[.val (.int p1), .val (.int p2), .val (.int p3), .val (.int p4), .val (.int p5), .val (.int (2 : Int32)), .unset, .unset, .unset, .unset, .unset] [(.int (((p1.toUInt32 >>> ((2 : Int32) &&& 31).toUInt32).toInt32) &&& (3 : Int32)))])) (fun t k => XS.iand X0.here hx rfl (hb hby at_9) rfl k) ?_
  rcases own_c ((p1.toUInt32 >>> ((2 : Int32) &&& 31).toUInt32).toInt32) with h2 | h2 | h2 | h2
  · rw [h2]
    refine own_st (V := s₁.setTop (mkF m 12 #[.val (.int p1), .val (.int p2), .val (.int p3), .val (.int p4), .val (.int p5), .val (.int (2 : Int32)), .val (.int (0 : Int32)), .unset, .unset, .unset, .unset] [])) (fun t k => XS.istore X0.here hx rfl (hb hby at_10) rfl (l' := #[.val (.int p1), .val (.int p2), .val (.int p3), .val (.int p4), .val (.int p5), .val (.int (2 : Int32)), .val (.int (0 : Int32)), .unset, .unset, .unset, .unset]) rfl k) ?_
    refine own_st (V := s₁.setTop (mkF m 14 #[.val (.int p1), .val (.int p2), .val (.int p3), .val (.int p4), .val (.int p5), .val (.int (2 : Int32)), .val (.int (0 : Int32)), .unset, .unset, .unset, .unset] [(.int (2 : Int32))])) (fun t k => XS.iload X0.here hx rfl (hb hby at_12) rfl k) ?_
    refine own_st (V := s₁.setTop (mkF m 15 #[.val (.int p1), .val (.int p2), .val (.int p3), .val (.int p4), .val (.int p5), .val (.int (2 : Int32)), .val (.int (0 : Int32)), .unset, .unset, .unset, .unset] [(.int p2), (.int (2 : Int32))])) (fun t k => XS.iloadN X0.here hx rfl (hb hby at_14) rfl k) ?_
    refine own_st (V := s₁.setTop (mkF m 16 #[.val (.int p1), .val (.int p2), .val (.int p3), .val (.int p4), .val (.int p5), .val (.int (2 : Int32)), .val (.int (0 : Int32)), .unset, .unset, .unset, .unset] [(.int p3), (.int p2), (.int (2 : Int32))])) (fun t k => XS.iloadN X0.here hx rfl (hb hby at_15) rfl k) ?_
    obtain ⟨_, _, ⟨T129, L129, k129, n129⟩, -, X129, ⟨Lc129, hQ129, l129, y129, z129⟩, st129⟩ := Jvm.LawKit.callS X0 hx (y := (⟨"com/example/tempora/tempora/core/IssueIsGivenPinLaw", "str", "(III)Ljava/lang/String;"⟩ : MethodName)) hown (mvT hZ (hw _ (List.mem_of_getElem? (i := 0) rfl))) (mvT hZ (hw _ (List.mem_of_getElem? (i := 1) rfl))) (mvT hZ (hw _ (List.mem_of_getElem? (i := 2) rfl))) (mvT hZ (hw _ (List.mem_of_getElem? (i := 3) rfl))) (by decide) (backOf (W := 0) (own_str2 l Z a0 hw [] p2 p3 cs h0 n0 Z0 Od SC hcs) hZ (hw _ (List.mem_of_getElem? (i := 3) rfl)) (hw _ (List.mem_of_getElem? (i := 2) rfl)) (by decide) (by decide)) (g := (mkF m 16 #[.val (.int p1), .val (.int p2), .val (.int p3), .val (.int p4), .val (.int p5), .val (.int (2 : Int32)), .val (.int (0 : Int32)), .unset, .unset, .unset, .unset] [(.int p3), (.int p2), (.int (2 : Int32))])) rfl (by rw [hml]; rfl) (argsL := [(.int (2 : Int32)), (.int p2), (.int p3)]) (rest := []) (lenOf own_pd7 rfl) rfl (by show 2 * 0 + _ ≤ _; exact Nat.le_of_eq rfl) (hb hby at_16) (fun _ _ => ⟨rfl, e0, (by decide : 0 + 3 ≤ _), (by decide : 0 + 8 ≤ _)⟩)
    dsimp only [Pt.U, Pt.locs, Pt.cells, Pt.slots] at X129 l129 y129 z129 st129 hQ129
    subst l129 y129 z129
    obtain ⟨s129, rfl, N129q, K129, Ex129_q, t129, kt129, vst129, Fq129_0, Vq129⟩ := hQ129
    have N129 := Fr.app N0 N129q
    have Z0_129 : n0 ≤ T129.heap.size := Nat.le_trans Z0 K129.1
    have Od129 := Od.keep K129 all0
    have kz_129 : 0 ≤ T129.heap.size := Nat.le_trans kz K129.1
    have Cr_129 := Cr.trans (CHr.keep K129 all0 Cr.1)
    refine own_st (V := T129.setTop (mkF m 19 #[.val (.int p1), .val (.int p2), .val (.int p3), .val (.int p4), .val (.int p5), .val (.int (2 : Int32)), .val (.int (0 : Int32)), .unset, .unset, .unset, .unset] [(.ref s129)])) (fun t k => st129 _ k) ?_
    refine own_st (V := T129.setTop (mkF m 21 #[.val (.int p1), .val (.int p2), .val (.int p3), .val (.int p4), .val (.int p5), .val (.int (2 : Int32)), .val (.int (0 : Int32)), .val (.ref s129), .unset, .unset, .unset] [])) (fun t k => XS.astore X129.here hx rfl (hb hby at_19) rfl rfl (l' := #[.val (.int p1), .val (.int p2), .val (.int p3), .val (.int p4), .val (.int p5), .val (.int (2 : Int32)), .val (.int (0 : Int32)), .val (.ref s129), .unset, .unset, .unset]) rfl k) ?_
    refine own_st (V := T129.setTop (mkF m 23 #[.val (.int p1), .val (.int p2), .val (.int p3), .val (.int p4), .val (.int p5), .val (.int (2 : Int32)), .val (.int (0 : Int32)), .val (.ref s129), .unset, .unset, .unset] [(.int (0 : Int32))])) (fun t k => XS.iload X129.here hx rfl (hb hby at_21) rfl k) ?_
    refine own_st (V := T129.setTop (mkF m 24 #[.val (.int p1), .val (.int p2), .val (.int p3), .val (.int p4), .val (.int p5), .val (.int (2 : Int32)), .val (.int (0 : Int32)), .val (.ref s129), .unset, .unset, .unset] [(.int p4), (.int (0 : Int32))])) (fun t k => XS.iloadN X129.here hx rfl (hb hby at_23) rfl k) ?_
    refine own_st (V := T129.setTop (mkF m 26 #[.val (.int p1), .val (.int p2), .val (.int p3), .val (.int p4), .val (.int p5), .val (.int (2 : Int32)), .val (.int (0 : Int32)), .val (.ref s129), .unset, .unset, .unset] [(.int p5), (.int p4), (.int (0 : Int32))])) (fun t k => XS.iload X129.here hx rfl (hb hby at_24) rfl k) ?_
    obtain ⟨_, _, ⟨T130, L130, k130, n130⟩, -, X130, hSi130, hgr130, ⟨Lc130, hQ130, l130, y130, z130, hCr130⟩, st130⟩ := Jvm.RoadKit.callSS X129 hx (y := (⟨"com/example/tempora/tempora/core/IssueIsGivenPinLaw", "str", "(III)Ljava/lang/String;"⟩ : MethodName)) hown (mvT hZ (hw _ (List.mem_of_getElem? (i := 0) rfl))) (mvT hZ (hw _ (List.mem_of_getElem? (i := 1) rfl))) (mvT hZ (hw _ (List.mem_of_getElem? (i := 2) rfl))) (mvT hZ (hw _ (List.mem_of_getElem? (i := 3) rfl))) (by decide) (backOfSH (s := s) (vm0 := s.vm) (W := 0) (own_str0 l Z a0 hw [] p4 p5 T129.heap n0 Z0_129 ) hZ (hw _ (List.mem_of_getElem? (i := 3) rfl)) (hw _ (List.mem_of_getElem? (i := 2) rfl)) (by decide) (by decide) hEL Cr_129.1) (g := (mkF m 26 #[.val (.int p1), .val (.int p2), .val (.int p3), .val (.int p4), .val (.int p5), .val (.int (2 : Int32)), .val (.int (0 : Int32)), .val (.ref s129), .unset, .unset, .unset] [(.int p5), (.int p4), (.int (0 : Int32))])) rfl (by rw [hml]; rfl) (argsL := [(.int (0 : Int32)), (.int p4), (.int p5)]) (rest := []) (lenOf own_pd7 rfl) rfl (by show 2 * 0 + _ ≤ _; exact Nat.le_of_eq rfl) (hb hby at_26) (fun _ _ => ⟨rfl, rfl, (by decide : 3 + 6 ≤ _), (by decide : 8 + 12 ≤ _)⟩)
    dsimp only [Pt.U, Pt.locs, Pt.cells, Pt.slots] at X130 l130 y130 z130 st130 hQ130
    subst l130 y130 z130
    dsimp only [Pt.U] at hSi130 hgr130 hCr130
    obtain ⟨s130, rfl, N130q, K130, Ex130_q, t130, kt130, vst130, Fq130_0, Vq130⟩ := hQ130
    have N130 := Fr.app N129 N130q
    have Z0_130 : n0 ≤ T130.heap.size := Nat.le_trans Z0_129 K130.1
    have F130_s129_value := Fq129_0.keep K130 nin0
    have Ex130_s129 := Ex129_q.keep K130
    have V130_t129 := Vq129.keep K130 nin0
    have Od130 := Od129.keep K130 all0
    have kz_130 : 0 ≤ T130.heap.size := Nat.le_trans kz_129 K130.1
    have hZ_130 : Z.Warmed39 (s.setVm T130.vm).vm := State.Warmed39.trans hZ hSi130.1
    have hown_130 : (s.setVm T130.vm).vm.findClass "com/example/tempora/tempora/core/IssueIsGivenPinLaw" = some m.cls := by rw [show (s.setVm T130.vm).vm = T130.vm from rfl, hSi130.1.alike.findClass]; exact hown
    have hS_130 : s.Since T130.vm T130.heap.size := foldS (s := s) hSi kz_129 hSi130 hgr130
    have X130 : Stand p l e _ (s.setVm T130.vm) m _ below meth c T130 _ _ _ := X130
    have kz_130 : T130.heap.size ≤ T130.heap.size := Nat.le_refl _
    have Cr_130 := Cr_129.trans hCr130
    refine own_st (V := T130.setTop (mkF m 29 #[.val (.int p1), .val (.int p2), .val (.int p3), .val (.int p4), .val (.int p5), .val (.int (2 : Int32)), .val (.int (0 : Int32)), .val (.ref s129), .unset, .unset, .unset] [(.ref s130)])) (fun t k => st130.trans k) ?_
    refine own_st (V := T130.setTop (mkF m 31 #[.val (.int p1), .val (.int p2), .val (.int p3), .val (.int p4), .val (.int p5), .val (.int (2 : Int32)), .val (.int (0 : Int32)), .val (.ref s129), .val (.ref s130), .unset, .unset] [])) (fun t k => XS.astore X130.here hx rfl (hb hby at_29) rfl rfl (l' := #[.val (.int p1), .val (.int p2), .val (.int p3), .val (.int p4), .val (.int p5), .val (.int (2 : Int32)), .val (.int (0 : Int32)), .val (.ref s129), .val (.ref s130), .unset, .unset]) rfl k) ?_
    obtain ⟨T131, h131, X131, e131, E131, A131, D131, -, st131⟩ := newO X130 hx hZ_130 hown_130 (hw _ (List.mem_of_getElem? (i := 26) rfl)) (hw _ (List.mem_of_getElem? (i := 27) rfl)) (hw _ (List.mem_of_getElem? (i := 28) rfl)) rfl (g := (mkF m 31 #[.val (.int p1), .val (.int p2), .val (.int p3), .val (.int p4), .val (.int p5), .val (.int (2 : Int32)), .val (.int (0 : Int32)), .val (.ref s129), .val (.ref s130), .unset, .unset] [])) rfl (hb hby at_31) (by decide) (by decide)
    obtain ⟨b131, g131⟩ : ∃ z, z = T130.heap.size := ⟨_, rfl⟩
    rw [← g131] at A131 D131 st131
    have gb_b131 : n0 ≤ b131 := Nat.le_trans Z0_130 (Nat.le_of_eq g131.symm)
    have Z0_131 : n0 ≤ h131.size := Nat.le_trans Z0_130 E131.1
    have ne_t129_b131 : t129 ≠ b131 := Nat.ne_of_lt (Nat.lt_of_lt_of_le V130_t129.lt (Nat.le_of_eq g131.symm))
    have ne_t130_b131 : t130 ≠ b131 := Nat.ne_of_lt (Nat.lt_of_lt_of_le Vq130.lt (Nat.le_of_eq g131.symm))
    have ne_s129_b131 : s129 ≠ b131 := Nat.ne_of_lt (Nat.lt_of_lt_of_le Ex130_s129.lt (Nat.le_of_eq g131.symm))
    have ne_s130_b131 : s130 ≠ b131 := Nat.ne_of_lt (Nat.lt_of_lt_of_le Ex130_q.lt (Nat.le_of_eq g131.symm))
    have F131_s129_value := F130_s129_value.ext E131
    have F131_s130_value := Fq130_0.ext E131
    have Ex131_s129 := Ex130_s129.ext E131
    have Ex131_s130 := Ex130_q.ext E131
    have V131_t129 := V130_t129.ext E131
    have V131_t130 := Vq130.ext E131
    have Od131 := Od130.ext E131
    have kz_131 : T130.heap.size ≤ h131.size := Nat.le_trans kz_130 E131.1
    have Cr_131 := Cr_130.trans (CHr.ext E131 Cr_130.1)
    have F131_b131_designation : Fld Z h131 b131 "com/example/tempora/tempora/core/Issue" "designation" "Ljava/lang/String;" .null := D131 (Or.inr (hw _ (List.mem_of_getElem? (i := 39) rfl))) (ty := (.object "java/lang/String")) (by decide)
    have F131_b131_date : Fld Z h131 b131 "com/example/tempora/tempora/core/Issue" "date" "Ljava/lang/String;" .null := D131 (Or.inr (hw _ (List.mem_of_getElem? (i := 41) rfl))) (ty := (.object "java/lang/String")) (by decide)
    refine own_st (V := T131.setTop (mkF m 34 #[.val (.int p1), .val (.int p2), .val (.int p3), .val (.int p4), .val (.int p5), .val (.int (2 : Int32)), .val (.int (0 : Int32)), .val (.ref s129), .val (.ref s130), .unset, .unset] [(.ref b131)])) (fun t k => st131 _ k) ?_
    refine own_st (V := T131.setTop (mkF m 35 #[.val (.int p1), .val (.int p2), .val (.int p3), .val (.int p4), .val (.int p5), .val (.int (2 : Int32)), .val (.int (0 : Int32)), .val (.ref s129), .val (.ref s130), .unset, .unset] [(.ref b131), (.ref b131)])) (fun t k => XS.dup X131.here hx rfl (hb hby at_34) rfl rfl k) ?_
    refine own_st (V := T131.setTop (mkF m 37 #[.val (.int p1), .val (.int p2), .val (.int p3), .val (.int p4), .val (.int p5), .val (.int (2 : Int32)), .val (.int (0 : Int32)), .val (.ref s129), .val (.ref s130), .unset, .unset] [(.ref s129), (.ref b131), (.ref b131)])) (fun t k => XS.aload X131.here hx rfl (hb hby at_35) rfl rfl k) ?_
    refine own_st (V := T131.setTop (mkF m 39 #[.val (.int p1), .val (.int p2), .val (.int p3), .val (.int p4), .val (.int p5), .val (.int (2 : Int32)), .val (.int (0 : Int32)), .val (.ref s129), .val (.ref s130), .unset, .unset] [(.ref s130), (.ref s129), (.ref b131), (.ref b131)])) (fun t k => XS.aload X131.here hx rfl (hb hby at_37) rfl rfl k) ?_
    obtain ⟨_, _, ⟨T132, L132, k132, n132⟩, -, X132, ⟨Lc132, hQ132, l132, y132, z132⟩, st132⟩ := X131.specialBack hx (y := (⟨"com/example/tempora/tempora/core/Issue", "<init>", "(Ljava/lang/String;Ljava/lang/String;)V"⟩ : MethodName)) rfl hown_130 (mvT hZ_130 (hw _ (List.mem_of_getElem? (i := 29) rfl))) (mvT hZ_130 (hw _ (List.mem_of_getElem? (i := 30) rfl))) (mvT hZ_130 (hw _ (List.mem_of_getElem? (i := 31) rfl))) (by decide) (backOf (W := 1) (own_ii l Z a0 hw [] b131 s129 s130 h131 n0 Z0_131 F131_b131_designation F131_b131_date A131 gb_b131) hZ_130 (hw _ (List.mem_of_getElem? (i := 31) rfl)) (hw _ (List.mem_of_getElem? (i := 28) rfl)) (by decide) (by decide)) (g := (mkF m 39 #[.val (.int p1), .val (.int p2), .val (.int p3), .val (.int p4), .val (.int p5), .val (.int (2 : Int32)), .val (.int (0 : Int32)), .val (.ref s129), .val (.ref s130), .unset, .unset] [(.ref s130), (.ref s129), (.ref b131), (.ref b131)])) rfl (by rw [hml]; rfl) (Steps.refl _) (a := b131) (argsL := [(.ref s129), (.ref s130)]) (rest := [(.ref b131)]) (lenOf own_pd8 rfl) rfl (by show 2 * 0 + _ ≤ _; exact Nat.le_of_eq rfl) (hb hby at_39) (fun _ _ => ⟨rfl, e131, (by decide : 10 + 0 ≤ _), (by decide : 22 + 0 ≤ _)⟩)
    dsimp only [Pt.U, Pt.locs, Pt.cells, Pt.slots] at X132 l132 y132 z132 st132 hQ132
    subst l132 y132 z132
    obtain ⟨rfl, N132q, K132, Ex132_q, Fq132_0, Fq132_1⟩ := hQ132
    have N132 := Fr.app N130 N132q
    have Z0_132 : n0 ≤ T132.heap.size := Nat.le_trans Z0_131 K132.1
    have F132_s129_value := F131_s129_value.keep K132 (ninS ne_s129_b131 nin0)
    have F132_s130_value := F131_s130_value.keep K132 (ninS ne_s130_b131 nin0)
    have Ex132_s129 := Ex131_s129.keep K132
    have Ex132_s130 := Ex131_s130.keep K132
    have Ex132_b131 := A131.keep K132
    have V132_t129 := V131_t129.keep K132 (ninS ne_t129_b131 nin0)
    have V132_t130 := V131_t130.keep K132 (ninS ne_t130_b131 nin0)
    have Od132 := Od131.keep K132 (allS gb_b131 all0)
    have kz_132 : T130.heap.size ≤ T132.heap.size := Nat.le_trans kz_131 K132.1
    refine own_st (V := T132.setTop (mkF m 42 #[.val (.int p1), .val (.int p2), .val (.int p3), .val (.int p4), .val (.int p5), .val (.int (2 : Int32)), .val (.int (0 : Int32)), .val (.ref s129), .val (.ref s130), .unset, .unset] [(.ref b131)])) (fun t k => st132.trans k) ?_
    refine own_st (V := T132.setTop (mkF m 44 #[.val (.int p1), .val (.int p2), .val (.int p3), .val (.int p4), .val (.int p5), .val (.int (2 : Int32)), .val (.int (0 : Int32)), .val (.ref s129), .val (.ref s130), .val (.ref b131), .unset] [])) (fun t k => XS.astore X132.here hx rfl (hb hby at_42) rfl rfl (l' := #[.val (.int p1), .val (.int p2), .val (.int p3), .val (.int p4), .val (.int p5), .val (.int (2 : Int32)), .val (.int (0 : Int32)), .val (.ref s129), .val (.ref s130), .val (.ref b131), .unset]) rfl k) ?_
    refine own_st (V := T132.setTop (mkF m 46 #[.val (.int p1), .val (.int p2), .val (.int p3), .val (.int p4), .val (.int p5), .val (.int (2 : Int32)), .val (.int (0 : Int32)), .val (.ref s129), .val (.ref s130), .val (.ref b131), .unset] [(.int (2 : Int32))])) (fun t k => XS.iload X132.here hx rfl (hb hby at_44) rfl k) ?_
    refine own_st (V := T132.setTop (mkF m 54 #[.val (.int p1), .val (.int p2), .val (.int p3), .val (.int p4), .val (.int p5), .val (.int (2 : Int32)), .val (.int (0 : Int32)), .val (.ref s129), .val (.ref s130), .val (.ref b131), .unset] [])) (fun t k => XS.ifYes X132.here hx rfl (pc0 := 46) (pc' := 54) rfl (hb hby at_46) rfl ((if0 _ _).trans (feq (by decide : ¬ ((2 : Int32) = (0 : Int32)))).2) (by decide) (by decide) k) ?_
    refine own_st (V := T132.setTop (mkF m 55 #[.val (.int p1), .val (.int p2), .val (.int p3), .val (.int p4), .val (.int p5), .val (.int (2 : Int32)), .val (.int (0 : Int32)), .val (.ref s129), .val (.ref s130), .val (.ref b131), .unset] [(.int (1 : Int32))])) (fun t k => XS.iconst X132.here hx rfl (hb hby at_54) k) ?_
    refine own_st (V := T132.setTop (mkF m 59 #[.val (.int p1), .val (.int p2), .val (.int p3), .val (.int p4), .val (.int p5), .val (.int (2 : Int32)), .val (.int (0 : Int32)), .val (.ref s129), .val (.ref s130), .val (.ref b131), .unset] [(.int (1 : Int32))])) (fun t k => XS.goto X132.here hx rfl (pc0 := 55) (pc' := 59) rfl (hb hby at_55) (by decide) (by decide) k) ?_
    refine own_st (V := T132.setTop (mkF m 61 #[.val (.int p1), .val (.int p2), .val (.int p3), .val (.int p4), .val (.int p5), .val (.int (2 : Int32)), .val (.int (0 : Int32)), .val (.ref s129), .val (.ref s130), .val (.ref b131), .val (.int (1 : Int32))] [])) (fun t k => XS.istore X132.here hx rfl (hb hby at_59) rfl (l' := #[.val (.int p1), .val (.int p2), .val (.int p3), .val (.int p4), .val (.int p5), .val (.int (2 : Int32)), .val (.int (0 : Int32)), .val (.ref s129), .val (.ref s130), .val (.ref b131), .val (.int (1 : Int32))]) rfl k) ?_
    refine own_st (V := T132.setTop (mkF m 63 #[.val (.int p1), .val (.int p2), .val (.int p3), .val (.int p4), .val (.int p5), .val (.int (2 : Int32)), .val (.int (0 : Int32)), .val (.ref s129), .val (.ref s130), .val (.ref b131), .val (.int (1 : Int32))] [(.ref b131)])) (fun t k => XS.aload X132.here hx rfl (hb hby at_61) rfl rfl k) ?_
    obtain ⟨cq133, kq133, q133a, q133b, q133c⟩ := isOf hZ_130 rfl Ex132_q
    obtain ⟨_, _, ⟨T133, L133, k133, n133⟩, -, X133, ⟨Lc133, hQ133, l133, y133, z133⟩, st133⟩ := X132.virtualBack hx (y := (⟨"com/example/tempora/tempora/core/Issue", "isGiven", "()Z"⟩ : MethodName)) (z := (⟨"com/example/tempora/tempora/core/Issue", "isGiven", "()Z"⟩ : MethodName)) hown_130 (mvT hZ_130 (hw _ (List.mem_of_getElem? (i := 42) rfl))) (mvT hZ_130 (hw _ (List.mem_of_getElem? (i := 43) rfl))) (notFace_of_selects (args := #[]) (mvT hZ_130 (hw _ (List.mem_of_getElem? (i := 45) rfl)))) (mvT hZ_130 (hw _ (List.mem_of_getElem? (i := 45) rfl))) (mvT hZ_130 (hw _ (List.mem_of_getElem? (i := 44) rfl))) (by decide) (backOf (W := 0) (own_ig20 l Z a0 hw [] b131 s129 s130 t129 t130 kt129 kt130 vst129 vst130 T132.heap n0 Z0_132 Fq132_0 Fq132_1 Ex132_s129 Ex132_s130 F132_s129_value F132_s130_value V132_t129 V132_t130) hZ_130 (hw _ (List.mem_of_getElem? (i := 46) rfl)) (hw _ (List.mem_of_getElem? (i := 28) rfl)) (by decide) (by decide)) q133a q133c (g := (mkF m 63 #[.val (.int p1), .val (.int p2), .val (.int p3), .val (.int p4), .val (.int p5), .val (.int (2 : Int32)), .val (.int (0 : Int32)), .val (.ref s129), .val (.ref s130), .val (.ref b131), .val (.int (1 : Int32))] [(.ref b131)])) rfl (by rw [hml]; rfl) (Steps.refl _) (argsL := []) (rest := []) (lenOf own_pd6 rfl) rfl (by show 2 * 0 + _ ≤ _; exact Nat.le_of_eq rfl) (hb hby at_63) (fun _ _ => ⟨rfl, rfl, (by decide : 10 + 0 ≤ _), (by decide : 22 + 0 ≤ _)⟩)
    dsimp only [Pt.U, Pt.locs, Pt.cells, Pt.slots] at X133 l133 y133 z133 st133 hQ133
    subst l133 y133 z133
    obtain ⟨rfl, N133q, e133⟩ := hQ133
    have N133 := Fr.app N132 N133q
    refine own_st (V := T133.setTop (mkF m 66 #[.val (.int p1), .val (.int p2), .val (.int p3), .val (.int p4), .val (.int p5), .val (.int (2 : Int32)), .val (.int (0 : Int32)), .val (.ref s129), .val (.ref s130), .val (.ref b131), .val (.int (1 : Int32))] [(.int (1 : Int32))])) (fun t k => st133.trans k) ?_
    refine own_st (V := T133.setTop (mkF m 68 #[.val (.int p1), .val (.int p2), .val (.int p3), .val (.int p4), .val (.int p5), .val (.int (2 : Int32)), .val (.int (0 : Int32)), .val (.ref s129), .val (.ref s130), .val (.ref b131), .val (.int (1 : Int32))] [(.int (1 : Int32)), (.int (1 : Int32))])) (fun t k => XS.iload X133.here hx rfl (hb hby at_66) rfl k) ?_
    refine own_st (V := T133.setTop (mkF m 71 #[.val (.int p1), .val (.int p2), .val (.int p3), .val (.int p4), .val (.int p5), .val (.int (2 : Int32)), .val (.int (0 : Int32)), .val (.ref s129), .val (.ref s130), .val (.ref b131), .val (.int (1 : Int32))] [])) (fun t k => XS.icmpNo X133.here hx rfl (hb hby at_68) rfl (teq (by decide : (1 : Int32) = (1 : Int32))).2 k) ?_
    refine own_st (V := T133.setTop (mkF m 72 #[.val (.int p1), .val (.int p2), .val (.int p3), .val (.int p4), .val (.int p5), .val (.int (2 : Int32)), .val (.int (0 : Int32)), .val (.ref s129), .val (.ref s130), .val (.ref b131), .val (.int (1 : Int32))] [(.int (1 : Int32))])) (fun t k => XS.iconst X133.here hx rfl (hb hby at_71) k) ?_
    refine own_st (V := T133.setTop (mkF m 76 #[.val (.int p1), .val (.int p2), .val (.int p3), .val (.int p4), .val (.int p5), .val (.int (2 : Int32)), .val (.int (0 : Int32)), .val (.ref s129), .val (.ref s130), .val (.ref b131), .val (.int (1 : Int32))] [(.int (1 : Int32))])) (fun t k => XS.goto X133.here hx rfl (pc0 := 72) (pc' := 76) rfl (hb hby at_72) (by decide) (by decide) k) ?_
    exact own_retW (s := s) hS_130 (by rw [e133]; exact kz_132) X133 hx hlk Bd.returns (by decide +kernel) (Or.inl ⟨rfl, by simp, _, rfl⟩) (hb hby at_76) (by decide) (by decide) ⟨rfl, N133⟩
  · rw [h2]
    refine own_st (V := s₁.setTop (mkF m 12 #[.val (.int p1), .val (.int p2), .val (.int p3), .val (.int p4), .val (.int p5), .val (.int (2 : Int32)), .val (.int (1 : Int32)), .unset, .unset, .unset, .unset] [])) (fun t k => XS.istore X0.here hx rfl (hb hby at_10) rfl (l' := #[.val (.int p1), .val (.int p2), .val (.int p3), .val (.int p4), .val (.int p5), .val (.int (2 : Int32)), .val (.int (1 : Int32)), .unset, .unset, .unset, .unset]) rfl k) ?_
    refine own_st (V := s₁.setTop (mkF m 14 #[.val (.int p1), .val (.int p2), .val (.int p3), .val (.int p4), .val (.int p5), .val (.int (2 : Int32)), .val (.int (1 : Int32)), .unset, .unset, .unset, .unset] [(.int (2 : Int32))])) (fun t k => XS.iload X0.here hx rfl (hb hby at_12) rfl k) ?_
    refine own_st (V := s₁.setTop (mkF m 15 #[.val (.int p1), .val (.int p2), .val (.int p3), .val (.int p4), .val (.int p5), .val (.int (2 : Int32)), .val (.int (1 : Int32)), .unset, .unset, .unset, .unset] [(.int p2), (.int (2 : Int32))])) (fun t k => XS.iloadN X0.here hx rfl (hb hby at_14) rfl k) ?_
    refine own_st (V := s₁.setTop (mkF m 16 #[.val (.int p1), .val (.int p2), .val (.int p3), .val (.int p4), .val (.int p5), .val (.int (2 : Int32)), .val (.int (1 : Int32)), .unset, .unset, .unset, .unset] [(.int p3), (.int p2), (.int (2 : Int32))])) (fun t k => XS.iloadN X0.here hx rfl (hb hby at_15) rfl k) ?_
    obtain ⟨_, _, ⟨T134, L134, k134, n134⟩, -, X134, ⟨Lc134, hQ134, l134, y134, z134⟩, st134⟩ := Jvm.LawKit.callS X0 hx (y := (⟨"com/example/tempora/tempora/core/IssueIsGivenPinLaw", "str", "(III)Ljava/lang/String;"⟩ : MethodName)) hown (mvT hZ (hw _ (List.mem_of_getElem? (i := 0) rfl))) (mvT hZ (hw _ (List.mem_of_getElem? (i := 1) rfl))) (mvT hZ (hw _ (List.mem_of_getElem? (i := 2) rfl))) (mvT hZ (hw _ (List.mem_of_getElem? (i := 3) rfl))) (by decide) (backOf (W := 0) (own_str2 l Z a0 hw [] p2 p3 cs h0 n0 Z0 Od SC hcs) hZ (hw _ (List.mem_of_getElem? (i := 3) rfl)) (hw _ (List.mem_of_getElem? (i := 2) rfl)) (by decide) (by decide)) (g := (mkF m 16 #[.val (.int p1), .val (.int p2), .val (.int p3), .val (.int p4), .val (.int p5), .val (.int (2 : Int32)), .val (.int (1 : Int32)), .unset, .unset, .unset, .unset] [(.int p3), (.int p2), (.int (2 : Int32))])) rfl (by rw [hml]; rfl) (argsL := [(.int (2 : Int32)), (.int p2), (.int p3)]) (rest := []) (lenOf own_pd7 rfl) rfl (by show 2 * 0 + _ ≤ _; exact Nat.le_of_eq rfl) (hb hby at_16) (fun _ _ => ⟨rfl, e0, (by decide : 0 + 3 ≤ _), (by decide : 0 + 8 ≤ _)⟩)
    dsimp only [Pt.U, Pt.locs, Pt.cells, Pt.slots] at X134 l134 y134 z134 st134 hQ134
    subst l134 y134 z134
    obtain ⟨s134, rfl, N134q, K134, Ex134_q, t134, kt134, vst134, Fq134_0, Vq134⟩ := hQ134
    have N134 := Fr.app N0 N134q
    have Z0_134 : n0 ≤ T134.heap.size := Nat.le_trans Z0 K134.1
    have Od134 := Od.keep K134 all0
    have kz_134 : 0 ≤ T134.heap.size := Nat.le_trans kz K134.1
    have Cr_134 := Cr.trans (CHr.keep K134 all0 Cr.1)
    refine own_st (V := T134.setTop (mkF m 19 #[.val (.int p1), .val (.int p2), .val (.int p3), .val (.int p4), .val (.int p5), .val (.int (2 : Int32)), .val (.int (1 : Int32)), .unset, .unset, .unset, .unset] [(.ref s134)])) (fun t k => st134 _ k) ?_
    refine own_st (V := T134.setTop (mkF m 21 #[.val (.int p1), .val (.int p2), .val (.int p3), .val (.int p4), .val (.int p5), .val (.int (2 : Int32)), .val (.int (1 : Int32)), .val (.ref s134), .unset, .unset, .unset] [])) (fun t k => XS.astore X134.here hx rfl (hb hby at_19) rfl rfl (l' := #[.val (.int p1), .val (.int p2), .val (.int p3), .val (.int p4), .val (.int p5), .val (.int (2 : Int32)), .val (.int (1 : Int32)), .val (.ref s134), .unset, .unset, .unset]) rfl k) ?_
    refine own_st (V := T134.setTop (mkF m 23 #[.val (.int p1), .val (.int p2), .val (.int p3), .val (.int p4), .val (.int p5), .val (.int (2 : Int32)), .val (.int (1 : Int32)), .val (.ref s134), .unset, .unset, .unset] [(.int (1 : Int32))])) (fun t k => XS.iload X134.here hx rfl (hb hby at_21) rfl k) ?_
    refine own_st (V := T134.setTop (mkF m 24 #[.val (.int p1), .val (.int p2), .val (.int p3), .val (.int p4), .val (.int p5), .val (.int (2 : Int32)), .val (.int (1 : Int32)), .val (.ref s134), .unset, .unset, .unset] [(.int p4), (.int (1 : Int32))])) (fun t k => XS.iloadN X134.here hx rfl (hb hby at_23) rfl k) ?_
    refine own_st (V := T134.setTop (mkF m 26 #[.val (.int p1), .val (.int p2), .val (.int p3), .val (.int p4), .val (.int p5), .val (.int (2 : Int32)), .val (.int (1 : Int32)), .val (.ref s134), .unset, .unset, .unset] [(.int p5), (.int p4), (.int (1 : Int32))])) (fun t k => XS.iload X134.here hx rfl (hb hby at_24) rfl k) ?_
    obtain ⟨_, _, ⟨T135, L135, k135, n135⟩, -, X135, ⟨Lc135, hQ135, l135, y135, z135⟩, st135⟩ := Jvm.LawKit.callS X134 hx (y := (⟨"com/example/tempora/tempora/core/IssueIsGivenPinLaw", "str", "(III)Ljava/lang/String;"⟩ : MethodName)) hown (mvT hZ (hw _ (List.mem_of_getElem? (i := 0) rfl))) (mvT hZ (hw _ (List.mem_of_getElem? (i := 1) rfl))) (mvT hZ (hw _ (List.mem_of_getElem? (i := 2) rfl))) (mvT hZ (hw _ (List.mem_of_getElem? (i := 3) rfl))) (by decide) (backOf (W := 0) (own_str1 l Z a0 hw [] p4 p5 cs T134.heap n0 Z0_134 Od134 SC hcs) hZ (hw _ (List.mem_of_getElem? (i := 3) rfl)) (hw _ (List.mem_of_getElem? (i := 2) rfl)) (by decide) (by decide)) (g := (mkF m 26 #[.val (.int p1), .val (.int p2), .val (.int p3), .val (.int p4), .val (.int p5), .val (.int (2 : Int32)), .val (.int (1 : Int32)), .val (.ref s134), .unset, .unset, .unset] [(.int p5), (.int p4), (.int (1 : Int32))])) rfl (by rw [hml]; rfl) (argsL := [(.int (1 : Int32)), (.int p4), (.int p5)]) (rest := []) (lenOf own_pd7 rfl) rfl (by show 2 * 0 + _ ≤ _; exact Nat.le_of_eq rfl) (hb hby at_26) (fun _ _ => ⟨rfl, rfl, (by decide : 3 + 3 ≤ _), (by decide : 8 + 6 ≤ _)⟩)
    dsimp only [Pt.U, Pt.locs, Pt.cells, Pt.slots] at X135 l135 y135 z135 st135 hQ135
    subst l135 y135 z135
    obtain ⟨s135, rfl, N135q, K135, Ex135_q, t135, kt135, vst135, Fq135_0, Vq135⟩ := hQ135
    have N135 := Fr.app N134 N135q
    have Z0_135 : n0 ≤ T135.heap.size := Nat.le_trans Z0_134 K135.1
    have F135_s134_value := Fq134_0.keep K135 nin0
    have Ex135_s134 := Ex134_q.keep K135
    have V135_t134 := Vq134.keep K135 nin0
    have Od135 := Od134.keep K135 all0
    have kz_135 : 0 ≤ T135.heap.size := Nat.le_trans kz_134 K135.1
    refine own_st (V := T135.setTop (mkF m 29 #[.val (.int p1), .val (.int p2), .val (.int p3), .val (.int p4), .val (.int p5), .val (.int (2 : Int32)), .val (.int (1 : Int32)), .val (.ref s134), .unset, .unset, .unset] [(.ref s135)])) (fun t k => st135 _ k) ?_
    refine own_st (V := T135.setTop (mkF m 31 #[.val (.int p1), .val (.int p2), .val (.int p3), .val (.int p4), .val (.int p5), .val (.int (2 : Int32)), .val (.int (1 : Int32)), .val (.ref s134), .val (.ref s135), .unset, .unset] [])) (fun t k => XS.astore X135.here hx rfl (hb hby at_29) rfl rfl (l' := #[.val (.int p1), .val (.int p2), .val (.int p3), .val (.int p4), .val (.int p5), .val (.int (2 : Int32)), .val (.int (1 : Int32)), .val (.ref s134), .val (.ref s135), .unset, .unset]) rfl k) ?_
    obtain ⟨T136, h136, X136, e136, E136, A136, D136, -, st136⟩ := newO X135 hx hZ hown (hw _ (List.mem_of_getElem? (i := 26) rfl)) (hw _ (List.mem_of_getElem? (i := 27) rfl)) (hw _ (List.mem_of_getElem? (i := 28) rfl)) rfl (g := (mkF m 31 #[.val (.int p1), .val (.int p2), .val (.int p3), .val (.int p4), .val (.int p5), .val (.int (2 : Int32)), .val (.int (1 : Int32)), .val (.ref s134), .val (.ref s135), .unset, .unset] [])) rfl (hb hby at_31) (by decide) (by decide)
    obtain ⟨b136, g136⟩ : ∃ z, z = T135.heap.size := ⟨_, rfl⟩
    rw [← g136] at A136 D136 st136
    have gb_b136 : n0 ≤ b136 := Nat.le_trans Z0_135 (Nat.le_of_eq g136.symm)
    have Z0_136 : n0 ≤ h136.size := Nat.le_trans Z0_135 E136.1
    have ne_t134_b136 : t134 ≠ b136 := Nat.ne_of_lt (Nat.lt_of_lt_of_le V135_t134.lt (Nat.le_of_eq g136.symm))
    have ne_t135_b136 : t135 ≠ b136 := Nat.ne_of_lt (Nat.lt_of_lt_of_le Vq135.lt (Nat.le_of_eq g136.symm))
    have ne_s134_b136 : s134 ≠ b136 := Nat.ne_of_lt (Nat.lt_of_lt_of_le Ex135_s134.lt (Nat.le_of_eq g136.symm))
    have ne_s135_b136 : s135 ≠ b136 := Nat.ne_of_lt (Nat.lt_of_lt_of_le Ex135_q.lt (Nat.le_of_eq g136.symm))
    have F136_s134_value := F135_s134_value.ext E136
    have F136_s135_value := Fq135_0.ext E136
    have Ex136_s134 := Ex135_s134.ext E136
    have Ex136_s135 := Ex135_q.ext E136
    have V136_t134 := V135_t134.ext E136
    have V136_t135 := Vq135.ext E136
    have Od136 := Od135.ext E136
    have kz_136 : 0 ≤ h136.size := Nat.le_trans kz_135 E136.1
    have F136_b136_designation : Fld Z h136 b136 "com/example/tempora/tempora/core/Issue" "designation" "Ljava/lang/String;" .null := D136 (Or.inr (hw _ (List.mem_of_getElem? (i := 39) rfl))) (ty := (.object "java/lang/String")) (by decide)
    have F136_b136_date : Fld Z h136 b136 "com/example/tempora/tempora/core/Issue" "date" "Ljava/lang/String;" .null := D136 (Or.inr (hw _ (List.mem_of_getElem? (i := 41) rfl))) (ty := (.object "java/lang/String")) (by decide)
    refine own_st (V := T136.setTop (mkF m 34 #[.val (.int p1), .val (.int p2), .val (.int p3), .val (.int p4), .val (.int p5), .val (.int (2 : Int32)), .val (.int (1 : Int32)), .val (.ref s134), .val (.ref s135), .unset, .unset] [(.ref b136)])) (fun t k => st136 _ k) ?_
    refine own_st (V := T136.setTop (mkF m 35 #[.val (.int p1), .val (.int p2), .val (.int p3), .val (.int p4), .val (.int p5), .val (.int (2 : Int32)), .val (.int (1 : Int32)), .val (.ref s134), .val (.ref s135), .unset, .unset] [(.ref b136), (.ref b136)])) (fun t k => XS.dup X136.here hx rfl (hb hby at_34) rfl rfl k) ?_
    refine own_st (V := T136.setTop (mkF m 37 #[.val (.int p1), .val (.int p2), .val (.int p3), .val (.int p4), .val (.int p5), .val (.int (2 : Int32)), .val (.int (1 : Int32)), .val (.ref s134), .val (.ref s135), .unset, .unset] [(.ref s134), (.ref b136), (.ref b136)])) (fun t k => XS.aload X136.here hx rfl (hb hby at_35) rfl rfl k) ?_
    refine own_st (V := T136.setTop (mkF m 39 #[.val (.int p1), .val (.int p2), .val (.int p3), .val (.int p4), .val (.int p5), .val (.int (2 : Int32)), .val (.int (1 : Int32)), .val (.ref s134), .val (.ref s135), .unset, .unset] [(.ref s135), (.ref s134), (.ref b136), (.ref b136)])) (fun t k => XS.aload X136.here hx rfl (hb hby at_37) rfl rfl k) ?_
    obtain ⟨_, _, ⟨T137, L137, k137, n137⟩, -, X137, ⟨Lc137, hQ137, l137, y137, z137⟩, st137⟩ := X136.specialBack hx (y := (⟨"com/example/tempora/tempora/core/Issue", "<init>", "(Ljava/lang/String;Ljava/lang/String;)V"⟩ : MethodName)) rfl hown (mvT hZ (hw _ (List.mem_of_getElem? (i := 29) rfl))) (mvT hZ (hw _ (List.mem_of_getElem? (i := 30) rfl))) (mvT hZ (hw _ (List.mem_of_getElem? (i := 31) rfl))) (by decide) (backOf (W := 1) (own_ii l Z a0 hw [] b136 s134 s135 h136 n0 Z0_136 F136_b136_designation F136_b136_date A136 gb_b136) hZ (hw _ (List.mem_of_getElem? (i := 31) rfl)) (hw _ (List.mem_of_getElem? (i := 28) rfl)) (by decide) (by decide)) (g := (mkF m 39 #[.val (.int p1), .val (.int p2), .val (.int p3), .val (.int p4), .val (.int p5), .val (.int (2 : Int32)), .val (.int (1 : Int32)), .val (.ref s134), .val (.ref s135), .unset, .unset] [(.ref s135), (.ref s134), (.ref b136), (.ref b136)])) rfl (by rw [hml]; rfl) (Steps.refl _) (a := b136) (argsL := [(.ref s134), (.ref s135)]) (rest := [(.ref b136)]) (lenOf own_pd8 rfl) rfl (by show 2 * 0 + _ ≤ _; exact Nat.le_of_eq rfl) (hb hby at_39) (fun _ _ => ⟨rfl, e136, (by decide : 7 + 0 ≤ _), (by decide : 16 + 0 ≤ _)⟩)
    dsimp only [Pt.U, Pt.locs, Pt.cells, Pt.slots] at X137 l137 y137 z137 st137 hQ137
    subst l137 y137 z137
    obtain ⟨rfl, N137q, K137, Ex137_q, Fq137_0, Fq137_1⟩ := hQ137
    have N137 := Fr.app N135 N137q
    have Z0_137 : n0 ≤ T137.heap.size := Nat.le_trans Z0_136 K137.1
    have F137_s134_value := F136_s134_value.keep K137 (ninS ne_s134_b136 nin0)
    have F137_s135_value := F136_s135_value.keep K137 (ninS ne_s135_b136 nin0)
    have Ex137_s134 := Ex136_s134.keep K137
    have Ex137_s135 := Ex136_s135.keep K137
    have Ex137_b136 := A136.keep K137
    have V137_t134 := V136_t134.keep K137 (ninS ne_t134_b136 nin0)
    have V137_t135 := V136_t135.keep K137 (ninS ne_t135_b136 nin0)
    have Od137 := Od136.keep K137 (allS gb_b136 all0)
    have kz_137 : 0 ≤ T137.heap.size := Nat.le_trans kz_136 K137.1
    refine own_st (V := T137.setTop (mkF m 42 #[.val (.int p1), .val (.int p2), .val (.int p3), .val (.int p4), .val (.int p5), .val (.int (2 : Int32)), .val (.int (1 : Int32)), .val (.ref s134), .val (.ref s135), .unset, .unset] [(.ref b136)])) (fun t k => st137.trans k) ?_
    refine own_st (V := T137.setTop (mkF m 44 #[.val (.int p1), .val (.int p2), .val (.int p3), .val (.int p4), .val (.int p5), .val (.int (2 : Int32)), .val (.int (1 : Int32)), .val (.ref s134), .val (.ref s135), .val (.ref b136), .unset] [])) (fun t k => XS.astore X137.here hx rfl (hb hby at_42) rfl rfl (l' := #[.val (.int p1), .val (.int p2), .val (.int p3), .val (.int p4), .val (.int p5), .val (.int (2 : Int32)), .val (.int (1 : Int32)), .val (.ref s134), .val (.ref s135), .val (.ref b136), .unset]) rfl k) ?_
    refine own_st (V := T137.setTop (mkF m 46 #[.val (.int p1), .val (.int p2), .val (.int p3), .val (.int p4), .val (.int p5), .val (.int (2 : Int32)), .val (.int (1 : Int32)), .val (.ref s134), .val (.ref s135), .val (.ref b136), .unset] [(.int (2 : Int32))])) (fun t k => XS.iload X137.here hx rfl (hb hby at_44) rfl k) ?_
    refine own_st (V := T137.setTop (mkF m 54 #[.val (.int p1), .val (.int p2), .val (.int p3), .val (.int p4), .val (.int p5), .val (.int (2 : Int32)), .val (.int (1 : Int32)), .val (.ref s134), .val (.ref s135), .val (.ref b136), .unset] [])) (fun t k => XS.ifYes X137.here hx rfl (pc0 := 46) (pc' := 54) rfl (hb hby at_46) rfl ((if0 _ _).trans (feq (by decide : ¬ ((2 : Int32) = (0 : Int32)))).2) (by decide) (by decide) k) ?_
    refine own_st (V := T137.setTop (mkF m 55 #[.val (.int p1), .val (.int p2), .val (.int p3), .val (.int p4), .val (.int p5), .val (.int (2 : Int32)), .val (.int (1 : Int32)), .val (.ref s134), .val (.ref s135), .val (.ref b136), .unset] [(.int (1 : Int32))])) (fun t k => XS.iconst X137.here hx rfl (hb hby at_54) k) ?_
    refine own_st (V := T137.setTop (mkF m 59 #[.val (.int p1), .val (.int p2), .val (.int p3), .val (.int p4), .val (.int p5), .val (.int (2 : Int32)), .val (.int (1 : Int32)), .val (.ref s134), .val (.ref s135), .val (.ref b136), .unset] [(.int (1 : Int32))])) (fun t k => XS.goto X137.here hx rfl (pc0 := 55) (pc' := 59) rfl (hb hby at_55) (by decide) (by decide) k) ?_
    refine own_st (V := T137.setTop (mkF m 61 #[.val (.int p1), .val (.int p2), .val (.int p3), .val (.int p4), .val (.int p5), .val (.int (2 : Int32)), .val (.int (1 : Int32)), .val (.ref s134), .val (.ref s135), .val (.ref b136), .val (.int (1 : Int32))] [])) (fun t k => XS.istore X137.here hx rfl (hb hby at_59) rfl (l' := #[.val (.int p1), .val (.int p2), .val (.int p3), .val (.int p4), .val (.int p5), .val (.int (2 : Int32)), .val (.int (1 : Int32)), .val (.ref s134), .val (.ref s135), .val (.ref b136), .val (.int (1 : Int32))]) rfl k) ?_
    refine own_st (V := T137.setTop (mkF m 63 #[.val (.int p1), .val (.int p2), .val (.int p3), .val (.int p4), .val (.int p5), .val (.int (2 : Int32)), .val (.int (1 : Int32)), .val (.ref s134), .val (.ref s135), .val (.ref b136), .val (.int (1 : Int32))] [(.ref b136)])) (fun t k => XS.aload X137.here hx rfl (hb hby at_61) rfl rfl k) ?_
    obtain ⟨cq138, kq138, q138a, q138b, q138c⟩ := isOf hZ rfl Ex137_q
    obtain ⟨_, _, ⟨T138, L138, k138, n138⟩, -, X138, ⟨Lc138, hQ138, l138, y138, z138⟩, st138⟩ := X137.virtualBack hx (y := (⟨"com/example/tempora/tempora/core/Issue", "isGiven", "()Z"⟩ : MethodName)) (z := (⟨"com/example/tempora/tempora/core/Issue", "isGiven", "()Z"⟩ : MethodName)) hown (mvT hZ (hw _ (List.mem_of_getElem? (i := 42) rfl))) (mvT hZ (hw _ (List.mem_of_getElem? (i := 43) rfl))) (notFace_of_selects (args := #[]) (mvT hZ (hw _ (List.mem_of_getElem? (i := 45) rfl)))) (mvT hZ (hw _ (List.mem_of_getElem? (i := 45) rfl))) (mvT hZ (hw _ (List.mem_of_getElem? (i := 44) rfl))) (by decide) (backOf (W := 0) (own_ig21 l Z a0 hw [] b136 s134 s135 t134 t135 kt134 kt135 vst134 vst135 T137.heap n0 Z0_137 Fq137_0 Fq137_1 Ex137_s134 Ex137_s135 F137_s134_value F137_s135_value V137_t134 V137_t135) hZ (hw _ (List.mem_of_getElem? (i := 46) rfl)) (hw _ (List.mem_of_getElem? (i := 28) rfl)) (by decide) (by decide)) q138a q138c (g := (mkF m 63 #[.val (.int p1), .val (.int p2), .val (.int p3), .val (.int p4), .val (.int p5), .val (.int (2 : Int32)), .val (.int (1 : Int32)), .val (.ref s134), .val (.ref s135), .val (.ref b136), .val (.int (1 : Int32))] [(.ref b136)])) rfl (by rw [hml]; rfl) (Steps.refl _) (argsL := []) (rest := []) (lenOf own_pd6 rfl) rfl (by show 2 * 0 + _ ≤ _; exact Nat.le_of_eq rfl) (hb hby at_63) (fun _ _ => ⟨rfl, rfl, (by decide : 7 + 0 ≤ _), (by decide : 16 + 0 ≤ _)⟩)
    dsimp only [Pt.U, Pt.locs, Pt.cells, Pt.slots] at X138 l138 y138 z138 st138 hQ138
    subst l138 y138 z138
    obtain ⟨rfl, N138q, e138⟩ := hQ138
    have N138 := Fr.app N137 N138q
    refine own_st (V := T138.setTop (mkF m 66 #[.val (.int p1), .val (.int p2), .val (.int p3), .val (.int p4), .val (.int p5), .val (.int (2 : Int32)), .val (.int (1 : Int32)), .val (.ref s134), .val (.ref s135), .val (.ref b136), .val (.int (1 : Int32))] [(.int (1 : Int32))])) (fun t k => st138.trans k) ?_
    refine own_st (V := T138.setTop (mkF m 68 #[.val (.int p1), .val (.int p2), .val (.int p3), .val (.int p4), .val (.int p5), .val (.int (2 : Int32)), .val (.int (1 : Int32)), .val (.ref s134), .val (.ref s135), .val (.ref b136), .val (.int (1 : Int32))] [(.int (1 : Int32)), (.int (1 : Int32))])) (fun t k => XS.iload X138.here hx rfl (hb hby at_66) rfl k) ?_
    refine own_st (V := T138.setTop (mkF m 71 #[.val (.int p1), .val (.int p2), .val (.int p3), .val (.int p4), .val (.int p5), .val (.int (2 : Int32)), .val (.int (1 : Int32)), .val (.ref s134), .val (.ref s135), .val (.ref b136), .val (.int (1 : Int32))] [])) (fun t k => XS.icmpNo X138.here hx rfl (hb hby at_68) rfl (teq (by decide : (1 : Int32) = (1 : Int32))).2 k) ?_
    refine own_st (V := T138.setTop (mkF m 72 #[.val (.int p1), .val (.int p2), .val (.int p3), .val (.int p4), .val (.int p5), .val (.int (2 : Int32)), .val (.int (1 : Int32)), .val (.ref s134), .val (.ref s135), .val (.ref b136), .val (.int (1 : Int32))] [(.int (1 : Int32))])) (fun t k => XS.iconst X138.here hx rfl (hb hby at_71) k) ?_
    refine own_st (V := T138.setTop (mkF m 76 #[.val (.int p1), .val (.int p2), .val (.int p3), .val (.int p4), .val (.int p5), .val (.int (2 : Int32)), .val (.int (1 : Int32)), .val (.ref s134), .val (.ref s135), .val (.ref b136), .val (.int (1 : Int32))] [(.int (1 : Int32))])) (fun t k => XS.goto X138.here hx rfl (pc0 := 72) (pc' := 76) rfl (hb hby at_72) (by decide) (by decide) k) ?_
    exact own_retW (s := s) hSi (by rw [e138]; exact kz_137) X138 hx hlk Bd.returns (by decide +kernel) (Or.inl ⟨rfl, by simp, _, rfl⟩) (hb hby at_76) (by decide) (by decide) ⟨rfl, N138⟩
  · rw [h2]
    refine own_st (V := s₁.setTop (mkF m 12 #[.val (.int p1), .val (.int p2), .val (.int p3), .val (.int p4), .val (.int p5), .val (.int (2 : Int32)), .val (.int (2 : Int32)), .unset, .unset, .unset, .unset] [])) (fun t k => XS.istore X0.here hx rfl (hb hby at_10) rfl (l' := #[.val (.int p1), .val (.int p2), .val (.int p3), .val (.int p4), .val (.int p5), .val (.int (2 : Int32)), .val (.int (2 : Int32)), .unset, .unset, .unset, .unset]) rfl k) ?_
    refine own_st (V := s₁.setTop (mkF m 14 #[.val (.int p1), .val (.int p2), .val (.int p3), .val (.int p4), .val (.int p5), .val (.int (2 : Int32)), .val (.int (2 : Int32)), .unset, .unset, .unset, .unset] [(.int (2 : Int32))])) (fun t k => XS.iload X0.here hx rfl (hb hby at_12) rfl k) ?_
    refine own_st (V := s₁.setTop (mkF m 15 #[.val (.int p1), .val (.int p2), .val (.int p3), .val (.int p4), .val (.int p5), .val (.int (2 : Int32)), .val (.int (2 : Int32)), .unset, .unset, .unset, .unset] [(.int p2), (.int (2 : Int32))])) (fun t k => XS.iloadN X0.here hx rfl (hb hby at_14) rfl k) ?_
    refine own_st (V := s₁.setTop (mkF m 16 #[.val (.int p1), .val (.int p2), .val (.int p3), .val (.int p4), .val (.int p5), .val (.int (2 : Int32)), .val (.int (2 : Int32)), .unset, .unset, .unset, .unset] [(.int p3), (.int p2), (.int (2 : Int32))])) (fun t k => XS.iloadN X0.here hx rfl (hb hby at_15) rfl k) ?_
    obtain ⟨_, _, ⟨T139, L139, k139, n139⟩, -, X139, ⟨Lc139, hQ139, l139, y139, z139⟩, st139⟩ := Jvm.LawKit.callS X0 hx (y := (⟨"com/example/tempora/tempora/core/IssueIsGivenPinLaw", "str", "(III)Ljava/lang/String;"⟩ : MethodName)) hown (mvT hZ (hw _ (List.mem_of_getElem? (i := 0) rfl))) (mvT hZ (hw _ (List.mem_of_getElem? (i := 1) rfl))) (mvT hZ (hw _ (List.mem_of_getElem? (i := 2) rfl))) (mvT hZ (hw _ (List.mem_of_getElem? (i := 3) rfl))) (by decide) (backOf (W := 0) (own_str2 l Z a0 hw [] p2 p3 cs h0 n0 Z0 Od SC hcs) hZ (hw _ (List.mem_of_getElem? (i := 3) rfl)) (hw _ (List.mem_of_getElem? (i := 2) rfl)) (by decide) (by decide)) (g := (mkF m 16 #[.val (.int p1), .val (.int p2), .val (.int p3), .val (.int p4), .val (.int p5), .val (.int (2 : Int32)), .val (.int (2 : Int32)), .unset, .unset, .unset, .unset] [(.int p3), (.int p2), (.int (2 : Int32))])) rfl (by rw [hml]; rfl) (argsL := [(.int (2 : Int32)), (.int p2), (.int p3)]) (rest := []) (lenOf own_pd7 rfl) rfl (by show 2 * 0 + _ ≤ _; exact Nat.le_of_eq rfl) (hb hby at_16) (fun _ _ => ⟨rfl, e0, (by decide : 0 + 3 ≤ _), (by decide : 0 + 8 ≤ _)⟩)
    dsimp only [Pt.U, Pt.locs, Pt.cells, Pt.slots] at X139 l139 y139 z139 st139 hQ139
    subst l139 y139 z139
    obtain ⟨s139, rfl, N139q, K139, Ex139_q, t139, kt139, vst139, Fq139_0, Vq139⟩ := hQ139
    have N139 := Fr.app N0 N139q
    have Z0_139 : n0 ≤ T139.heap.size := Nat.le_trans Z0 K139.1
    have Od139 := Od.keep K139 all0
    have kz_139 : 0 ≤ T139.heap.size := Nat.le_trans kz K139.1
    have Cr_139 := Cr.trans (CHr.keep K139 all0 Cr.1)
    refine own_st (V := T139.setTop (mkF m 19 #[.val (.int p1), .val (.int p2), .val (.int p3), .val (.int p4), .val (.int p5), .val (.int (2 : Int32)), .val (.int (2 : Int32)), .unset, .unset, .unset, .unset] [(.ref s139)])) (fun t k => st139 _ k) ?_
    refine own_st (V := T139.setTop (mkF m 21 #[.val (.int p1), .val (.int p2), .val (.int p3), .val (.int p4), .val (.int p5), .val (.int (2 : Int32)), .val (.int (2 : Int32)), .val (.ref s139), .unset, .unset, .unset] [])) (fun t k => XS.astore X139.here hx rfl (hb hby at_19) rfl rfl (l' := #[.val (.int p1), .val (.int p2), .val (.int p3), .val (.int p4), .val (.int p5), .val (.int (2 : Int32)), .val (.int (2 : Int32)), .val (.ref s139), .unset, .unset, .unset]) rfl k) ?_
    refine own_st (V := T139.setTop (mkF m 23 #[.val (.int p1), .val (.int p2), .val (.int p3), .val (.int p4), .val (.int p5), .val (.int (2 : Int32)), .val (.int (2 : Int32)), .val (.ref s139), .unset, .unset, .unset] [(.int (2 : Int32))])) (fun t k => XS.iload X139.here hx rfl (hb hby at_21) rfl k) ?_
    refine own_st (V := T139.setTop (mkF m 24 #[.val (.int p1), .val (.int p2), .val (.int p3), .val (.int p4), .val (.int p5), .val (.int (2 : Int32)), .val (.int (2 : Int32)), .val (.ref s139), .unset, .unset, .unset] [(.int p4), (.int (2 : Int32))])) (fun t k => XS.iloadN X139.here hx rfl (hb hby at_23) rfl k) ?_
    refine own_st (V := T139.setTop (mkF m 26 #[.val (.int p1), .val (.int p2), .val (.int p3), .val (.int p4), .val (.int p5), .val (.int (2 : Int32)), .val (.int (2 : Int32)), .val (.ref s139), .unset, .unset, .unset] [(.int p5), (.int p4), (.int (2 : Int32))])) (fun t k => XS.iload X139.here hx rfl (hb hby at_24) rfl k) ?_
    obtain ⟨_, _, ⟨T140, L140, k140, n140⟩, -, X140, ⟨Lc140, hQ140, l140, y140, z140⟩, st140⟩ := Jvm.LawKit.callS X139 hx (y := (⟨"com/example/tempora/tempora/core/IssueIsGivenPinLaw", "str", "(III)Ljava/lang/String;"⟩ : MethodName)) hown (mvT hZ (hw _ (List.mem_of_getElem? (i := 0) rfl))) (mvT hZ (hw _ (List.mem_of_getElem? (i := 1) rfl))) (mvT hZ (hw _ (List.mem_of_getElem? (i := 2) rfl))) (mvT hZ (hw _ (List.mem_of_getElem? (i := 3) rfl))) (by decide) (backOf (W := 0) (own_str2 l Z a0 hw [] p4 p5 cs T139.heap n0 Z0_139 Od139 SC hcs) hZ (hw _ (List.mem_of_getElem? (i := 3) rfl)) (hw _ (List.mem_of_getElem? (i := 2) rfl)) (by decide) (by decide)) (g := (mkF m 26 #[.val (.int p1), .val (.int p2), .val (.int p3), .val (.int p4), .val (.int p5), .val (.int (2 : Int32)), .val (.int (2 : Int32)), .val (.ref s139), .unset, .unset, .unset] [(.int p5), (.int p4), (.int (2 : Int32))])) rfl (by rw [hml]; rfl) (argsL := [(.int (2 : Int32)), (.int p4), (.int p5)]) (rest := []) (lenOf own_pd7 rfl) rfl (by show 2 * 0 + _ ≤ _; exact Nat.le_of_eq rfl) (hb hby at_26) (fun _ _ => ⟨rfl, rfl, (by decide : 3 + 3 ≤ _), (by decide : 8 + 8 ≤ _)⟩)
    dsimp only [Pt.U, Pt.locs, Pt.cells, Pt.slots] at X140 l140 y140 z140 st140 hQ140
    subst l140 y140 z140
    obtain ⟨s140, rfl, N140q, K140, Ex140_q, t140, kt140, vst140, Fq140_0, Vq140⟩ := hQ140
    have N140 := Fr.app N139 N140q
    have Z0_140 : n0 ≤ T140.heap.size := Nat.le_trans Z0_139 K140.1
    have F140_s139_value := Fq139_0.keep K140 nin0
    have Ex140_s139 := Ex139_q.keep K140
    have V140_t139 := Vq139.keep K140 nin0
    have Od140 := Od139.keep K140 all0
    have kz_140 : 0 ≤ T140.heap.size := Nat.le_trans kz_139 K140.1
    refine own_st (V := T140.setTop (mkF m 29 #[.val (.int p1), .val (.int p2), .val (.int p3), .val (.int p4), .val (.int p5), .val (.int (2 : Int32)), .val (.int (2 : Int32)), .val (.ref s139), .unset, .unset, .unset] [(.ref s140)])) (fun t k => st140 _ k) ?_
    refine own_st (V := T140.setTop (mkF m 31 #[.val (.int p1), .val (.int p2), .val (.int p3), .val (.int p4), .val (.int p5), .val (.int (2 : Int32)), .val (.int (2 : Int32)), .val (.ref s139), .val (.ref s140), .unset, .unset] [])) (fun t k => XS.astore X140.here hx rfl (hb hby at_29) rfl rfl (l' := #[.val (.int p1), .val (.int p2), .val (.int p3), .val (.int p4), .val (.int p5), .val (.int (2 : Int32)), .val (.int (2 : Int32)), .val (.ref s139), .val (.ref s140), .unset, .unset]) rfl k) ?_
    obtain ⟨T141, h141, X141, e141, E141, A141, D141, -, st141⟩ := newO X140 hx hZ hown (hw _ (List.mem_of_getElem? (i := 26) rfl)) (hw _ (List.mem_of_getElem? (i := 27) rfl)) (hw _ (List.mem_of_getElem? (i := 28) rfl)) rfl (g := (mkF m 31 #[.val (.int p1), .val (.int p2), .val (.int p3), .val (.int p4), .val (.int p5), .val (.int (2 : Int32)), .val (.int (2 : Int32)), .val (.ref s139), .val (.ref s140), .unset, .unset] [])) rfl (hb hby at_31) (by decide) (by decide)
    obtain ⟨b141, g141⟩ : ∃ z, z = T140.heap.size := ⟨_, rfl⟩
    rw [← g141] at A141 D141 st141
    have gb_b141 : n0 ≤ b141 := Nat.le_trans Z0_140 (Nat.le_of_eq g141.symm)
    have Z0_141 : n0 ≤ h141.size := Nat.le_trans Z0_140 E141.1
    have ne_t139_b141 : t139 ≠ b141 := Nat.ne_of_lt (Nat.lt_of_lt_of_le V140_t139.lt (Nat.le_of_eq g141.symm))
    have ne_t140_b141 : t140 ≠ b141 := Nat.ne_of_lt (Nat.lt_of_lt_of_le Vq140.lt (Nat.le_of_eq g141.symm))
    have ne_s139_b141 : s139 ≠ b141 := Nat.ne_of_lt (Nat.lt_of_lt_of_le Ex140_s139.lt (Nat.le_of_eq g141.symm))
    have ne_s140_b141 : s140 ≠ b141 := Nat.ne_of_lt (Nat.lt_of_lt_of_le Ex140_q.lt (Nat.le_of_eq g141.symm))
    have F141_s139_value := F140_s139_value.ext E141
    have F141_s140_value := Fq140_0.ext E141
    have Ex141_s139 := Ex140_s139.ext E141
    have Ex141_s140 := Ex140_q.ext E141
    have V141_t139 := V140_t139.ext E141
    have V141_t140 := Vq140.ext E141
    have Od141 := Od140.ext E141
    have kz_141 : 0 ≤ h141.size := Nat.le_trans kz_140 E141.1
    have F141_b141_designation : Fld Z h141 b141 "com/example/tempora/tempora/core/Issue" "designation" "Ljava/lang/String;" .null := D141 (Or.inr (hw _ (List.mem_of_getElem? (i := 39) rfl))) (ty := (.object "java/lang/String")) (by decide)
    have F141_b141_date : Fld Z h141 b141 "com/example/tempora/tempora/core/Issue" "date" "Ljava/lang/String;" .null := D141 (Or.inr (hw _ (List.mem_of_getElem? (i := 41) rfl))) (ty := (.object "java/lang/String")) (by decide)
    refine own_st (V := T141.setTop (mkF m 34 #[.val (.int p1), .val (.int p2), .val (.int p3), .val (.int p4), .val (.int p5), .val (.int (2 : Int32)), .val (.int (2 : Int32)), .val (.ref s139), .val (.ref s140), .unset, .unset] [(.ref b141)])) (fun t k => st141 _ k) ?_
    refine own_st (V := T141.setTop (mkF m 35 #[.val (.int p1), .val (.int p2), .val (.int p3), .val (.int p4), .val (.int p5), .val (.int (2 : Int32)), .val (.int (2 : Int32)), .val (.ref s139), .val (.ref s140), .unset, .unset] [(.ref b141), (.ref b141)])) (fun t k => XS.dup X141.here hx rfl (hb hby at_34) rfl rfl k) ?_
    refine own_st (V := T141.setTop (mkF m 37 #[.val (.int p1), .val (.int p2), .val (.int p3), .val (.int p4), .val (.int p5), .val (.int (2 : Int32)), .val (.int (2 : Int32)), .val (.ref s139), .val (.ref s140), .unset, .unset] [(.ref s139), (.ref b141), (.ref b141)])) (fun t k => XS.aload X141.here hx rfl (hb hby at_35) rfl rfl k) ?_
    refine own_st (V := T141.setTop (mkF m 39 #[.val (.int p1), .val (.int p2), .val (.int p3), .val (.int p4), .val (.int p5), .val (.int (2 : Int32)), .val (.int (2 : Int32)), .val (.ref s139), .val (.ref s140), .unset, .unset] [(.ref s140), (.ref s139), (.ref b141), (.ref b141)])) (fun t k => XS.aload X141.here hx rfl (hb hby at_37) rfl rfl k) ?_
    obtain ⟨_, _, ⟨T142, L142, k142, n142⟩, -, X142, ⟨Lc142, hQ142, l142, y142, z142⟩, st142⟩ := X141.specialBack hx (y := (⟨"com/example/tempora/tempora/core/Issue", "<init>", "(Ljava/lang/String;Ljava/lang/String;)V"⟩ : MethodName)) rfl hown (mvT hZ (hw _ (List.mem_of_getElem? (i := 29) rfl))) (mvT hZ (hw _ (List.mem_of_getElem? (i := 30) rfl))) (mvT hZ (hw _ (List.mem_of_getElem? (i := 31) rfl))) (by decide) (backOf (W := 1) (own_ii l Z a0 hw [] b141 s139 s140 h141 n0 Z0_141 F141_b141_designation F141_b141_date A141 gb_b141) hZ (hw _ (List.mem_of_getElem? (i := 31) rfl)) (hw _ (List.mem_of_getElem? (i := 28) rfl)) (by decide) (by decide)) (g := (mkF m 39 #[.val (.int p1), .val (.int p2), .val (.int p3), .val (.int p4), .val (.int p5), .val (.int (2 : Int32)), .val (.int (2 : Int32)), .val (.ref s139), .val (.ref s140), .unset, .unset] [(.ref s140), (.ref s139), (.ref b141), (.ref b141)])) rfl (by rw [hml]; rfl) (Steps.refl _) (a := b141) (argsL := [(.ref s139), (.ref s140)]) (rest := [(.ref b141)]) (lenOf own_pd8 rfl) rfl (by show 2 * 0 + _ ≤ _; exact Nat.le_of_eq rfl) (hb hby at_39) (fun _ _ => ⟨rfl, e141, (by decide : 7 + 0 ≤ _), (by decide : 18 + 0 ≤ _)⟩)
    dsimp only [Pt.U, Pt.locs, Pt.cells, Pt.slots] at X142 l142 y142 z142 st142 hQ142
    subst l142 y142 z142
    obtain ⟨rfl, N142q, K142, Ex142_q, Fq142_0, Fq142_1⟩ := hQ142
    have N142 := Fr.app N140 N142q
    have Z0_142 : n0 ≤ T142.heap.size := Nat.le_trans Z0_141 K142.1
    have F142_s139_value := F141_s139_value.keep K142 (ninS ne_s139_b141 nin0)
    have F142_s140_value := F141_s140_value.keep K142 (ninS ne_s140_b141 nin0)
    have Ex142_s139 := Ex141_s139.keep K142
    have Ex142_s140 := Ex141_s140.keep K142
    have Ex142_b141 := A141.keep K142
    have V142_t139 := V141_t139.keep K142 (ninS ne_t139_b141 nin0)
    have V142_t140 := V141_t140.keep K142 (ninS ne_t140_b141 nin0)
    have Od142 := Od141.keep K142 (allS gb_b141 all0)
    have kz_142 : 0 ≤ T142.heap.size := Nat.le_trans kz_141 K142.1
    refine own_st (V := T142.setTop (mkF m 42 #[.val (.int p1), .val (.int p2), .val (.int p3), .val (.int p4), .val (.int p5), .val (.int (2 : Int32)), .val (.int (2 : Int32)), .val (.ref s139), .val (.ref s140), .unset, .unset] [(.ref b141)])) (fun t k => st142.trans k) ?_
    refine own_st (V := T142.setTop (mkF m 44 #[.val (.int p1), .val (.int p2), .val (.int p3), .val (.int p4), .val (.int p5), .val (.int (2 : Int32)), .val (.int (2 : Int32)), .val (.ref s139), .val (.ref s140), .val (.ref b141), .unset] [])) (fun t k => XS.astore X142.here hx rfl (hb hby at_42) rfl rfl (l' := #[.val (.int p1), .val (.int p2), .val (.int p3), .val (.int p4), .val (.int p5), .val (.int (2 : Int32)), .val (.int (2 : Int32)), .val (.ref s139), .val (.ref s140), .val (.ref b141), .unset]) rfl k) ?_
    refine own_st (V := T142.setTop (mkF m 46 #[.val (.int p1), .val (.int p2), .val (.int p3), .val (.int p4), .val (.int p5), .val (.int (2 : Int32)), .val (.int (2 : Int32)), .val (.ref s139), .val (.ref s140), .val (.ref b141), .unset] [(.int (2 : Int32))])) (fun t k => XS.iload X142.here hx rfl (hb hby at_44) rfl k) ?_
    refine own_st (V := T142.setTop (mkF m 54 #[.val (.int p1), .val (.int p2), .val (.int p3), .val (.int p4), .val (.int p5), .val (.int (2 : Int32)), .val (.int (2 : Int32)), .val (.ref s139), .val (.ref s140), .val (.ref b141), .unset] [])) (fun t k => XS.ifYes X142.here hx rfl (pc0 := 46) (pc' := 54) rfl (hb hby at_46) rfl ((if0 _ _).trans (feq (by decide : ¬ ((2 : Int32) = (0 : Int32)))).2) (by decide) (by decide) k) ?_
    refine own_st (V := T142.setTop (mkF m 55 #[.val (.int p1), .val (.int p2), .val (.int p3), .val (.int p4), .val (.int p5), .val (.int (2 : Int32)), .val (.int (2 : Int32)), .val (.ref s139), .val (.ref s140), .val (.ref b141), .unset] [(.int (1 : Int32))])) (fun t k => XS.iconst X142.here hx rfl (hb hby at_54) k) ?_
    refine own_st (V := T142.setTop (mkF m 59 #[.val (.int p1), .val (.int p2), .val (.int p3), .val (.int p4), .val (.int p5), .val (.int (2 : Int32)), .val (.int (2 : Int32)), .val (.ref s139), .val (.ref s140), .val (.ref b141), .unset] [(.int (1 : Int32))])) (fun t k => XS.goto X142.here hx rfl (pc0 := 55) (pc' := 59) rfl (hb hby at_55) (by decide) (by decide) k) ?_
    refine own_st (V := T142.setTop (mkF m 61 #[.val (.int p1), .val (.int p2), .val (.int p3), .val (.int p4), .val (.int p5), .val (.int (2 : Int32)), .val (.int (2 : Int32)), .val (.ref s139), .val (.ref s140), .val (.ref b141), .val (.int (1 : Int32))] [])) (fun t k => XS.istore X142.here hx rfl (hb hby at_59) rfl (l' := #[.val (.int p1), .val (.int p2), .val (.int p3), .val (.int p4), .val (.int p5), .val (.int (2 : Int32)), .val (.int (2 : Int32)), .val (.ref s139), .val (.ref s140), .val (.ref b141), .val (.int (1 : Int32))]) rfl k) ?_
    refine own_st (V := T142.setTop (mkF m 63 #[.val (.int p1), .val (.int p2), .val (.int p3), .val (.int p4), .val (.int p5), .val (.int (2 : Int32)), .val (.int (2 : Int32)), .val (.ref s139), .val (.ref s140), .val (.ref b141), .val (.int (1 : Int32))] [(.ref b141)])) (fun t k => XS.aload X142.here hx rfl (hb hby at_61) rfl rfl k) ?_
    obtain ⟨cq143, kq143, q143a, q143b, q143c⟩ := isOf hZ rfl Ex142_q
    obtain ⟨_, _, ⟨T143, L143, k143, n143⟩, -, X143, ⟨Lc143, hQ143, l143, y143, z143⟩, st143⟩ := X142.virtualBack hx (y := (⟨"com/example/tempora/tempora/core/Issue", "isGiven", "()Z"⟩ : MethodName)) (z := (⟨"com/example/tempora/tempora/core/Issue", "isGiven", "()Z"⟩ : MethodName)) hown (mvT hZ (hw _ (List.mem_of_getElem? (i := 42) rfl))) (mvT hZ (hw _ (List.mem_of_getElem? (i := 43) rfl))) (notFace_of_selects (args := #[]) (mvT hZ (hw _ (List.mem_of_getElem? (i := 45) rfl)))) (mvT hZ (hw _ (List.mem_of_getElem? (i := 45) rfl))) (mvT hZ (hw _ (List.mem_of_getElem? (i := 44) rfl))) (by decide) (backOf (W := 0) (own_ig22 l Z a0 hw [] b141 s139 s140 t139 t140 kt139 kt140 vst139 vst140 T142.heap n0 Z0_142 Fq142_0 Fq142_1 Ex142_s139 Ex142_s140 F142_s139_value F142_s140_value V142_t139 V142_t140) hZ (hw _ (List.mem_of_getElem? (i := 46) rfl)) (hw _ (List.mem_of_getElem? (i := 28) rfl)) (by decide) (by decide)) q143a q143c (g := (mkF m 63 #[.val (.int p1), .val (.int p2), .val (.int p3), .val (.int p4), .val (.int p5), .val (.int (2 : Int32)), .val (.int (2 : Int32)), .val (.ref s139), .val (.ref s140), .val (.ref b141), .val (.int (1 : Int32))] [(.ref b141)])) rfl (by rw [hml]; rfl) (Steps.refl _) (argsL := []) (rest := []) (lenOf own_pd6 rfl) rfl (by show 2 * 0 + _ ≤ _; exact Nat.le_of_eq rfl) (hb hby at_63) (fun _ _ => ⟨rfl, rfl, (by decide : 7 + 0 ≤ _), (by decide : 18 + 0 ≤ _)⟩)
    dsimp only [Pt.U, Pt.locs, Pt.cells, Pt.slots] at X143 l143 y143 z143 st143 hQ143
    subst l143 y143 z143
    obtain ⟨rfl, N143q, e143⟩ := hQ143
    have N143 := Fr.app N142 N143q
    refine own_st (V := T143.setTop (mkF m 66 #[.val (.int p1), .val (.int p2), .val (.int p3), .val (.int p4), .val (.int p5), .val (.int (2 : Int32)), .val (.int (2 : Int32)), .val (.ref s139), .val (.ref s140), .val (.ref b141), .val (.int (1 : Int32))] [(.int (1 : Int32))])) (fun t k => st143.trans k) ?_
    refine own_st (V := T143.setTop (mkF m 68 #[.val (.int p1), .val (.int p2), .val (.int p3), .val (.int p4), .val (.int p5), .val (.int (2 : Int32)), .val (.int (2 : Int32)), .val (.ref s139), .val (.ref s140), .val (.ref b141), .val (.int (1 : Int32))] [(.int (1 : Int32)), (.int (1 : Int32))])) (fun t k => XS.iload X143.here hx rfl (hb hby at_66) rfl k) ?_
    refine own_st (V := T143.setTop (mkF m 71 #[.val (.int p1), .val (.int p2), .val (.int p3), .val (.int p4), .val (.int p5), .val (.int (2 : Int32)), .val (.int (2 : Int32)), .val (.ref s139), .val (.ref s140), .val (.ref b141), .val (.int (1 : Int32))] [])) (fun t k => XS.icmpNo X143.here hx rfl (hb hby at_68) rfl (teq (by decide : (1 : Int32) = (1 : Int32))).2 k) ?_
    refine own_st (V := T143.setTop (mkF m 72 #[.val (.int p1), .val (.int p2), .val (.int p3), .val (.int p4), .val (.int p5), .val (.int (2 : Int32)), .val (.int (2 : Int32)), .val (.ref s139), .val (.ref s140), .val (.ref b141), .val (.int (1 : Int32))] [(.int (1 : Int32))])) (fun t k => XS.iconst X143.here hx rfl (hb hby at_71) k) ?_
    refine own_st (V := T143.setTop (mkF m 76 #[.val (.int p1), .val (.int p2), .val (.int p3), .val (.int p4), .val (.int p5), .val (.int (2 : Int32)), .val (.int (2 : Int32)), .val (.ref s139), .val (.ref s140), .val (.ref b141), .val (.int (1 : Int32))] [(.int (1 : Int32))])) (fun t k => XS.goto X143.here hx rfl (pc0 := 72) (pc' := 76) rfl (hb hby at_72) (by decide) (by decide) k) ?_
    exact own_retW (s := s) hSi (by rw [e143]; exact kz_142) X143 hx hlk Bd.returns (by decide +kernel) (Or.inl ⟨rfl, by simp, _, rfl⟩) (hb hby at_76) (by decide) (by decide) ⟨rfl, N143⟩
  · rw [h2]
    refine own_st (V := s₁.setTop (mkF m 12 #[.val (.int p1), .val (.int p2), .val (.int p3), .val (.int p4), .val (.int p5), .val (.int (2 : Int32)), .val (.int (3 : Int32)), .unset, .unset, .unset, .unset] [])) (fun t k => XS.istore X0.here hx rfl (hb hby at_10) rfl (l' := #[.val (.int p1), .val (.int p2), .val (.int p3), .val (.int p4), .val (.int p5), .val (.int (2 : Int32)), .val (.int (3 : Int32)), .unset, .unset, .unset, .unset]) rfl k) ?_
    refine own_st (V := s₁.setTop (mkF m 14 #[.val (.int p1), .val (.int p2), .val (.int p3), .val (.int p4), .val (.int p5), .val (.int (2 : Int32)), .val (.int (3 : Int32)), .unset, .unset, .unset, .unset] [(.int (2 : Int32))])) (fun t k => XS.iload X0.here hx rfl (hb hby at_12) rfl k) ?_
    refine own_st (V := s₁.setTop (mkF m 15 #[.val (.int p1), .val (.int p2), .val (.int p3), .val (.int p4), .val (.int p5), .val (.int (2 : Int32)), .val (.int (3 : Int32)), .unset, .unset, .unset, .unset] [(.int p2), (.int (2 : Int32))])) (fun t k => XS.iloadN X0.here hx rfl (hb hby at_14) rfl k) ?_
    refine own_st (V := s₁.setTop (mkF m 16 #[.val (.int p1), .val (.int p2), .val (.int p3), .val (.int p4), .val (.int p5), .val (.int (2 : Int32)), .val (.int (3 : Int32)), .unset, .unset, .unset, .unset] [(.int p3), (.int p2), (.int (2 : Int32))])) (fun t k => XS.iloadN X0.here hx rfl (hb hby at_15) rfl k) ?_
    obtain ⟨_, _, ⟨T144, L144, k144, n144⟩, -, X144, ⟨Lc144, hQ144, l144, y144, z144⟩, st144⟩ := Jvm.LawKit.callS X0 hx (y := (⟨"com/example/tempora/tempora/core/IssueIsGivenPinLaw", "str", "(III)Ljava/lang/String;"⟩ : MethodName)) hown (mvT hZ (hw _ (List.mem_of_getElem? (i := 0) rfl))) (mvT hZ (hw _ (List.mem_of_getElem? (i := 1) rfl))) (mvT hZ (hw _ (List.mem_of_getElem? (i := 2) rfl))) (mvT hZ (hw _ (List.mem_of_getElem? (i := 3) rfl))) (by decide) (backOf (W := 0) (own_str2 l Z a0 hw [] p2 p3 cs h0 n0 Z0 Od SC hcs) hZ (hw _ (List.mem_of_getElem? (i := 3) rfl)) (hw _ (List.mem_of_getElem? (i := 2) rfl)) (by decide) (by decide)) (g := (mkF m 16 #[.val (.int p1), .val (.int p2), .val (.int p3), .val (.int p4), .val (.int p5), .val (.int (2 : Int32)), .val (.int (3 : Int32)), .unset, .unset, .unset, .unset] [(.int p3), (.int p2), (.int (2 : Int32))])) rfl (by rw [hml]; rfl) (argsL := [(.int (2 : Int32)), (.int p2), (.int p3)]) (rest := []) (lenOf own_pd7 rfl) rfl (by show 2 * 0 + _ ≤ _; exact Nat.le_of_eq rfl) (hb hby at_16) (fun _ _ => ⟨rfl, e0, (by decide : 0 + 3 ≤ _), (by decide : 0 + 8 ≤ _)⟩)
    dsimp only [Pt.U, Pt.locs, Pt.cells, Pt.slots] at X144 l144 y144 z144 st144 hQ144
    subst l144 y144 z144
    obtain ⟨s144, rfl, N144q, K144, Ex144_q, t144, kt144, vst144, Fq144_0, Vq144⟩ := hQ144
    have N144 := Fr.app N0 N144q
    have Z0_144 : n0 ≤ T144.heap.size := Nat.le_trans Z0 K144.1
    have Od144 := Od.keep K144 all0
    have kz_144 : 0 ≤ T144.heap.size := Nat.le_trans kz K144.1
    have Cr_144 := Cr.trans (CHr.keep K144 all0 Cr.1)
    refine own_st (V := T144.setTop (mkF m 19 #[.val (.int p1), .val (.int p2), .val (.int p3), .val (.int p4), .val (.int p5), .val (.int (2 : Int32)), .val (.int (3 : Int32)), .unset, .unset, .unset, .unset] [(.ref s144)])) (fun t k => st144 _ k) ?_
    refine own_st (V := T144.setTop (mkF m 21 #[.val (.int p1), .val (.int p2), .val (.int p3), .val (.int p4), .val (.int p5), .val (.int (2 : Int32)), .val (.int (3 : Int32)), .val (.ref s144), .unset, .unset, .unset] [])) (fun t k => XS.astore X144.here hx rfl (hb hby at_19) rfl rfl (l' := #[.val (.int p1), .val (.int p2), .val (.int p3), .val (.int p4), .val (.int p5), .val (.int (2 : Int32)), .val (.int (3 : Int32)), .val (.ref s144), .unset, .unset, .unset]) rfl k) ?_
    refine own_st (V := T144.setTop (mkF m 23 #[.val (.int p1), .val (.int p2), .val (.int p3), .val (.int p4), .val (.int p5), .val (.int (2 : Int32)), .val (.int (3 : Int32)), .val (.ref s144), .unset, .unset, .unset] [(.int (3 : Int32))])) (fun t k => XS.iload X144.here hx rfl (hb hby at_21) rfl k) ?_
    refine own_st (V := T144.setTop (mkF m 24 #[.val (.int p1), .val (.int p2), .val (.int p3), .val (.int p4), .val (.int p5), .val (.int (2 : Int32)), .val (.int (3 : Int32)), .val (.ref s144), .unset, .unset, .unset] [(.int p4), (.int (3 : Int32))])) (fun t k => XS.iloadN X144.here hx rfl (hb hby at_23) rfl k) ?_
    refine own_st (V := T144.setTop (mkF m 26 #[.val (.int p1), .val (.int p2), .val (.int p3), .val (.int p4), .val (.int p5), .val (.int (2 : Int32)), .val (.int (3 : Int32)), .val (.ref s144), .unset, .unset, .unset] [(.int p5), (.int p4), (.int (3 : Int32))])) (fun t k => XS.iload X144.here hx rfl (hb hby at_24) rfl k) ?_
    obtain ⟨_, _, ⟨T145, L145, k145, n145⟩, -, X145, ⟨Lc145, hQ145, l145, y145, z145⟩, st145⟩ := Jvm.LawKit.callS X144 hx (y := (⟨"com/example/tempora/tempora/core/IssueIsGivenPinLaw", "str", "(III)Ljava/lang/String;"⟩ : MethodName)) hown (mvT hZ (hw _ (List.mem_of_getElem? (i := 0) rfl))) (mvT hZ (hw _ (List.mem_of_getElem? (i := 1) rfl))) (mvT hZ (hw _ (List.mem_of_getElem? (i := 2) rfl))) (mvT hZ (hw _ (List.mem_of_getElem? (i := 3) rfl))) (by decide) (backOf (W := 0) (own_str3 l Z a0 hw [] p4 p5 cs T144.heap n0 Z0_144 Od144 SC hcs) hZ (hw _ (List.mem_of_getElem? (i := 3) rfl)) (hw _ (List.mem_of_getElem? (i := 2) rfl)) (by decide) (by decide)) (g := (mkF m 26 #[.val (.int p1), .val (.int p2), .val (.int p3), .val (.int p4), .val (.int p5), .val (.int (2 : Int32)), .val (.int (3 : Int32)), .val (.ref s144), .unset, .unset, .unset] [(.int p5), (.int p4), (.int (3 : Int32))])) rfl (by rw [hml]; rfl) (argsL := [(.int (3 : Int32)), (.int p4), (.int p5)]) (rest := []) (lenOf own_pd7 rfl) rfl (by show 2 * 0 + _ ≤ _; exact Nat.le_of_eq rfl) (hb hby at_26) (fun _ _ => ⟨rfl, rfl, (by decide : 3 + 3 ≤ _), (by decide : 8 + 8 ≤ _)⟩)
    dsimp only [Pt.U, Pt.locs, Pt.cells, Pt.slots] at X145 l145 y145 z145 st145 hQ145
    subst l145 y145 z145
    obtain ⟨s145, rfl, N145q, K145, Ex145_q, t145, kt145, vst145, Fq145_0, Vq145⟩ := hQ145
    have N145 := Fr.app N144 N145q
    have Z0_145 : n0 ≤ T145.heap.size := Nat.le_trans Z0_144 K145.1
    have F145_s144_value := Fq144_0.keep K145 nin0
    have Ex145_s144 := Ex144_q.keep K145
    have V145_t144 := Vq144.keep K145 nin0
    have Od145 := Od144.keep K145 all0
    have kz_145 : 0 ≤ T145.heap.size := Nat.le_trans kz_144 K145.1
    refine own_st (V := T145.setTop (mkF m 29 #[.val (.int p1), .val (.int p2), .val (.int p3), .val (.int p4), .val (.int p5), .val (.int (2 : Int32)), .val (.int (3 : Int32)), .val (.ref s144), .unset, .unset, .unset] [(.ref s145)])) (fun t k => st145 _ k) ?_
    refine own_st (V := T145.setTop (mkF m 31 #[.val (.int p1), .val (.int p2), .val (.int p3), .val (.int p4), .val (.int p5), .val (.int (2 : Int32)), .val (.int (3 : Int32)), .val (.ref s144), .val (.ref s145), .unset, .unset] [])) (fun t k => XS.astore X145.here hx rfl (hb hby at_29) rfl rfl (l' := #[.val (.int p1), .val (.int p2), .val (.int p3), .val (.int p4), .val (.int p5), .val (.int (2 : Int32)), .val (.int (3 : Int32)), .val (.ref s144), .val (.ref s145), .unset, .unset]) rfl k) ?_
    obtain ⟨T146, h146, X146, e146, E146, A146, D146, -, st146⟩ := newO X145 hx hZ hown (hw _ (List.mem_of_getElem? (i := 26) rfl)) (hw _ (List.mem_of_getElem? (i := 27) rfl)) (hw _ (List.mem_of_getElem? (i := 28) rfl)) rfl (g := (mkF m 31 #[.val (.int p1), .val (.int p2), .val (.int p3), .val (.int p4), .val (.int p5), .val (.int (2 : Int32)), .val (.int (3 : Int32)), .val (.ref s144), .val (.ref s145), .unset, .unset] [])) rfl (hb hby at_31) (by decide) (by decide)
    obtain ⟨b146, g146⟩ : ∃ z, z = T145.heap.size := ⟨_, rfl⟩
    rw [← g146] at A146 D146 st146
    have gb_b146 : n0 ≤ b146 := Nat.le_trans Z0_145 (Nat.le_of_eq g146.symm)
    have Z0_146 : n0 ≤ h146.size := Nat.le_trans Z0_145 E146.1
    have ne_t144_b146 : t144 ≠ b146 := Nat.ne_of_lt (Nat.lt_of_lt_of_le V145_t144.lt (Nat.le_of_eq g146.symm))
    have ne_t145_b146 : t145 ≠ b146 := Nat.ne_of_lt (Nat.lt_of_lt_of_le Vq145.lt (Nat.le_of_eq g146.symm))
    have ne_s144_b146 : s144 ≠ b146 := Nat.ne_of_lt (Nat.lt_of_lt_of_le Ex145_s144.lt (Nat.le_of_eq g146.symm))
    have ne_s145_b146 : s145 ≠ b146 := Nat.ne_of_lt (Nat.lt_of_lt_of_le Ex145_q.lt (Nat.le_of_eq g146.symm))
    have F146_s144_value := F145_s144_value.ext E146
    have F146_s145_value := Fq145_0.ext E146
    have Ex146_s144 := Ex145_s144.ext E146
    have Ex146_s145 := Ex145_q.ext E146
    have V146_t144 := V145_t144.ext E146
    have V146_t145 := Vq145.ext E146
    have Od146 := Od145.ext E146
    have kz_146 : 0 ≤ h146.size := Nat.le_trans kz_145 E146.1
    have F146_b146_designation : Fld Z h146 b146 "com/example/tempora/tempora/core/Issue" "designation" "Ljava/lang/String;" .null := D146 (Or.inr (hw _ (List.mem_of_getElem? (i := 39) rfl))) (ty := (.object "java/lang/String")) (by decide)
    have F146_b146_date : Fld Z h146 b146 "com/example/tempora/tempora/core/Issue" "date" "Ljava/lang/String;" .null := D146 (Or.inr (hw _ (List.mem_of_getElem? (i := 41) rfl))) (ty := (.object "java/lang/String")) (by decide)
    refine own_st (V := T146.setTop (mkF m 34 #[.val (.int p1), .val (.int p2), .val (.int p3), .val (.int p4), .val (.int p5), .val (.int (2 : Int32)), .val (.int (3 : Int32)), .val (.ref s144), .val (.ref s145), .unset, .unset] [(.ref b146)])) (fun t k => st146 _ k) ?_
    refine own_st (V := T146.setTop (mkF m 35 #[.val (.int p1), .val (.int p2), .val (.int p3), .val (.int p4), .val (.int p5), .val (.int (2 : Int32)), .val (.int (3 : Int32)), .val (.ref s144), .val (.ref s145), .unset, .unset] [(.ref b146), (.ref b146)])) (fun t k => XS.dup X146.here hx rfl (hb hby at_34) rfl rfl k) ?_
    refine own_st (V := T146.setTop (mkF m 37 #[.val (.int p1), .val (.int p2), .val (.int p3), .val (.int p4), .val (.int p5), .val (.int (2 : Int32)), .val (.int (3 : Int32)), .val (.ref s144), .val (.ref s145), .unset, .unset] [(.ref s144), (.ref b146), (.ref b146)])) (fun t k => XS.aload X146.here hx rfl (hb hby at_35) rfl rfl k) ?_
    refine own_st (V := T146.setTop (mkF m 39 #[.val (.int p1), .val (.int p2), .val (.int p3), .val (.int p4), .val (.int p5), .val (.int (2 : Int32)), .val (.int (3 : Int32)), .val (.ref s144), .val (.ref s145), .unset, .unset] [(.ref s145), (.ref s144), (.ref b146), (.ref b146)])) (fun t k => XS.aload X146.here hx rfl (hb hby at_37) rfl rfl k) ?_
    obtain ⟨_, _, ⟨T147, L147, k147, n147⟩, -, X147, ⟨Lc147, hQ147, l147, y147, z147⟩, st147⟩ := X146.specialBack hx (y := (⟨"com/example/tempora/tempora/core/Issue", "<init>", "(Ljava/lang/String;Ljava/lang/String;)V"⟩ : MethodName)) rfl hown (mvT hZ (hw _ (List.mem_of_getElem? (i := 29) rfl))) (mvT hZ (hw _ (List.mem_of_getElem? (i := 30) rfl))) (mvT hZ (hw _ (List.mem_of_getElem? (i := 31) rfl))) (by decide) (backOf (W := 1) (own_ii l Z a0 hw [] b146 s144 s145 h146 n0 Z0_146 F146_b146_designation F146_b146_date A146 gb_b146) hZ (hw _ (List.mem_of_getElem? (i := 31) rfl)) (hw _ (List.mem_of_getElem? (i := 28) rfl)) (by decide) (by decide)) (g := (mkF m 39 #[.val (.int p1), .val (.int p2), .val (.int p3), .val (.int p4), .val (.int p5), .val (.int (2 : Int32)), .val (.int (3 : Int32)), .val (.ref s144), .val (.ref s145), .unset, .unset] [(.ref s145), (.ref s144), (.ref b146), (.ref b146)])) rfl (by rw [hml]; rfl) (Steps.refl _) (a := b146) (argsL := [(.ref s144), (.ref s145)]) (rest := [(.ref b146)]) (lenOf own_pd8 rfl) rfl (by show 2 * 0 + _ ≤ _; exact Nat.le_of_eq rfl) (hb hby at_39) (fun _ _ => ⟨rfl, e146, (by decide : 7 + 0 ≤ _), (by decide : 18 + 0 ≤ _)⟩)
    dsimp only [Pt.U, Pt.locs, Pt.cells, Pt.slots] at X147 l147 y147 z147 st147 hQ147
    subst l147 y147 z147
    obtain ⟨rfl, N147q, K147, Ex147_q, Fq147_0, Fq147_1⟩ := hQ147
    have N147 := Fr.app N145 N147q
    have Z0_147 : n0 ≤ T147.heap.size := Nat.le_trans Z0_146 K147.1
    have F147_s144_value := F146_s144_value.keep K147 (ninS ne_s144_b146 nin0)
    have F147_s145_value := F146_s145_value.keep K147 (ninS ne_s145_b146 nin0)
    have Ex147_s144 := Ex146_s144.keep K147
    have Ex147_s145 := Ex146_s145.keep K147
    have Ex147_b146 := A146.keep K147
    have V147_t144 := V146_t144.keep K147 (ninS ne_t144_b146 nin0)
    have V147_t145 := V146_t145.keep K147 (ninS ne_t145_b146 nin0)
    have Od147 := Od146.keep K147 (allS gb_b146 all0)
    have kz_147 : 0 ≤ T147.heap.size := Nat.le_trans kz_146 K147.1
    refine own_st (V := T147.setTop (mkF m 42 #[.val (.int p1), .val (.int p2), .val (.int p3), .val (.int p4), .val (.int p5), .val (.int (2 : Int32)), .val (.int (3 : Int32)), .val (.ref s144), .val (.ref s145), .unset, .unset] [(.ref b146)])) (fun t k => st147.trans k) ?_
    refine own_st (V := T147.setTop (mkF m 44 #[.val (.int p1), .val (.int p2), .val (.int p3), .val (.int p4), .val (.int p5), .val (.int (2 : Int32)), .val (.int (3 : Int32)), .val (.ref s144), .val (.ref s145), .val (.ref b146), .unset] [])) (fun t k => XS.astore X147.here hx rfl (hb hby at_42) rfl rfl (l' := #[.val (.int p1), .val (.int p2), .val (.int p3), .val (.int p4), .val (.int p5), .val (.int (2 : Int32)), .val (.int (3 : Int32)), .val (.ref s144), .val (.ref s145), .val (.ref b146), .unset]) rfl k) ?_
    refine own_st (V := T147.setTop (mkF m 46 #[.val (.int p1), .val (.int p2), .val (.int p3), .val (.int p4), .val (.int p5), .val (.int (2 : Int32)), .val (.int (3 : Int32)), .val (.ref s144), .val (.ref s145), .val (.ref b146), .unset] [(.int (2 : Int32))])) (fun t k => XS.iload X147.here hx rfl (hb hby at_44) rfl k) ?_
    refine own_st (V := T147.setTop (mkF m 54 #[.val (.int p1), .val (.int p2), .val (.int p3), .val (.int p4), .val (.int p5), .val (.int (2 : Int32)), .val (.int (3 : Int32)), .val (.ref s144), .val (.ref s145), .val (.ref b146), .unset] [])) (fun t k => XS.ifYes X147.here hx rfl (pc0 := 46) (pc' := 54) rfl (hb hby at_46) rfl ((if0 _ _).trans (feq (by decide : ¬ ((2 : Int32) = (0 : Int32)))).2) (by decide) (by decide) k) ?_
    refine own_st (V := T147.setTop (mkF m 55 #[.val (.int p1), .val (.int p2), .val (.int p3), .val (.int p4), .val (.int p5), .val (.int (2 : Int32)), .val (.int (3 : Int32)), .val (.ref s144), .val (.ref s145), .val (.ref b146), .unset] [(.int (1 : Int32))])) (fun t k => XS.iconst X147.here hx rfl (hb hby at_54) k) ?_
    refine own_st (V := T147.setTop (mkF m 59 #[.val (.int p1), .val (.int p2), .val (.int p3), .val (.int p4), .val (.int p5), .val (.int (2 : Int32)), .val (.int (3 : Int32)), .val (.ref s144), .val (.ref s145), .val (.ref b146), .unset] [(.int (1 : Int32))])) (fun t k => XS.goto X147.here hx rfl (pc0 := 55) (pc' := 59) rfl (hb hby at_55) (by decide) (by decide) k) ?_
    refine own_st (V := T147.setTop (mkF m 61 #[.val (.int p1), .val (.int p2), .val (.int p3), .val (.int p4), .val (.int p5), .val (.int (2 : Int32)), .val (.int (3 : Int32)), .val (.ref s144), .val (.ref s145), .val (.ref b146), .val (.int (1 : Int32))] [])) (fun t k => XS.istore X147.here hx rfl (hb hby at_59) rfl (l' := #[.val (.int p1), .val (.int p2), .val (.int p3), .val (.int p4), .val (.int p5), .val (.int (2 : Int32)), .val (.int (3 : Int32)), .val (.ref s144), .val (.ref s145), .val (.ref b146), .val (.int (1 : Int32))]) rfl k) ?_
    refine own_st (V := T147.setTop (mkF m 63 #[.val (.int p1), .val (.int p2), .val (.int p3), .val (.int p4), .val (.int p5), .val (.int (2 : Int32)), .val (.int (3 : Int32)), .val (.ref s144), .val (.ref s145), .val (.ref b146), .val (.int (1 : Int32))] [(.ref b146)])) (fun t k => XS.aload X147.here hx rfl (hb hby at_61) rfl rfl k) ?_
    obtain ⟨cq148, kq148, q148a, q148b, q148c⟩ := isOf hZ rfl Ex147_q
    obtain ⟨_, _, ⟨T148, L148, k148, n148⟩, -, X148, ⟨Lc148, hQ148, l148, y148, z148⟩, st148⟩ := X147.virtualBack hx (y := (⟨"com/example/tempora/tempora/core/Issue", "isGiven", "()Z"⟩ : MethodName)) (z := (⟨"com/example/tempora/tempora/core/Issue", "isGiven", "()Z"⟩ : MethodName)) hown (mvT hZ (hw _ (List.mem_of_getElem? (i := 42) rfl))) (mvT hZ (hw _ (List.mem_of_getElem? (i := 43) rfl))) (notFace_of_selects (args := #[]) (mvT hZ (hw _ (List.mem_of_getElem? (i := 45) rfl)))) (mvT hZ (hw _ (List.mem_of_getElem? (i := 45) rfl))) (mvT hZ (hw _ (List.mem_of_getElem? (i := 44) rfl))) (by decide) (backOf (W := 0) (own_ig22 l Z a0 hw [] b146 s144 s145 t144 t145 kt144 kt145 vst144 vst145 T147.heap n0 Z0_147 Fq147_0 Fq147_1 Ex147_s144 Ex147_s145 F147_s144_value F147_s145_value V147_t144 V147_t145) hZ (hw _ (List.mem_of_getElem? (i := 46) rfl)) (hw _ (List.mem_of_getElem? (i := 28) rfl)) (by decide) (by decide)) q148a q148c (g := (mkF m 63 #[.val (.int p1), .val (.int p2), .val (.int p3), .val (.int p4), .val (.int p5), .val (.int (2 : Int32)), .val (.int (3 : Int32)), .val (.ref s144), .val (.ref s145), .val (.ref b146), .val (.int (1 : Int32))] [(.ref b146)])) rfl (by rw [hml]; rfl) (Steps.refl _) (argsL := []) (rest := []) (lenOf own_pd6 rfl) rfl (by show 2 * 0 + _ ≤ _; exact Nat.le_of_eq rfl) (hb hby at_63) (fun _ _ => ⟨rfl, rfl, (by decide : 7 + 0 ≤ _), (by decide : 18 + 0 ≤ _)⟩)
    dsimp only [Pt.U, Pt.locs, Pt.cells, Pt.slots] at X148 l148 y148 z148 st148 hQ148
    subst l148 y148 z148
    obtain ⟨rfl, N148q, e148⟩ := hQ148
    have N148 := Fr.app N147 N148q
    refine own_st (V := T148.setTop (mkF m 66 #[.val (.int p1), .val (.int p2), .val (.int p3), .val (.int p4), .val (.int p5), .val (.int (2 : Int32)), .val (.int (3 : Int32)), .val (.ref s144), .val (.ref s145), .val (.ref b146), .val (.int (1 : Int32))] [(.int (1 : Int32))])) (fun t k => st148.trans k) ?_
    refine own_st (V := T148.setTop (mkF m 68 #[.val (.int p1), .val (.int p2), .val (.int p3), .val (.int p4), .val (.int p5), .val (.int (2 : Int32)), .val (.int (3 : Int32)), .val (.ref s144), .val (.ref s145), .val (.ref b146), .val (.int (1 : Int32))] [(.int (1 : Int32)), (.int (1 : Int32))])) (fun t k => XS.iload X148.here hx rfl (hb hby at_66) rfl k) ?_
    refine own_st (V := T148.setTop (mkF m 71 #[.val (.int p1), .val (.int p2), .val (.int p3), .val (.int p4), .val (.int p5), .val (.int (2 : Int32)), .val (.int (3 : Int32)), .val (.ref s144), .val (.ref s145), .val (.ref b146), .val (.int (1 : Int32))] [])) (fun t k => XS.icmpNo X148.here hx rfl (hb hby at_68) rfl (teq (by decide : (1 : Int32) = (1 : Int32))).2 k) ?_
    refine own_st (V := T148.setTop (mkF m 72 #[.val (.int p1), .val (.int p2), .val (.int p3), .val (.int p4), .val (.int p5), .val (.int (2 : Int32)), .val (.int (3 : Int32)), .val (.ref s144), .val (.ref s145), .val (.ref b146), .val (.int (1 : Int32))] [(.int (1 : Int32))])) (fun t k => XS.iconst X148.here hx rfl (hb hby at_71) k) ?_
    refine own_st (V := T148.setTop (mkF m 76 #[.val (.int p1), .val (.int p2), .val (.int p3), .val (.int p4), .val (.int p5), .val (.int (2 : Int32)), .val (.int (3 : Int32)), .val (.ref s144), .val (.ref s145), .val (.ref b146), .val (.int (1 : Int32))] [(.int (1 : Int32))])) (fun t k => XS.goto X148.here hx rfl (pc0 := 72) (pc' := 76) rfl (hb hby at_72) (by decide) (by decide) k) ?_
    exact own_retW (s := s) hSi (by rw [e148]; exact kz_147) X148 hx hlk Bd.returns (by decide +kernel) (Or.inl ⟨rfl, by simp, _, rfl⟩) (hb hby at_76) (by decide) (by decide) ⟨rfl, N148⟩
set_option maxRecDepth 65536 in
set_option maxHeartbeats 40000000 in
theorem own_law3 (l : Launch) (Z : State) (a0 : Array Value) (hw : ∀ d ∈ tables_1, d.before a0 Z = true) (ws : List Jvm.Cond) (p1 p2 p3 p4 p5 cs : Int32) (h0 : Heap) (n0 : Nat) (Z0 : n0 ≤ h0.size) (Od : Old Z n0 h0) (SC : Sta Z Z.heap "java/lang/String" "COMPACT_STRINGS" "Z" (.int cs)) (hcs : ¬ (cs = (0 : Int32))) (hk : (p1 &&& (3 : Int32)) = (3 : Int32)) :
    MetFree l x (head1 (Jvm.Cond.code x code maxLocals ret :: ws) room_1) (fun a U => a = #[(.int p1), (.int p2), (.int p3), (.int p4), (.int p5)] ∧ Z.Warmed39 U.vm ∧ U.heap = h0 ∧ CHv Z own_EL U.vm h0) (fun _ _ _ _ _ => True) (fun _ U o U' => ∃ v L, o = .returned v ∧ own_Q0 Z p1 p2 p3 p4 p5 cs h0 n0 v U'.heap L ∧ ReturnedEndW U o U' L room_1.cells room_1.slots) := by
  refine MetFree.of_bodySF (plainFor_of_name own_pn_com_example_tempora_tempora_core_IssueIsGivenPinLaw) hisR ?_
  intro p e s m args below meth c s₁ Bd hml0 hP hK
  obtain ⟨rfl, hZ, hh, hC0⟩ := hP
  have hx := Bd.exec
  have hby := Bd.bytes
  have hml : c.maxLocals = 11 := hml0
  have hown : s.vm.findClass "com/example/tempora/tempora/core/IssueIsGivenPinLaw" = some m.cls := findClass_of_methodNamed Bd.named
  have hnm := (name_of_methodNamed Bd.named Bd.method).1
  have hlk : meth.locks = false := BodyLoose.notSynchronized Bd
  have X0 : Stand p l e room_1 (s.setVm s.vm) m #[(.int p1), (.int p2), (.int p3), (.int p4), (.int p5)] below meth c s₁ [] 0 0 := Stand.of_body Bd
  have hZ : Z.Warmed39 (s.setVm s.vm).vm := hZ
  have hown : (s.setVm s.vm).vm.findClass "com/example/tempora/tempora/core/IssueIsGivenPinLaw" = some m.cls := hown
  have hSi : s.Since s.vm 0 := (State.WarmedH.refl s).since 0
  have kz : 0 ≤ h0.size := Nat.zero_le _
  have hEL := own_ew hw
  have Cr : CHr Z own_EL s.vm h0 s.vm h0 := CHr.refl hC0
  have e0 : s₁.heap = h0 := by rw [← hh, Bd.state]; rfl
  have N0 := Fr.nil n0
  show own_Go p e below #[(.int p1), (.int p2), (.int p3), (.int p4), (.int p5)] s (fun _ U o U' => ∃ v L, o = .returned v ∧ own_Q0 Z p1 p2 p3 p4 p5 cs h0 n0 v U'.heap L ∧ ReturnedEndW U o U' L room_1.cells room_1.slots) (s₁.setTop (entryFrame m #[(.int p1), (.int p2), (.int p3), (.int p4), (.int p5)] maxLocals))
  refine own_st (V := s₁.setTop (mkF m 0 #[.val (.int p1), .val (.int p2), .val (.int p3), .val (.int p4), .val (.int p5), .unset, .unset, .unset, .unset, .unset, .unset] [])) (fun t k => castTop (by first | (simp [entryFrame, mkF, argsToLocals, Value.category, maxLocals]; done) | rfl) k) ?_
  refine own_st (V := s₁.setTop (mkF m 1 #[.val (.int p1), .val (.int p2), .val (.int p3), .val (.int p4), .val (.int p5), .unset, .unset, .unset, .unset, .unset, .unset] [(.int p1)])) (fun t k => XS.iloadN X0.here hx rfl (hb hby at_0) rfl k) ?_
  refine own_st (V := s₁.setTop (mkF m 2 #[.val (.int p1), .val (.int p2), .val (.int p3), .val (.int p4), .val (.int p5), .unset, .unset, .unset, .unset, .unset, .unset] [(.int (3 : Int32)), (.int p1)])) (fun t k => XS.iconst X0.here hx rfl (hb hby at_1) k) ?_
  refine own_st (V := s₁.setTop (mkF m 3 #[.val (.int p1), .val (.int p2), .val (.int p3), .val (.int p4), .val (.int p5), .unset, .unset, .unset, .unset, .unset, .unset] [(.int (p1 &&& (3 : Int32)))])) (fun t k => XS.iand X0.here hx rfl (hb hby at_2) rfl k) ?_
  rw [hk]
  refine own_st (V := s₁.setTop (mkF m 5 #[.val (.int p1), .val (.int p2), .val (.int p3), .val (.int p4), .val (.int p5), .val (.int (3 : Int32)), .unset, .unset, .unset, .unset, .unset] [])) (fun t k => XS.istore X0.here hx rfl (hb hby at_3) rfl (l' := #[.val (.int p1), .val (.int p2), .val (.int p3), .val (.int p4), .val (.int p5), .val (.int (3 : Int32)), .unset, .unset, .unset, .unset, .unset]) rfl k) ?_
  refine own_st (V := s₁.setTop (mkF m 6 #[.val (.int p1), .val (.int p2), .val (.int p3), .val (.int p4), .val (.int p5), .val (.int (3 : Int32)), .unset, .unset, .unset, .unset, .unset] [(.int p1)])) (fun t k => XS.iloadN X0.here hx rfl (hb hby at_5) rfl k) ?_
  refine own_st (V := s₁.setTop (mkF m 7 #[.val (.int p1), .val (.int p2), .val (.int p3), .val (.int p4), .val (.int p5), .val (.int (3 : Int32)), .unset, .unset, .unset, .unset, .unset] [(.int (2 : Int32)), (.int p1)])) (fun t k => XS.iconst X0.here hx rfl (hb hby at_6) k) ?_
  refine own_st (V := s₁.setTop (mkF m 8 #[.val (.int p1), .val (.int p2), .val (.int p3), .val (.int p4), .val (.int p5), .val (.int (3 : Int32)), .unset, .unset, .unset, .unset, .unset] [(.int ((p1.toUInt32 >>> ((2 : Int32) &&& 31).toUInt32).toInt32))])) (fun t k => XS.iushr X0.here hx rfl (hb hby at_7) rfl k) ?_
  refine own_st (V := s₁.setTop (mkF m 9 #[.val (.int p1), .val (.int p2), .val (.int p3), .val (.int p4), .val (.int p5), .val (.int (3 : Int32)), .unset, .unset, .unset, .unset, .unset] [(.int (3 : Int32)), (.int ((p1.toUInt32 >>> ((2 : Int32) &&& 31).toUInt32).toInt32))])) (fun t k => XS.iconst X0.here hx rfl (hb hby at_8) k) ?_
  refine own_st (V := s₁.setTop (mkF m 10 #[.val (.int p1), .val (.int p2), .val (.int p3), .val (.int p4), .val (.int p5), .val (.int (3 : Int32)), .unset, .unset, .unset, .unset, .unset] [(.int (((p1.toUInt32 >>> ((2 : Int32) &&& 31).toUInt32).toInt32) &&& (3 : Int32)))])) (fun t k => XS.iand X0.here hx rfl (hb hby at_9) rfl k) ?_
  rcases own_c ((p1.toUInt32 >>> ((2 : Int32) &&& 31).toUInt32).toInt32) with h2 | h2 | h2 | h2
  · rw [h2]
    refine own_st (V := s₁.setTop (mkF m 12 #[.val (.int p1), .val (.int p2), .val (.int p3), .val (.int p4), .val (.int p5), .val (.int (3 : Int32)), .val (.int (0 : Int32)), .unset, .unset, .unset, .unset] [])) (fun t k => XS.istore X0.here hx rfl (hb hby at_10) rfl (l' := #[.val (.int p1), .val (.int p2), .val (.int p3), .val (.int p4), .val (.int p5), .val (.int (3 : Int32)), .val (.int (0 : Int32)), .unset, .unset, .unset, .unset]) rfl k) ?_
    refine own_st (V := s₁.setTop (mkF m 14 #[.val (.int p1), .val (.int p2), .val (.int p3), .val (.int p4), .val (.int p5), .val (.int (3 : Int32)), .val (.int (0 : Int32)), .unset, .unset, .unset, .unset] [(.int (3 : Int32))])) (fun t k => XS.iload X0.here hx rfl (hb hby at_12) rfl k) ?_
    refine own_st (V := s₁.setTop (mkF m 15 #[.val (.int p1), .val (.int p2), .val (.int p3), .val (.int p4), .val (.int p5), .val (.int (3 : Int32)), .val (.int (0 : Int32)), .unset, .unset, .unset, .unset] [(.int p2), (.int (3 : Int32))])) (fun t k => XS.iloadN X0.here hx rfl (hb hby at_14) rfl k) ?_
    refine own_st (V := s₁.setTop (mkF m 16 #[.val (.int p1), .val (.int p2), .val (.int p3), .val (.int p4), .val (.int p5), .val (.int (3 : Int32)), .val (.int (0 : Int32)), .unset, .unset, .unset, .unset] [(.int p3), (.int p2), (.int (3 : Int32))])) (fun t k => XS.iloadN X0.here hx rfl (hb hby at_15) rfl k) ?_
    obtain ⟨_, _, ⟨T149, L149, k149, n149⟩, -, X149, ⟨Lc149, hQ149, l149, y149, z149⟩, st149⟩ := Jvm.LawKit.callS X0 hx (y := (⟨"com/example/tempora/tempora/core/IssueIsGivenPinLaw", "str", "(III)Ljava/lang/String;"⟩ : MethodName)) hown (mvT hZ (hw _ (List.mem_of_getElem? (i := 0) rfl))) (mvT hZ (hw _ (List.mem_of_getElem? (i := 1) rfl))) (mvT hZ (hw _ (List.mem_of_getElem? (i := 2) rfl))) (mvT hZ (hw _ (List.mem_of_getElem? (i := 3) rfl))) (by decide) (backOf (W := 0) (own_str3 l Z a0 hw [] p2 p3 cs h0 n0 Z0 Od SC hcs) hZ (hw _ (List.mem_of_getElem? (i := 3) rfl)) (hw _ (List.mem_of_getElem? (i := 2) rfl)) (by decide) (by decide)) (g := (mkF m 16 #[.val (.int p1), .val (.int p2), .val (.int p3), .val (.int p4), .val (.int p5), .val (.int (3 : Int32)), .val (.int (0 : Int32)), .unset, .unset, .unset, .unset] [(.int p3), (.int p2), (.int (3 : Int32))])) rfl (by rw [hml]; rfl) (argsL := [(.int (3 : Int32)), (.int p2), (.int p3)]) (rest := []) (lenOf own_pd7 rfl) rfl (by show 2 * 0 + _ ≤ _; exact Nat.le_of_eq rfl) (hb hby at_16) (fun _ _ => ⟨rfl, e0, (by decide : 0 + 3 ≤ _), (by decide : 0 + 8 ≤ _)⟩)
    dsimp only [Pt.U, Pt.locs, Pt.cells, Pt.slots] at X149 l149 y149 z149 st149 hQ149
    subst l149 y149 z149
    obtain ⟨s149, rfl, N149q, K149, Ex149_q, t149, kt149, vst149, Fq149_0, Vq149⟩ := hQ149
    have N149 := Fr.app N0 N149q
    have Z0_149 : n0 ≤ T149.heap.size := Nat.le_trans Z0 K149.1
    have Od149 := Od.keep K149 all0
    have kz_149 : 0 ≤ T149.heap.size := Nat.le_trans kz K149.1
    have Cr_149 := Cr.trans (CHr.keep K149 all0 Cr.1)
    refine own_st (V := T149.setTop (mkF m 19 #[.val (.int p1), .val (.int p2), .val (.int p3), .val (.int p4), .val (.int p5), .val (.int (3 : Int32)), .val (.int (0 : Int32)), .unset, .unset, .unset, .unset] [(.ref s149)])) (fun t k => st149 _ k) ?_
    refine own_st (V := T149.setTop (mkF m 21 #[.val (.int p1), .val (.int p2), .val (.int p3), .val (.int p4), .val (.int p5), .val (.int (3 : Int32)), .val (.int (0 : Int32)), .val (.ref s149), .unset, .unset, .unset] [])) (fun t k => XS.astore X149.here hx rfl (hb hby at_19) rfl rfl (l' := #[.val (.int p1), .val (.int p2), .val (.int p3), .val (.int p4), .val (.int p5), .val (.int (3 : Int32)), .val (.int (0 : Int32)), .val (.ref s149), .unset, .unset, .unset]) rfl k) ?_
    refine own_st (V := T149.setTop (mkF m 23 #[.val (.int p1), .val (.int p2), .val (.int p3), .val (.int p4), .val (.int p5), .val (.int (3 : Int32)), .val (.int (0 : Int32)), .val (.ref s149), .unset, .unset, .unset] [(.int (0 : Int32))])) (fun t k => XS.iload X149.here hx rfl (hb hby at_21) rfl k) ?_
    refine own_st (V := T149.setTop (mkF m 24 #[.val (.int p1), .val (.int p2), .val (.int p3), .val (.int p4), .val (.int p5), .val (.int (3 : Int32)), .val (.int (0 : Int32)), .val (.ref s149), .unset, .unset, .unset] [(.int p4), (.int (0 : Int32))])) (fun t k => XS.iloadN X149.here hx rfl (hb hby at_23) rfl k) ?_
    refine own_st (V := T149.setTop (mkF m 26 #[.val (.int p1), .val (.int p2), .val (.int p3), .val (.int p4), .val (.int p5), .val (.int (3 : Int32)), .val (.int (0 : Int32)), .val (.ref s149), .unset, .unset, .unset] [(.int p5), (.int p4), (.int (0 : Int32))])) (fun t k => XS.iload X149.here hx rfl (hb hby at_24) rfl k) ?_
    obtain ⟨_, _, ⟨T150, L150, k150, n150⟩, -, X150, hSi150, hgr150, ⟨Lc150, hQ150, l150, y150, z150, hCr150⟩, st150⟩ := Jvm.RoadKit.callSS X149 hx (y := (⟨"com/example/tempora/tempora/core/IssueIsGivenPinLaw", "str", "(III)Ljava/lang/String;"⟩ : MethodName)) hown (mvT hZ (hw _ (List.mem_of_getElem? (i := 0) rfl))) (mvT hZ (hw _ (List.mem_of_getElem? (i := 1) rfl))) (mvT hZ (hw _ (List.mem_of_getElem? (i := 2) rfl))) (mvT hZ (hw _ (List.mem_of_getElem? (i := 3) rfl))) (by decide) (backOfSH (s := s) (vm0 := s.vm) (W := 0) (own_str0 l Z a0 hw [] p4 p5 T149.heap n0 Z0_149 ) hZ (hw _ (List.mem_of_getElem? (i := 3) rfl)) (hw _ (List.mem_of_getElem? (i := 2) rfl)) (by decide) (by decide) hEL Cr_149.1) (g := (mkF m 26 #[.val (.int p1), .val (.int p2), .val (.int p3), .val (.int p4), .val (.int p5), .val (.int (3 : Int32)), .val (.int (0 : Int32)), .val (.ref s149), .unset, .unset, .unset] [(.int p5), (.int p4), (.int (0 : Int32))])) rfl (by rw [hml]; rfl) (argsL := [(.int (0 : Int32)), (.int p4), (.int p5)]) (rest := []) (lenOf own_pd7 rfl) rfl (by show 2 * 0 + _ ≤ _; exact Nat.le_of_eq rfl) (hb hby at_26) (fun _ _ => ⟨rfl, rfl, (by decide : 3 + 6 ≤ _), (by decide : 8 + 12 ≤ _)⟩)
    dsimp only [Pt.U, Pt.locs, Pt.cells, Pt.slots] at X150 l150 y150 z150 st150 hQ150
    subst l150 y150 z150
    dsimp only [Pt.U] at hSi150 hgr150 hCr150
    obtain ⟨s150, rfl, N150q, K150, Ex150_q, t150, kt150, vst150, Fq150_0, Vq150⟩ := hQ150
    have N150 := Fr.app N149 N150q
    have Z0_150 : n0 ≤ T150.heap.size := Nat.le_trans Z0_149 K150.1
    have F150_s149_value := Fq149_0.keep K150 nin0
    have Ex150_s149 := Ex149_q.keep K150
    have V150_t149 := Vq149.keep K150 nin0
    have Od150 := Od149.keep K150 all0
    have kz_150 : 0 ≤ T150.heap.size := Nat.le_trans kz_149 K150.1
    have hZ_150 : Z.Warmed39 (s.setVm T150.vm).vm := State.Warmed39.trans hZ hSi150.1
    have hown_150 : (s.setVm T150.vm).vm.findClass "com/example/tempora/tempora/core/IssueIsGivenPinLaw" = some m.cls := by rw [show (s.setVm T150.vm).vm = T150.vm from rfl, hSi150.1.alike.findClass]; exact hown
    have hS_150 : s.Since T150.vm T150.heap.size := foldS (s := s) hSi kz_149 hSi150 hgr150
    have X150 : Stand p l e _ (s.setVm T150.vm) m _ below meth c T150 _ _ _ := X150
    have kz_150 : T150.heap.size ≤ T150.heap.size := Nat.le_refl _
    have Cr_150 := Cr_149.trans hCr150
    refine own_st (V := T150.setTop (mkF m 29 #[.val (.int p1), .val (.int p2), .val (.int p3), .val (.int p4), .val (.int p5), .val (.int (3 : Int32)), .val (.int (0 : Int32)), .val (.ref s149), .unset, .unset, .unset] [(.ref s150)])) (fun t k => st150.trans k) ?_
    refine own_st (V := T150.setTop (mkF m 31 #[.val (.int p1), .val (.int p2), .val (.int p3), .val (.int p4), .val (.int p5), .val (.int (3 : Int32)), .val (.int (0 : Int32)), .val (.ref s149), .val (.ref s150), .unset, .unset] [])) (fun t k => XS.astore X150.here hx rfl (hb hby at_29) rfl rfl (l' := #[.val (.int p1), .val (.int p2), .val (.int p3), .val (.int p4), .val (.int p5), .val (.int (3 : Int32)), .val (.int (0 : Int32)), .val (.ref s149), .val (.ref s150), .unset, .unset]) rfl k) ?_
    obtain ⟨T151, h151, X151, e151, E151, A151, D151, -, st151⟩ := newO X150 hx hZ_150 hown_150 (hw _ (List.mem_of_getElem? (i := 26) rfl)) (hw _ (List.mem_of_getElem? (i := 27) rfl)) (hw _ (List.mem_of_getElem? (i := 28) rfl)) rfl (g := (mkF m 31 #[.val (.int p1), .val (.int p2), .val (.int p3), .val (.int p4), .val (.int p5), .val (.int (3 : Int32)), .val (.int (0 : Int32)), .val (.ref s149), .val (.ref s150), .unset, .unset] [])) rfl (hb hby at_31) (by decide) (by decide)
    obtain ⟨b151, g151⟩ : ∃ z, z = T150.heap.size := ⟨_, rfl⟩
    rw [← g151] at A151 D151 st151
    have gb_b151 : n0 ≤ b151 := Nat.le_trans Z0_150 (Nat.le_of_eq g151.symm)
    have Z0_151 : n0 ≤ h151.size := Nat.le_trans Z0_150 E151.1
    have ne_t149_b151 : t149 ≠ b151 := Nat.ne_of_lt (Nat.lt_of_lt_of_le V150_t149.lt (Nat.le_of_eq g151.symm))
    have ne_t150_b151 : t150 ≠ b151 := Nat.ne_of_lt (Nat.lt_of_lt_of_le Vq150.lt (Nat.le_of_eq g151.symm))
    have ne_s149_b151 : s149 ≠ b151 := Nat.ne_of_lt (Nat.lt_of_lt_of_le Ex150_s149.lt (Nat.le_of_eq g151.symm))
    have ne_s150_b151 : s150 ≠ b151 := Nat.ne_of_lt (Nat.lt_of_lt_of_le Ex150_q.lt (Nat.le_of_eq g151.symm))
    have F151_s149_value := F150_s149_value.ext E151
    have F151_s150_value := Fq150_0.ext E151
    have Ex151_s149 := Ex150_s149.ext E151
    have Ex151_s150 := Ex150_q.ext E151
    have V151_t149 := V150_t149.ext E151
    have V151_t150 := Vq150.ext E151
    have Od151 := Od150.ext E151
    have kz_151 : T150.heap.size ≤ h151.size := Nat.le_trans kz_150 E151.1
    have Cr_151 := Cr_150.trans (CHr.ext E151 Cr_150.1)
    have F151_b151_designation : Fld Z h151 b151 "com/example/tempora/tempora/core/Issue" "designation" "Ljava/lang/String;" .null := D151 (Or.inr (hw _ (List.mem_of_getElem? (i := 39) rfl))) (ty := (.object "java/lang/String")) (by decide)
    have F151_b151_date : Fld Z h151 b151 "com/example/tempora/tempora/core/Issue" "date" "Ljava/lang/String;" .null := D151 (Or.inr (hw _ (List.mem_of_getElem? (i := 41) rfl))) (ty := (.object "java/lang/String")) (by decide)
    refine own_st (V := T151.setTop (mkF m 34 #[.val (.int p1), .val (.int p2), .val (.int p3), .val (.int p4), .val (.int p5), .val (.int (3 : Int32)), .val (.int (0 : Int32)), .val (.ref s149), .val (.ref s150), .unset, .unset] [(.ref b151)])) (fun t k => st151 _ k) ?_
    refine own_st (V := T151.setTop (mkF m 35 #[.val (.int p1), .val (.int p2), .val (.int p3), .val (.int p4), .val (.int p5), .val (.int (3 : Int32)), .val (.int (0 : Int32)), .val (.ref s149), .val (.ref s150), .unset, .unset] [(.ref b151), (.ref b151)])) (fun t k => XS.dup X151.here hx rfl (hb hby at_34) rfl rfl k) ?_
    refine own_st (V := T151.setTop (mkF m 37 #[.val (.int p1), .val (.int p2), .val (.int p3), .val (.int p4), .val (.int p5), .val (.int (3 : Int32)), .val (.int (0 : Int32)), .val (.ref s149), .val (.ref s150), .unset, .unset] [(.ref s149), (.ref b151), (.ref b151)])) (fun t k => XS.aload X151.here hx rfl (hb hby at_35) rfl rfl k) ?_
    refine own_st (V := T151.setTop (mkF m 39 #[.val (.int p1), .val (.int p2), .val (.int p3), .val (.int p4), .val (.int p5), .val (.int (3 : Int32)), .val (.int (0 : Int32)), .val (.ref s149), .val (.ref s150), .unset, .unset] [(.ref s150), (.ref s149), (.ref b151), (.ref b151)])) (fun t k => XS.aload X151.here hx rfl (hb hby at_37) rfl rfl k) ?_
    obtain ⟨_, _, ⟨T152, L152, k152, n152⟩, -, X152, ⟨Lc152, hQ152, l152, y152, z152⟩, st152⟩ := X151.specialBack hx (y := (⟨"com/example/tempora/tempora/core/Issue", "<init>", "(Ljava/lang/String;Ljava/lang/String;)V"⟩ : MethodName)) rfl hown_150 (mvT hZ_150 (hw _ (List.mem_of_getElem? (i := 29) rfl))) (mvT hZ_150 (hw _ (List.mem_of_getElem? (i := 30) rfl))) (mvT hZ_150 (hw _ (List.mem_of_getElem? (i := 31) rfl))) (by decide) (backOf (W := 1) (own_ii l Z a0 hw [] b151 s149 s150 h151 n0 Z0_151 F151_b151_designation F151_b151_date A151 gb_b151) hZ_150 (hw _ (List.mem_of_getElem? (i := 31) rfl)) (hw _ (List.mem_of_getElem? (i := 28) rfl)) (by decide) (by decide)) (g := (mkF m 39 #[.val (.int p1), .val (.int p2), .val (.int p3), .val (.int p4), .val (.int p5), .val (.int (3 : Int32)), .val (.int (0 : Int32)), .val (.ref s149), .val (.ref s150), .unset, .unset] [(.ref s150), (.ref s149), (.ref b151), (.ref b151)])) rfl (by rw [hml]; rfl) (Steps.refl _) (a := b151) (argsL := [(.ref s149), (.ref s150)]) (rest := [(.ref b151)]) (lenOf own_pd8 rfl) rfl (by show 2 * 0 + _ ≤ _; exact Nat.le_of_eq rfl) (hb hby at_39) (fun _ _ => ⟨rfl, e151, (by decide : 10 + 0 ≤ _), (by decide : 22 + 0 ≤ _)⟩)
    dsimp only [Pt.U, Pt.locs, Pt.cells, Pt.slots] at X152 l152 y152 z152 st152 hQ152
    subst l152 y152 z152
    obtain ⟨rfl, N152q, K152, Ex152_q, Fq152_0, Fq152_1⟩ := hQ152
    have N152 := Fr.app N150 N152q
    have Z0_152 : n0 ≤ T152.heap.size := Nat.le_trans Z0_151 K152.1
    have F152_s149_value := F151_s149_value.keep K152 (ninS ne_s149_b151 nin0)
    have F152_s150_value := F151_s150_value.keep K152 (ninS ne_s150_b151 nin0)
    have Ex152_s149 := Ex151_s149.keep K152
    have Ex152_s150 := Ex151_s150.keep K152
    have Ex152_b151 := A151.keep K152
    have V152_t149 := V151_t149.keep K152 (ninS ne_t149_b151 nin0)
    have V152_t150 := V151_t150.keep K152 (ninS ne_t150_b151 nin0)
    have Od152 := Od151.keep K152 (allS gb_b151 all0)
    have kz_152 : T150.heap.size ≤ T152.heap.size := Nat.le_trans kz_151 K152.1
    refine own_st (V := T152.setTop (mkF m 42 #[.val (.int p1), .val (.int p2), .val (.int p3), .val (.int p4), .val (.int p5), .val (.int (3 : Int32)), .val (.int (0 : Int32)), .val (.ref s149), .val (.ref s150), .unset, .unset] [(.ref b151)])) (fun t k => st152.trans k) ?_
    refine own_st (V := T152.setTop (mkF m 44 #[.val (.int p1), .val (.int p2), .val (.int p3), .val (.int p4), .val (.int p5), .val (.int (3 : Int32)), .val (.int (0 : Int32)), .val (.ref s149), .val (.ref s150), .val (.ref b151), .unset] [])) (fun t k => XS.astore X152.here hx rfl (hb hby at_42) rfl rfl (l' := #[.val (.int p1), .val (.int p2), .val (.int p3), .val (.int p4), .val (.int p5), .val (.int (3 : Int32)), .val (.int (0 : Int32)), .val (.ref s149), .val (.ref s150), .val (.ref b151), .unset]) rfl k) ?_
    refine own_st (V := T152.setTop (mkF m 46 #[.val (.int p1), .val (.int p2), .val (.int p3), .val (.int p4), .val (.int p5), .val (.int (3 : Int32)), .val (.int (0 : Int32)), .val (.ref s149), .val (.ref s150), .val (.ref b151), .unset] [(.int (3 : Int32))])) (fun t k => XS.iload X152.here hx rfl (hb hby at_44) rfl k) ?_
    refine own_st (V := T152.setTop (mkF m 54 #[.val (.int p1), .val (.int p2), .val (.int p3), .val (.int p4), .val (.int p5), .val (.int (3 : Int32)), .val (.int (0 : Int32)), .val (.ref s149), .val (.ref s150), .val (.ref b151), .unset] [])) (fun t k => XS.ifYes X152.here hx rfl (pc0 := 46) (pc' := 54) rfl (hb hby at_46) rfl ((if0 _ _).trans (feq (by decide : ¬ ((3 : Int32) = (0 : Int32)))).2) (by decide) (by decide) k) ?_
    refine own_st (V := T152.setTop (mkF m 55 #[.val (.int p1), .val (.int p2), .val (.int p3), .val (.int p4), .val (.int p5), .val (.int (3 : Int32)), .val (.int (0 : Int32)), .val (.ref s149), .val (.ref s150), .val (.ref b151), .unset] [(.int (1 : Int32))])) (fun t k => XS.iconst X152.here hx rfl (hb hby at_54) k) ?_
    refine own_st (V := T152.setTop (mkF m 59 #[.val (.int p1), .val (.int p2), .val (.int p3), .val (.int p4), .val (.int p5), .val (.int (3 : Int32)), .val (.int (0 : Int32)), .val (.ref s149), .val (.ref s150), .val (.ref b151), .unset] [(.int (1 : Int32))])) (fun t k => XS.goto X152.here hx rfl (pc0 := 55) (pc' := 59) rfl (hb hby at_55) (by decide) (by decide) k) ?_
    refine own_st (V := T152.setTop (mkF m 61 #[.val (.int p1), .val (.int p2), .val (.int p3), .val (.int p4), .val (.int p5), .val (.int (3 : Int32)), .val (.int (0 : Int32)), .val (.ref s149), .val (.ref s150), .val (.ref b151), .val (.int (1 : Int32))] [])) (fun t k => XS.istore X152.here hx rfl (hb hby at_59) rfl (l' := #[.val (.int p1), .val (.int p2), .val (.int p3), .val (.int p4), .val (.int p5), .val (.int (3 : Int32)), .val (.int (0 : Int32)), .val (.ref s149), .val (.ref s150), .val (.ref b151), .val (.int (1 : Int32))]) rfl k) ?_
    refine own_st (V := T152.setTop (mkF m 63 #[.val (.int p1), .val (.int p2), .val (.int p3), .val (.int p4), .val (.int p5), .val (.int (3 : Int32)), .val (.int (0 : Int32)), .val (.ref s149), .val (.ref s150), .val (.ref b151), .val (.int (1 : Int32))] [(.ref b151)])) (fun t k => XS.aload X152.here hx rfl (hb hby at_61) rfl rfl k) ?_
    obtain ⟨cq153, kq153, q153a, q153b, q153c⟩ := isOf hZ_150 rfl Ex152_q
    obtain ⟨_, _, ⟨T153, L153, k153, n153⟩, -, X153, ⟨Lc153, hQ153, l153, y153, z153⟩, st153⟩ := X152.virtualBack hx (y := (⟨"com/example/tempora/tempora/core/Issue", "isGiven", "()Z"⟩ : MethodName)) (z := (⟨"com/example/tempora/tempora/core/Issue", "isGiven", "()Z"⟩ : MethodName)) hown_150 (mvT hZ_150 (hw _ (List.mem_of_getElem? (i := 42) rfl))) (mvT hZ_150 (hw _ (List.mem_of_getElem? (i := 43) rfl))) (notFace_of_selects (args := #[]) (mvT hZ_150 (hw _ (List.mem_of_getElem? (i := 45) rfl)))) (mvT hZ_150 (hw _ (List.mem_of_getElem? (i := 45) rfl))) (mvT hZ_150 (hw _ (List.mem_of_getElem? (i := 44) rfl))) (by decide) (backOf (W := 0) (own_ig20 l Z a0 hw [] b151 s149 s150 t149 t150 kt149 kt150 vst149 vst150 T152.heap n0 Z0_152 Fq152_0 Fq152_1 Ex152_s149 Ex152_s150 F152_s149_value F152_s150_value V152_t149 V152_t150) hZ_150 (hw _ (List.mem_of_getElem? (i := 46) rfl)) (hw _ (List.mem_of_getElem? (i := 28) rfl)) (by decide) (by decide)) q153a q153c (g := (mkF m 63 #[.val (.int p1), .val (.int p2), .val (.int p3), .val (.int p4), .val (.int p5), .val (.int (3 : Int32)), .val (.int (0 : Int32)), .val (.ref s149), .val (.ref s150), .val (.ref b151), .val (.int (1 : Int32))] [(.ref b151)])) rfl (by rw [hml]; rfl) (Steps.refl _) (argsL := []) (rest := []) (lenOf own_pd6 rfl) rfl (by show 2 * 0 + _ ≤ _; exact Nat.le_of_eq rfl) (hb hby at_63) (fun _ _ => ⟨rfl, rfl, (by decide : 10 + 0 ≤ _), (by decide : 22 + 0 ≤ _)⟩)
    dsimp only [Pt.U, Pt.locs, Pt.cells, Pt.slots] at X153 l153 y153 z153 st153 hQ153
    subst l153 y153 z153
    obtain ⟨rfl, N153q, e153⟩ := hQ153
    have N153 := Fr.app N152 N153q
    refine own_st (V := T153.setTop (mkF m 66 #[.val (.int p1), .val (.int p2), .val (.int p3), .val (.int p4), .val (.int p5), .val (.int (3 : Int32)), .val (.int (0 : Int32)), .val (.ref s149), .val (.ref s150), .val (.ref b151), .val (.int (1 : Int32))] [(.int (1 : Int32))])) (fun t k => st153.trans k) ?_
    refine own_st (V := T153.setTop (mkF m 68 #[.val (.int p1), .val (.int p2), .val (.int p3), .val (.int p4), .val (.int p5), .val (.int (3 : Int32)), .val (.int (0 : Int32)), .val (.ref s149), .val (.ref s150), .val (.ref b151), .val (.int (1 : Int32))] [(.int (1 : Int32)), (.int (1 : Int32))])) (fun t k => XS.iload X153.here hx rfl (hb hby at_66) rfl k) ?_
    refine own_st (V := T153.setTop (mkF m 71 #[.val (.int p1), .val (.int p2), .val (.int p3), .val (.int p4), .val (.int p5), .val (.int (3 : Int32)), .val (.int (0 : Int32)), .val (.ref s149), .val (.ref s150), .val (.ref b151), .val (.int (1 : Int32))] [])) (fun t k => XS.icmpNo X153.here hx rfl (hb hby at_68) rfl (teq (by decide : (1 : Int32) = (1 : Int32))).2 k) ?_
    refine own_st (V := T153.setTop (mkF m 72 #[.val (.int p1), .val (.int p2), .val (.int p3), .val (.int p4), .val (.int p5), .val (.int (3 : Int32)), .val (.int (0 : Int32)), .val (.ref s149), .val (.ref s150), .val (.ref b151), .val (.int (1 : Int32))] [(.int (1 : Int32))])) (fun t k => XS.iconst X153.here hx rfl (hb hby at_71) k) ?_
    refine own_st (V := T153.setTop (mkF m 76 #[.val (.int p1), .val (.int p2), .val (.int p3), .val (.int p4), .val (.int p5), .val (.int (3 : Int32)), .val (.int (0 : Int32)), .val (.ref s149), .val (.ref s150), .val (.ref b151), .val (.int (1 : Int32))] [(.int (1 : Int32))])) (fun t k => XS.goto X153.here hx rfl (pc0 := 72) (pc' := 76) rfl (hb hby at_72) (by decide) (by decide) k) ?_
    exact own_retW (s := s) hS_150 (by rw [e153]; exact kz_152) X153 hx hlk Bd.returns (by decide +kernel) (Or.inl ⟨rfl, by simp, _, rfl⟩) (hb hby at_76) (by decide) (by decide) ⟨rfl, N153⟩
  · rw [h2]
    refine own_st (V := s₁.setTop (mkF m 12 #[.val (.int p1), .val (.int p2), .val (.int p3), .val (.int p4), .val (.int p5), .val (.int (3 : Int32)), .val (.int (1 : Int32)), .unset, .unset, .unset, .unset] [])) (fun t k => XS.istore X0.here hx rfl (hb hby at_10) rfl (l' := #[.val (.int p1), .val (.int p2), .val (.int p3), .val (.int p4), .val (.int p5), .val (.int (3 : Int32)), .val (.int (1 : Int32)), .unset, .unset, .unset, .unset]) rfl k) ?_
    refine own_st (V := s₁.setTop (mkF m 14 #[.val (.int p1), .val (.int p2), .val (.int p3), .val (.int p4), .val (.int p5), .val (.int (3 : Int32)), .val (.int (1 : Int32)), .unset, .unset, .unset, .unset] [(.int (3 : Int32))])) (fun t k => XS.iload X0.here hx rfl (hb hby at_12) rfl k) ?_
    refine own_st (V := s₁.setTop (mkF m 15 #[.val (.int p1), .val (.int p2), .val (.int p3), .val (.int p4), .val (.int p5), .val (.int (3 : Int32)), .val (.int (1 : Int32)), .unset, .unset, .unset, .unset] [(.int p2), (.int (3 : Int32))])) (fun t k => XS.iloadN X0.here hx rfl (hb hby at_14) rfl k) ?_
    refine own_st (V := s₁.setTop (mkF m 16 #[.val (.int p1), .val (.int p2), .val (.int p3), .val (.int p4), .val (.int p5), .val (.int (3 : Int32)), .val (.int (1 : Int32)), .unset, .unset, .unset, .unset] [(.int p3), (.int p2), (.int (3 : Int32))])) (fun t k => XS.iloadN X0.here hx rfl (hb hby at_15) rfl k) ?_
    obtain ⟨_, _, ⟨T154, L154, k154, n154⟩, -, X154, ⟨Lc154, hQ154, l154, y154, z154⟩, st154⟩ := Jvm.LawKit.callS X0 hx (y := (⟨"com/example/tempora/tempora/core/IssueIsGivenPinLaw", "str", "(III)Ljava/lang/String;"⟩ : MethodName)) hown (mvT hZ (hw _ (List.mem_of_getElem? (i := 0) rfl))) (mvT hZ (hw _ (List.mem_of_getElem? (i := 1) rfl))) (mvT hZ (hw _ (List.mem_of_getElem? (i := 2) rfl))) (mvT hZ (hw _ (List.mem_of_getElem? (i := 3) rfl))) (by decide) (backOf (W := 0) (own_str3 l Z a0 hw [] p2 p3 cs h0 n0 Z0 Od SC hcs) hZ (hw _ (List.mem_of_getElem? (i := 3) rfl)) (hw _ (List.mem_of_getElem? (i := 2) rfl)) (by decide) (by decide)) (g := (mkF m 16 #[.val (.int p1), .val (.int p2), .val (.int p3), .val (.int p4), .val (.int p5), .val (.int (3 : Int32)), .val (.int (1 : Int32)), .unset, .unset, .unset, .unset] [(.int p3), (.int p2), (.int (3 : Int32))])) rfl (by rw [hml]; rfl) (argsL := [(.int (3 : Int32)), (.int p2), (.int p3)]) (rest := []) (lenOf own_pd7 rfl) rfl (by show 2 * 0 + _ ≤ _; exact Nat.le_of_eq rfl) (hb hby at_16) (fun _ _ => ⟨rfl, e0, (by decide : 0 + 3 ≤ _), (by decide : 0 + 8 ≤ _)⟩)
    dsimp only [Pt.U, Pt.locs, Pt.cells, Pt.slots] at X154 l154 y154 z154 st154 hQ154
    subst l154 y154 z154
    obtain ⟨s154, rfl, N154q, K154, Ex154_q, t154, kt154, vst154, Fq154_0, Vq154⟩ := hQ154
    have N154 := Fr.app N0 N154q
    have Z0_154 : n0 ≤ T154.heap.size := Nat.le_trans Z0 K154.1
    have Od154 := Od.keep K154 all0
    have kz_154 : 0 ≤ T154.heap.size := Nat.le_trans kz K154.1
    have Cr_154 := Cr.trans (CHr.keep K154 all0 Cr.1)
    refine own_st (V := T154.setTop (mkF m 19 #[.val (.int p1), .val (.int p2), .val (.int p3), .val (.int p4), .val (.int p5), .val (.int (3 : Int32)), .val (.int (1 : Int32)), .unset, .unset, .unset, .unset] [(.ref s154)])) (fun t k => st154 _ k) ?_
    refine own_st (V := T154.setTop (mkF m 21 #[.val (.int p1), .val (.int p2), .val (.int p3), .val (.int p4), .val (.int p5), .val (.int (3 : Int32)), .val (.int (1 : Int32)), .val (.ref s154), .unset, .unset, .unset] [])) (fun t k => XS.astore X154.here hx rfl (hb hby at_19) rfl rfl (l' := #[.val (.int p1), .val (.int p2), .val (.int p3), .val (.int p4), .val (.int p5), .val (.int (3 : Int32)), .val (.int (1 : Int32)), .val (.ref s154), .unset, .unset, .unset]) rfl k) ?_
    refine own_st (V := T154.setTop (mkF m 23 #[.val (.int p1), .val (.int p2), .val (.int p3), .val (.int p4), .val (.int p5), .val (.int (3 : Int32)), .val (.int (1 : Int32)), .val (.ref s154), .unset, .unset, .unset] [(.int (1 : Int32))])) (fun t k => XS.iload X154.here hx rfl (hb hby at_21) rfl k) ?_
    refine own_st (V := T154.setTop (mkF m 24 #[.val (.int p1), .val (.int p2), .val (.int p3), .val (.int p4), .val (.int p5), .val (.int (3 : Int32)), .val (.int (1 : Int32)), .val (.ref s154), .unset, .unset, .unset] [(.int p4), (.int (1 : Int32))])) (fun t k => XS.iloadN X154.here hx rfl (hb hby at_23) rfl k) ?_
    refine own_st (V := T154.setTop (mkF m 26 #[.val (.int p1), .val (.int p2), .val (.int p3), .val (.int p4), .val (.int p5), .val (.int (3 : Int32)), .val (.int (1 : Int32)), .val (.ref s154), .unset, .unset, .unset] [(.int p5), (.int p4), (.int (1 : Int32))])) (fun t k => XS.iload X154.here hx rfl (hb hby at_24) rfl k) ?_
    obtain ⟨_, _, ⟨T155, L155, k155, n155⟩, -, X155, ⟨Lc155, hQ155, l155, y155, z155⟩, st155⟩ := Jvm.LawKit.callS X154 hx (y := (⟨"com/example/tempora/tempora/core/IssueIsGivenPinLaw", "str", "(III)Ljava/lang/String;"⟩ : MethodName)) hown (mvT hZ (hw _ (List.mem_of_getElem? (i := 0) rfl))) (mvT hZ (hw _ (List.mem_of_getElem? (i := 1) rfl))) (mvT hZ (hw _ (List.mem_of_getElem? (i := 2) rfl))) (mvT hZ (hw _ (List.mem_of_getElem? (i := 3) rfl))) (by decide) (backOf (W := 0) (own_str1 l Z a0 hw [] p4 p5 cs T154.heap n0 Z0_154 Od154 SC hcs) hZ (hw _ (List.mem_of_getElem? (i := 3) rfl)) (hw _ (List.mem_of_getElem? (i := 2) rfl)) (by decide) (by decide)) (g := (mkF m 26 #[.val (.int p1), .val (.int p2), .val (.int p3), .val (.int p4), .val (.int p5), .val (.int (3 : Int32)), .val (.int (1 : Int32)), .val (.ref s154), .unset, .unset, .unset] [(.int p5), (.int p4), (.int (1 : Int32))])) rfl (by rw [hml]; rfl) (argsL := [(.int (1 : Int32)), (.int p4), (.int p5)]) (rest := []) (lenOf own_pd7 rfl) rfl (by show 2 * 0 + _ ≤ _; exact Nat.le_of_eq rfl) (hb hby at_26) (fun _ _ => ⟨rfl, rfl, (by decide : 3 + 3 ≤ _), (by decide : 8 + 6 ≤ _)⟩)
    dsimp only [Pt.U, Pt.locs, Pt.cells, Pt.slots] at X155 l155 y155 z155 st155 hQ155
    subst l155 y155 z155
    obtain ⟨s155, rfl, N155q, K155, Ex155_q, t155, kt155, vst155, Fq155_0, Vq155⟩ := hQ155
    have N155 := Fr.app N154 N155q
    have Z0_155 : n0 ≤ T155.heap.size := Nat.le_trans Z0_154 K155.1
    have F155_s154_value := Fq154_0.keep K155 nin0
    have Ex155_s154 := Ex154_q.keep K155
    have V155_t154 := Vq154.keep K155 nin0
    have Od155 := Od154.keep K155 all0
    have kz_155 : 0 ≤ T155.heap.size := Nat.le_trans kz_154 K155.1
    refine own_st (V := T155.setTop (mkF m 29 #[.val (.int p1), .val (.int p2), .val (.int p3), .val (.int p4), .val (.int p5), .val (.int (3 : Int32)), .val (.int (1 : Int32)), .val (.ref s154), .unset, .unset, .unset] [(.ref s155)])) (fun t k => st155 _ k) ?_
    refine own_st (V := T155.setTop (mkF m 31 #[.val (.int p1), .val (.int p2), .val (.int p3), .val (.int p4), .val (.int p5), .val (.int (3 : Int32)), .val (.int (1 : Int32)), .val (.ref s154), .val (.ref s155), .unset, .unset] [])) (fun t k => XS.astore X155.here hx rfl (hb hby at_29) rfl rfl (l' := #[.val (.int p1), .val (.int p2), .val (.int p3), .val (.int p4), .val (.int p5), .val (.int (3 : Int32)), .val (.int (1 : Int32)), .val (.ref s154), .val (.ref s155), .unset, .unset]) rfl k) ?_
    obtain ⟨T156, h156, X156, e156, E156, A156, D156, -, st156⟩ := newO X155 hx hZ hown (hw _ (List.mem_of_getElem? (i := 26) rfl)) (hw _ (List.mem_of_getElem? (i := 27) rfl)) (hw _ (List.mem_of_getElem? (i := 28) rfl)) rfl (g := (mkF m 31 #[.val (.int p1), .val (.int p2), .val (.int p3), .val (.int p4), .val (.int p5), .val (.int (3 : Int32)), .val (.int (1 : Int32)), .val (.ref s154), .val (.ref s155), .unset, .unset] [])) rfl (hb hby at_31) (by decide) (by decide)
    obtain ⟨b156, g156⟩ : ∃ z, z = T155.heap.size := ⟨_, rfl⟩
    rw [← g156] at A156 D156 st156
    have gb_b156 : n0 ≤ b156 := Nat.le_trans Z0_155 (Nat.le_of_eq g156.symm)
    have Z0_156 : n0 ≤ h156.size := Nat.le_trans Z0_155 E156.1
    have ne_t154_b156 : t154 ≠ b156 := Nat.ne_of_lt (Nat.lt_of_lt_of_le V155_t154.lt (Nat.le_of_eq g156.symm))
    have ne_t155_b156 : t155 ≠ b156 := Nat.ne_of_lt (Nat.lt_of_lt_of_le Vq155.lt (Nat.le_of_eq g156.symm))
    have ne_s154_b156 : s154 ≠ b156 := Nat.ne_of_lt (Nat.lt_of_lt_of_le Ex155_s154.lt (Nat.le_of_eq g156.symm))
    have ne_s155_b156 : s155 ≠ b156 := Nat.ne_of_lt (Nat.lt_of_lt_of_le Ex155_q.lt (Nat.le_of_eq g156.symm))
    have F156_s154_value := F155_s154_value.ext E156
    have F156_s155_value := Fq155_0.ext E156
    have Ex156_s154 := Ex155_s154.ext E156
    have Ex156_s155 := Ex155_q.ext E156
    have V156_t154 := V155_t154.ext E156
    have V156_t155 := Vq155.ext E156
    have Od156 := Od155.ext E156
    have kz_156 : 0 ≤ h156.size := Nat.le_trans kz_155 E156.1
    have F156_b156_designation : Fld Z h156 b156 "com/example/tempora/tempora/core/Issue" "designation" "Ljava/lang/String;" .null := D156 (Or.inr (hw _ (List.mem_of_getElem? (i := 39) rfl))) (ty := (.object "java/lang/String")) (by decide)
    have F156_b156_date : Fld Z h156 b156 "com/example/tempora/tempora/core/Issue" "date" "Ljava/lang/String;" .null := D156 (Or.inr (hw _ (List.mem_of_getElem? (i := 41) rfl))) (ty := (.object "java/lang/String")) (by decide)
    refine own_st (V := T156.setTop (mkF m 34 #[.val (.int p1), .val (.int p2), .val (.int p3), .val (.int p4), .val (.int p5), .val (.int (3 : Int32)), .val (.int (1 : Int32)), .val (.ref s154), .val (.ref s155), .unset, .unset] [(.ref b156)])) (fun t k => st156 _ k) ?_
    refine own_st (V := T156.setTop (mkF m 35 #[.val (.int p1), .val (.int p2), .val (.int p3), .val (.int p4), .val (.int p5), .val (.int (3 : Int32)), .val (.int (1 : Int32)), .val (.ref s154), .val (.ref s155), .unset, .unset] [(.ref b156), (.ref b156)])) (fun t k => XS.dup X156.here hx rfl (hb hby at_34) rfl rfl k) ?_
    refine own_st (V := T156.setTop (mkF m 37 #[.val (.int p1), .val (.int p2), .val (.int p3), .val (.int p4), .val (.int p5), .val (.int (3 : Int32)), .val (.int (1 : Int32)), .val (.ref s154), .val (.ref s155), .unset, .unset] [(.ref s154), (.ref b156), (.ref b156)])) (fun t k => XS.aload X156.here hx rfl (hb hby at_35) rfl rfl k) ?_
    refine own_st (V := T156.setTop (mkF m 39 #[.val (.int p1), .val (.int p2), .val (.int p3), .val (.int p4), .val (.int p5), .val (.int (3 : Int32)), .val (.int (1 : Int32)), .val (.ref s154), .val (.ref s155), .unset, .unset] [(.ref s155), (.ref s154), (.ref b156), (.ref b156)])) (fun t k => XS.aload X156.here hx rfl (hb hby at_37) rfl rfl k) ?_
    obtain ⟨_, _, ⟨T157, L157, k157, n157⟩, -, X157, ⟨Lc157, hQ157, l157, y157, z157⟩, st157⟩ := X156.specialBack hx (y := (⟨"com/example/tempora/tempora/core/Issue", "<init>", "(Ljava/lang/String;Ljava/lang/String;)V"⟩ : MethodName)) rfl hown (mvT hZ (hw _ (List.mem_of_getElem? (i := 29) rfl))) (mvT hZ (hw _ (List.mem_of_getElem? (i := 30) rfl))) (mvT hZ (hw _ (List.mem_of_getElem? (i := 31) rfl))) (by decide) (backOf (W := 1) (own_ii l Z a0 hw [] b156 s154 s155 h156 n0 Z0_156 F156_b156_designation F156_b156_date A156 gb_b156) hZ (hw _ (List.mem_of_getElem? (i := 31) rfl)) (hw _ (List.mem_of_getElem? (i := 28) rfl)) (by decide) (by decide)) (g := (mkF m 39 #[.val (.int p1), .val (.int p2), .val (.int p3), .val (.int p4), .val (.int p5), .val (.int (3 : Int32)), .val (.int (1 : Int32)), .val (.ref s154), .val (.ref s155), .unset, .unset] [(.ref s155), (.ref s154), (.ref b156), (.ref b156)])) rfl (by rw [hml]; rfl) (Steps.refl _) (a := b156) (argsL := [(.ref s154), (.ref s155)]) (rest := [(.ref b156)]) (lenOf own_pd8 rfl) rfl (by show 2 * 0 + _ ≤ _; exact Nat.le_of_eq rfl) (hb hby at_39) (fun _ _ => ⟨rfl, e156, (by decide : 7 + 0 ≤ _), (by decide : 16 + 0 ≤ _)⟩)
    dsimp only [Pt.U, Pt.locs, Pt.cells, Pt.slots] at X157 l157 y157 z157 st157 hQ157
    subst l157 y157 z157
    obtain ⟨rfl, N157q, K157, Ex157_q, Fq157_0, Fq157_1⟩ := hQ157
    have N157 := Fr.app N155 N157q
    have Z0_157 : n0 ≤ T157.heap.size := Nat.le_trans Z0_156 K157.1
    have F157_s154_value := F156_s154_value.keep K157 (ninS ne_s154_b156 nin0)
    have F157_s155_value := F156_s155_value.keep K157 (ninS ne_s155_b156 nin0)
    have Ex157_s154 := Ex156_s154.keep K157
    have Ex157_s155 := Ex156_s155.keep K157
    have Ex157_b156 := A156.keep K157
    have V157_t154 := V156_t154.keep K157 (ninS ne_t154_b156 nin0)
    have V157_t155 := V156_t155.keep K157 (ninS ne_t155_b156 nin0)
    have Od157 := Od156.keep K157 (allS gb_b156 all0)
    have kz_157 : 0 ≤ T157.heap.size := Nat.le_trans kz_156 K157.1
    refine own_st (V := T157.setTop (mkF m 42 #[.val (.int p1), .val (.int p2), .val (.int p3), .val (.int p4), .val (.int p5), .val (.int (3 : Int32)), .val (.int (1 : Int32)), .val (.ref s154), .val (.ref s155), .unset, .unset] [(.ref b156)])) (fun t k => st157.trans k) ?_
    refine own_st (V := T157.setTop (mkF m 44 #[.val (.int p1), .val (.int p2), .val (.int p3), .val (.int p4), .val (.int p5), .val (.int (3 : Int32)), .val (.int (1 : Int32)), .val (.ref s154), .val (.ref s155), .val (.ref b156), .unset] [])) (fun t k => XS.astore X157.here hx rfl (hb hby at_42) rfl rfl (l' := #[.val (.int p1), .val (.int p2), .val (.int p3), .val (.int p4), .val (.int p5), .val (.int (3 : Int32)), .val (.int (1 : Int32)), .val (.ref s154), .val (.ref s155), .val (.ref b156), .unset]) rfl k) ?_
    refine own_st (V := T157.setTop (mkF m 46 #[.val (.int p1), .val (.int p2), .val (.int p3), .val (.int p4), .val (.int p5), .val (.int (3 : Int32)), .val (.int (1 : Int32)), .val (.ref s154), .val (.ref s155), .val (.ref b156), .unset] [(.int (3 : Int32))])) (fun t k => XS.iload X157.here hx rfl (hb hby at_44) rfl k) ?_
    refine own_st (V := T157.setTop (mkF m 54 #[.val (.int p1), .val (.int p2), .val (.int p3), .val (.int p4), .val (.int p5), .val (.int (3 : Int32)), .val (.int (1 : Int32)), .val (.ref s154), .val (.ref s155), .val (.ref b156), .unset] [])) (fun t k => XS.ifYes X157.here hx rfl (pc0 := 46) (pc' := 54) rfl (hb hby at_46) rfl ((if0 _ _).trans (feq (by decide : ¬ ((3 : Int32) = (0 : Int32)))).2) (by decide) (by decide) k) ?_
    refine own_st (V := T157.setTop (mkF m 55 #[.val (.int p1), .val (.int p2), .val (.int p3), .val (.int p4), .val (.int p5), .val (.int (3 : Int32)), .val (.int (1 : Int32)), .val (.ref s154), .val (.ref s155), .val (.ref b156), .unset] [(.int (1 : Int32))])) (fun t k => XS.iconst X157.here hx rfl (hb hby at_54) k) ?_
    refine own_st (V := T157.setTop (mkF m 59 #[.val (.int p1), .val (.int p2), .val (.int p3), .val (.int p4), .val (.int p5), .val (.int (3 : Int32)), .val (.int (1 : Int32)), .val (.ref s154), .val (.ref s155), .val (.ref b156), .unset] [(.int (1 : Int32))])) (fun t k => XS.goto X157.here hx rfl (pc0 := 55) (pc' := 59) rfl (hb hby at_55) (by decide) (by decide) k) ?_
    refine own_st (V := T157.setTop (mkF m 61 #[.val (.int p1), .val (.int p2), .val (.int p3), .val (.int p4), .val (.int p5), .val (.int (3 : Int32)), .val (.int (1 : Int32)), .val (.ref s154), .val (.ref s155), .val (.ref b156), .val (.int (1 : Int32))] [])) (fun t k => XS.istore X157.here hx rfl (hb hby at_59) rfl (l' := #[.val (.int p1), .val (.int p2), .val (.int p3), .val (.int p4), .val (.int p5), .val (.int (3 : Int32)), .val (.int (1 : Int32)), .val (.ref s154), .val (.ref s155), .val (.ref b156), .val (.int (1 : Int32))]) rfl k) ?_
    refine own_st (V := T157.setTop (mkF m 63 #[.val (.int p1), .val (.int p2), .val (.int p3), .val (.int p4), .val (.int p5), .val (.int (3 : Int32)), .val (.int (1 : Int32)), .val (.ref s154), .val (.ref s155), .val (.ref b156), .val (.int (1 : Int32))] [(.ref b156)])) (fun t k => XS.aload X157.here hx rfl (hb hby at_61) rfl rfl k) ?_
    obtain ⟨cq158, kq158, q158a, q158b, q158c⟩ := isOf hZ rfl Ex157_q
    obtain ⟨_, _, ⟨T158, L158, k158, n158⟩, -, X158, ⟨Lc158, hQ158, l158, y158, z158⟩, st158⟩ := X157.virtualBack hx (y := (⟨"com/example/tempora/tempora/core/Issue", "isGiven", "()Z"⟩ : MethodName)) (z := (⟨"com/example/tempora/tempora/core/Issue", "isGiven", "()Z"⟩ : MethodName)) hown (mvT hZ (hw _ (List.mem_of_getElem? (i := 42) rfl))) (mvT hZ (hw _ (List.mem_of_getElem? (i := 43) rfl))) (notFace_of_selects (args := #[]) (mvT hZ (hw _ (List.mem_of_getElem? (i := 45) rfl)))) (mvT hZ (hw _ (List.mem_of_getElem? (i := 45) rfl))) (mvT hZ (hw _ (List.mem_of_getElem? (i := 44) rfl))) (by decide) (backOf (W := 0) (own_ig21 l Z a0 hw [] b156 s154 s155 t154 t155 kt154 kt155 vst154 vst155 T157.heap n0 Z0_157 Fq157_0 Fq157_1 Ex157_s154 Ex157_s155 F157_s154_value F157_s155_value V157_t154 V157_t155) hZ (hw _ (List.mem_of_getElem? (i := 46) rfl)) (hw _ (List.mem_of_getElem? (i := 28) rfl)) (by decide) (by decide)) q158a q158c (g := (mkF m 63 #[.val (.int p1), .val (.int p2), .val (.int p3), .val (.int p4), .val (.int p5), .val (.int (3 : Int32)), .val (.int (1 : Int32)), .val (.ref s154), .val (.ref s155), .val (.ref b156), .val (.int (1 : Int32))] [(.ref b156)])) rfl (by rw [hml]; rfl) (Steps.refl _) (argsL := []) (rest := []) (lenOf own_pd6 rfl) rfl (by show 2 * 0 + _ ≤ _; exact Nat.le_of_eq rfl) (hb hby at_63) (fun _ _ => ⟨rfl, rfl, (by decide : 7 + 0 ≤ _), (by decide : 16 + 0 ≤ _)⟩)
    dsimp only [Pt.U, Pt.locs, Pt.cells, Pt.slots] at X158 l158 y158 z158 st158 hQ158
    subst l158 y158 z158
    obtain ⟨rfl, N158q, e158⟩ := hQ158
    have N158 := Fr.app N157 N158q
    refine own_st (V := T158.setTop (mkF m 66 #[.val (.int p1), .val (.int p2), .val (.int p3), .val (.int p4), .val (.int p5), .val (.int (3 : Int32)), .val (.int (1 : Int32)), .val (.ref s154), .val (.ref s155), .val (.ref b156), .val (.int (1 : Int32))] [(.int (1 : Int32))])) (fun t k => st158.trans k) ?_
    refine own_st (V := T158.setTop (mkF m 68 #[.val (.int p1), .val (.int p2), .val (.int p3), .val (.int p4), .val (.int p5), .val (.int (3 : Int32)), .val (.int (1 : Int32)), .val (.ref s154), .val (.ref s155), .val (.ref b156), .val (.int (1 : Int32))] [(.int (1 : Int32)), (.int (1 : Int32))])) (fun t k => XS.iload X158.here hx rfl (hb hby at_66) rfl k) ?_
    refine own_st (V := T158.setTop (mkF m 71 #[.val (.int p1), .val (.int p2), .val (.int p3), .val (.int p4), .val (.int p5), .val (.int (3 : Int32)), .val (.int (1 : Int32)), .val (.ref s154), .val (.ref s155), .val (.ref b156), .val (.int (1 : Int32))] [])) (fun t k => XS.icmpNo X158.here hx rfl (hb hby at_68) rfl (teq (by decide : (1 : Int32) = (1 : Int32))).2 k) ?_
    refine own_st (V := T158.setTop (mkF m 72 #[.val (.int p1), .val (.int p2), .val (.int p3), .val (.int p4), .val (.int p5), .val (.int (3 : Int32)), .val (.int (1 : Int32)), .val (.ref s154), .val (.ref s155), .val (.ref b156), .val (.int (1 : Int32))] [(.int (1 : Int32))])) (fun t k => XS.iconst X158.here hx rfl (hb hby at_71) k) ?_
    refine own_st (V := T158.setTop (mkF m 76 #[.val (.int p1), .val (.int p2), .val (.int p3), .val (.int p4), .val (.int p5), .val (.int (3 : Int32)), .val (.int (1 : Int32)), .val (.ref s154), .val (.ref s155), .val (.ref b156), .val (.int (1 : Int32))] [(.int (1 : Int32))])) (fun t k => XS.goto X158.here hx rfl (pc0 := 72) (pc' := 76) rfl (hb hby at_72) (by decide) (by decide) k) ?_
    exact own_retW (s := s) hSi (by rw [e158]; exact kz_157) X158 hx hlk Bd.returns (by decide +kernel) (Or.inl ⟨rfl, by simp, _, rfl⟩) (hb hby at_76) (by decide) (by decide) ⟨rfl, N158⟩
  · rw [h2]
    refine own_st (V := s₁.setTop (mkF m 12 #[.val (.int p1), .val (.int p2), .val (.int p3), .val (.int p4), .val (.int p5), .val (.int (3 : Int32)), .val (.int (2 : Int32)), .unset, .unset, .unset, .unset] [])) (fun t k => XS.istore X0.here hx rfl (hb hby at_10) rfl (l' := #[.val (.int p1), .val (.int p2), .val (.int p3), .val (.int p4), .val (.int p5), .val (.int (3 : Int32)), .val (.int (2 : Int32)), .unset, .unset, .unset, .unset]) rfl k) ?_
    refine own_st (V := s₁.setTop (mkF m 14 #[.val (.int p1), .val (.int p2), .val (.int p3), .val (.int p4), .val (.int p5), .val (.int (3 : Int32)), .val (.int (2 : Int32)), .unset, .unset, .unset, .unset] [(.int (3 : Int32))])) (fun t k => XS.iload X0.here hx rfl (hb hby at_12) rfl k) ?_
    refine own_st (V := s₁.setTop (mkF m 15 #[.val (.int p1), .val (.int p2), .val (.int p3), .val (.int p4), .val (.int p5), .val (.int (3 : Int32)), .val (.int (2 : Int32)), .unset, .unset, .unset, .unset] [(.int p2), (.int (3 : Int32))])) (fun t k => XS.iloadN X0.here hx rfl (hb hby at_14) rfl k) ?_
    refine own_st (V := s₁.setTop (mkF m 16 #[.val (.int p1), .val (.int p2), .val (.int p3), .val (.int p4), .val (.int p5), .val (.int (3 : Int32)), .val (.int (2 : Int32)), .unset, .unset, .unset, .unset] [(.int p3), (.int p2), (.int (3 : Int32))])) (fun t k => XS.iloadN X0.here hx rfl (hb hby at_15) rfl k) ?_
    obtain ⟨_, _, ⟨T159, L159, k159, n159⟩, -, X159, ⟨Lc159, hQ159, l159, y159, z159⟩, st159⟩ := Jvm.LawKit.callS X0 hx (y := (⟨"com/example/tempora/tempora/core/IssueIsGivenPinLaw", "str", "(III)Ljava/lang/String;"⟩ : MethodName)) hown (mvT hZ (hw _ (List.mem_of_getElem? (i := 0) rfl))) (mvT hZ (hw _ (List.mem_of_getElem? (i := 1) rfl))) (mvT hZ (hw _ (List.mem_of_getElem? (i := 2) rfl))) (mvT hZ (hw _ (List.mem_of_getElem? (i := 3) rfl))) (by decide) (backOf (W := 0) (own_str3 l Z a0 hw [] p2 p3 cs h0 n0 Z0 Od SC hcs) hZ (hw _ (List.mem_of_getElem? (i := 3) rfl)) (hw _ (List.mem_of_getElem? (i := 2) rfl)) (by decide) (by decide)) (g := (mkF m 16 #[.val (.int p1), .val (.int p2), .val (.int p3), .val (.int p4), .val (.int p5), .val (.int (3 : Int32)), .val (.int (2 : Int32)), .unset, .unset, .unset, .unset] [(.int p3), (.int p2), (.int (3 : Int32))])) rfl (by rw [hml]; rfl) (argsL := [(.int (3 : Int32)), (.int p2), (.int p3)]) (rest := []) (lenOf own_pd7 rfl) rfl (by show 2 * 0 + _ ≤ _; exact Nat.le_of_eq rfl) (hb hby at_16) (fun _ _ => ⟨rfl, e0, (by decide : 0 + 3 ≤ _), (by decide : 0 + 8 ≤ _)⟩)
    dsimp only [Pt.U, Pt.locs, Pt.cells, Pt.slots] at X159 l159 y159 z159 st159 hQ159
    subst l159 y159 z159
    obtain ⟨s159, rfl, N159q, K159, Ex159_q, t159, kt159, vst159, Fq159_0, Vq159⟩ := hQ159
    have N159 := Fr.app N0 N159q
    have Z0_159 : n0 ≤ T159.heap.size := Nat.le_trans Z0 K159.1
    have Od159 := Od.keep K159 all0
    have kz_159 : 0 ≤ T159.heap.size := Nat.le_trans kz K159.1
    have Cr_159 := Cr.trans (CHr.keep K159 all0 Cr.1)
    refine own_st (V := T159.setTop (mkF m 19 #[.val (.int p1), .val (.int p2), .val (.int p3), .val (.int p4), .val (.int p5), .val (.int (3 : Int32)), .val (.int (2 : Int32)), .unset, .unset, .unset, .unset] [(.ref s159)])) (fun t k => st159 _ k) ?_
    refine own_st (V := T159.setTop (mkF m 21 #[.val (.int p1), .val (.int p2), .val (.int p3), .val (.int p4), .val (.int p5), .val (.int (3 : Int32)), .val (.int (2 : Int32)), .val (.ref s159), .unset, .unset, .unset] [])) (fun t k => XS.astore X159.here hx rfl (hb hby at_19) rfl rfl (l' := #[.val (.int p1), .val (.int p2), .val (.int p3), .val (.int p4), .val (.int p5), .val (.int (3 : Int32)), .val (.int (2 : Int32)), .val (.ref s159), .unset, .unset, .unset]) rfl k) ?_
    refine own_st (V := T159.setTop (mkF m 23 #[.val (.int p1), .val (.int p2), .val (.int p3), .val (.int p4), .val (.int p5), .val (.int (3 : Int32)), .val (.int (2 : Int32)), .val (.ref s159), .unset, .unset, .unset] [(.int (2 : Int32))])) (fun t k => XS.iload X159.here hx rfl (hb hby at_21) rfl k) ?_
    refine own_st (V := T159.setTop (mkF m 24 #[.val (.int p1), .val (.int p2), .val (.int p3), .val (.int p4), .val (.int p5), .val (.int (3 : Int32)), .val (.int (2 : Int32)), .val (.ref s159), .unset, .unset, .unset] [(.int p4), (.int (2 : Int32))])) (fun t k => XS.iloadN X159.here hx rfl (hb hby at_23) rfl k) ?_
    refine own_st (V := T159.setTop (mkF m 26 #[.val (.int p1), .val (.int p2), .val (.int p3), .val (.int p4), .val (.int p5), .val (.int (3 : Int32)), .val (.int (2 : Int32)), .val (.ref s159), .unset, .unset, .unset] [(.int p5), (.int p4), (.int (2 : Int32))])) (fun t k => XS.iload X159.here hx rfl (hb hby at_24) rfl k) ?_
    obtain ⟨_, _, ⟨T160, L160, k160, n160⟩, -, X160, ⟨Lc160, hQ160, l160, y160, z160⟩, st160⟩ := Jvm.LawKit.callS X159 hx (y := (⟨"com/example/tempora/tempora/core/IssueIsGivenPinLaw", "str", "(III)Ljava/lang/String;"⟩ : MethodName)) hown (mvT hZ (hw _ (List.mem_of_getElem? (i := 0) rfl))) (mvT hZ (hw _ (List.mem_of_getElem? (i := 1) rfl))) (mvT hZ (hw _ (List.mem_of_getElem? (i := 2) rfl))) (mvT hZ (hw _ (List.mem_of_getElem? (i := 3) rfl))) (by decide) (backOf (W := 0) (own_str2 l Z a0 hw [] p4 p5 cs T159.heap n0 Z0_159 Od159 SC hcs) hZ (hw _ (List.mem_of_getElem? (i := 3) rfl)) (hw _ (List.mem_of_getElem? (i := 2) rfl)) (by decide) (by decide)) (g := (mkF m 26 #[.val (.int p1), .val (.int p2), .val (.int p3), .val (.int p4), .val (.int p5), .val (.int (3 : Int32)), .val (.int (2 : Int32)), .val (.ref s159), .unset, .unset, .unset] [(.int p5), (.int p4), (.int (2 : Int32))])) rfl (by rw [hml]; rfl) (argsL := [(.int (2 : Int32)), (.int p4), (.int p5)]) (rest := []) (lenOf own_pd7 rfl) rfl (by show 2 * 0 + _ ≤ _; exact Nat.le_of_eq rfl) (hb hby at_26) (fun _ _ => ⟨rfl, rfl, (by decide : 3 + 3 ≤ _), (by decide : 8 + 8 ≤ _)⟩)
    dsimp only [Pt.U, Pt.locs, Pt.cells, Pt.slots] at X160 l160 y160 z160 st160 hQ160
    subst l160 y160 z160
    obtain ⟨s160, rfl, N160q, K160, Ex160_q, t160, kt160, vst160, Fq160_0, Vq160⟩ := hQ160
    have N160 := Fr.app N159 N160q
    have Z0_160 : n0 ≤ T160.heap.size := Nat.le_trans Z0_159 K160.1
    have F160_s159_value := Fq159_0.keep K160 nin0
    have Ex160_s159 := Ex159_q.keep K160
    have V160_t159 := Vq159.keep K160 nin0
    have Od160 := Od159.keep K160 all0
    have kz_160 : 0 ≤ T160.heap.size := Nat.le_trans kz_159 K160.1
    refine own_st (V := T160.setTop (mkF m 29 #[.val (.int p1), .val (.int p2), .val (.int p3), .val (.int p4), .val (.int p5), .val (.int (3 : Int32)), .val (.int (2 : Int32)), .val (.ref s159), .unset, .unset, .unset] [(.ref s160)])) (fun t k => st160 _ k) ?_
    refine own_st (V := T160.setTop (mkF m 31 #[.val (.int p1), .val (.int p2), .val (.int p3), .val (.int p4), .val (.int p5), .val (.int (3 : Int32)), .val (.int (2 : Int32)), .val (.ref s159), .val (.ref s160), .unset, .unset] [])) (fun t k => XS.astore X160.here hx rfl (hb hby at_29) rfl rfl (l' := #[.val (.int p1), .val (.int p2), .val (.int p3), .val (.int p4), .val (.int p5), .val (.int (3 : Int32)), .val (.int (2 : Int32)), .val (.ref s159), .val (.ref s160), .unset, .unset]) rfl k) ?_
    obtain ⟨T161, h161, X161, e161, E161, A161, D161, -, st161⟩ := newO X160 hx hZ hown (hw _ (List.mem_of_getElem? (i := 26) rfl)) (hw _ (List.mem_of_getElem? (i := 27) rfl)) (hw _ (List.mem_of_getElem? (i := 28) rfl)) rfl (g := (mkF m 31 #[.val (.int p1), .val (.int p2), .val (.int p3), .val (.int p4), .val (.int p5), .val (.int (3 : Int32)), .val (.int (2 : Int32)), .val (.ref s159), .val (.ref s160), .unset, .unset] [])) rfl (hb hby at_31) (by decide) (by decide)
    obtain ⟨b161, g161⟩ : ∃ z, z = T160.heap.size := ⟨_, rfl⟩
    rw [← g161] at A161 D161 st161
    have gb_b161 : n0 ≤ b161 := Nat.le_trans Z0_160 (Nat.le_of_eq g161.symm)
    have Z0_161 : n0 ≤ h161.size := Nat.le_trans Z0_160 E161.1
    have ne_t159_b161 : t159 ≠ b161 := Nat.ne_of_lt (Nat.lt_of_lt_of_le V160_t159.lt (Nat.le_of_eq g161.symm))
    have ne_t160_b161 : t160 ≠ b161 := Nat.ne_of_lt (Nat.lt_of_lt_of_le Vq160.lt (Nat.le_of_eq g161.symm))
    have ne_s159_b161 : s159 ≠ b161 := Nat.ne_of_lt (Nat.lt_of_lt_of_le Ex160_s159.lt (Nat.le_of_eq g161.symm))
    have ne_s160_b161 : s160 ≠ b161 := Nat.ne_of_lt (Nat.lt_of_lt_of_le Ex160_q.lt (Nat.le_of_eq g161.symm))
    have F161_s159_value := F160_s159_value.ext E161
    have F161_s160_value := Fq160_0.ext E161
    have Ex161_s159 := Ex160_s159.ext E161
    have Ex161_s160 := Ex160_q.ext E161
    have V161_t159 := V160_t159.ext E161
    have V161_t160 := Vq160.ext E161
    have Od161 := Od160.ext E161
    have kz_161 : 0 ≤ h161.size := Nat.le_trans kz_160 E161.1
    have F161_b161_designation : Fld Z h161 b161 "com/example/tempora/tempora/core/Issue" "designation" "Ljava/lang/String;" .null := D161 (Or.inr (hw _ (List.mem_of_getElem? (i := 39) rfl))) (ty := (.object "java/lang/String")) (by decide)
    have F161_b161_date : Fld Z h161 b161 "com/example/tempora/tempora/core/Issue" "date" "Ljava/lang/String;" .null := D161 (Or.inr (hw _ (List.mem_of_getElem? (i := 41) rfl))) (ty := (.object "java/lang/String")) (by decide)
    refine own_st (V := T161.setTop (mkF m 34 #[.val (.int p1), .val (.int p2), .val (.int p3), .val (.int p4), .val (.int p5), .val (.int (3 : Int32)), .val (.int (2 : Int32)), .val (.ref s159), .val (.ref s160), .unset, .unset] [(.ref b161)])) (fun t k => st161 _ k) ?_
    refine own_st (V := T161.setTop (mkF m 35 #[.val (.int p1), .val (.int p2), .val (.int p3), .val (.int p4), .val (.int p5), .val (.int (3 : Int32)), .val (.int (2 : Int32)), .val (.ref s159), .val (.ref s160), .unset, .unset] [(.ref b161), (.ref b161)])) (fun t k => XS.dup X161.here hx rfl (hb hby at_34) rfl rfl k) ?_
    refine own_st (V := T161.setTop (mkF m 37 #[.val (.int p1), .val (.int p2), .val (.int p3), .val (.int p4), .val (.int p5), .val (.int (3 : Int32)), .val (.int (2 : Int32)), .val (.ref s159), .val (.ref s160), .unset, .unset] [(.ref s159), (.ref b161), (.ref b161)])) (fun t k => XS.aload X161.here hx rfl (hb hby at_35) rfl rfl k) ?_
    refine own_st (V := T161.setTop (mkF m 39 #[.val (.int p1), .val (.int p2), .val (.int p3), .val (.int p4), .val (.int p5), .val (.int (3 : Int32)), .val (.int (2 : Int32)), .val (.ref s159), .val (.ref s160), .unset, .unset] [(.ref s160), (.ref s159), (.ref b161), (.ref b161)])) (fun t k => XS.aload X161.here hx rfl (hb hby at_37) rfl rfl k) ?_
    obtain ⟨_, _, ⟨T162, L162, k162, n162⟩, -, X162, ⟨Lc162, hQ162, l162, y162, z162⟩, st162⟩ := X161.specialBack hx (y := (⟨"com/example/tempora/tempora/core/Issue", "<init>", "(Ljava/lang/String;Ljava/lang/String;)V"⟩ : MethodName)) rfl hown (mvT hZ (hw _ (List.mem_of_getElem? (i := 29) rfl))) (mvT hZ (hw _ (List.mem_of_getElem? (i := 30) rfl))) (mvT hZ (hw _ (List.mem_of_getElem? (i := 31) rfl))) (by decide) (backOf (W := 1) (own_ii l Z a0 hw [] b161 s159 s160 h161 n0 Z0_161 F161_b161_designation F161_b161_date A161 gb_b161) hZ (hw _ (List.mem_of_getElem? (i := 31) rfl)) (hw _ (List.mem_of_getElem? (i := 28) rfl)) (by decide) (by decide)) (g := (mkF m 39 #[.val (.int p1), .val (.int p2), .val (.int p3), .val (.int p4), .val (.int p5), .val (.int (3 : Int32)), .val (.int (2 : Int32)), .val (.ref s159), .val (.ref s160), .unset, .unset] [(.ref s160), (.ref s159), (.ref b161), (.ref b161)])) rfl (by rw [hml]; rfl) (Steps.refl _) (a := b161) (argsL := [(.ref s159), (.ref s160)]) (rest := [(.ref b161)]) (lenOf own_pd8 rfl) rfl (by show 2 * 0 + _ ≤ _; exact Nat.le_of_eq rfl) (hb hby at_39) (fun _ _ => ⟨rfl, e161, (by decide : 7 + 0 ≤ _), (by decide : 18 + 0 ≤ _)⟩)
    dsimp only [Pt.U, Pt.locs, Pt.cells, Pt.slots] at X162 l162 y162 z162 st162 hQ162
    subst l162 y162 z162
    obtain ⟨rfl, N162q, K162, Ex162_q, Fq162_0, Fq162_1⟩ := hQ162
    have N162 := Fr.app N160 N162q
    have Z0_162 : n0 ≤ T162.heap.size := Nat.le_trans Z0_161 K162.1
    have F162_s159_value := F161_s159_value.keep K162 (ninS ne_s159_b161 nin0)
    have F162_s160_value := F161_s160_value.keep K162 (ninS ne_s160_b161 nin0)
    have Ex162_s159 := Ex161_s159.keep K162
    have Ex162_s160 := Ex161_s160.keep K162
    have Ex162_b161 := A161.keep K162
    have V162_t159 := V161_t159.keep K162 (ninS ne_t159_b161 nin0)
    have V162_t160 := V161_t160.keep K162 (ninS ne_t160_b161 nin0)
    have Od162 := Od161.keep K162 (allS gb_b161 all0)
    have kz_162 : 0 ≤ T162.heap.size := Nat.le_trans kz_161 K162.1
    refine own_st (V := T162.setTop (mkF m 42 #[.val (.int p1), .val (.int p2), .val (.int p3), .val (.int p4), .val (.int p5), .val (.int (3 : Int32)), .val (.int (2 : Int32)), .val (.ref s159), .val (.ref s160), .unset, .unset] [(.ref b161)])) (fun t k => st162.trans k) ?_
    refine own_st (V := T162.setTop (mkF m 44 #[.val (.int p1), .val (.int p2), .val (.int p3), .val (.int p4), .val (.int p5), .val (.int (3 : Int32)), .val (.int (2 : Int32)), .val (.ref s159), .val (.ref s160), .val (.ref b161), .unset] [])) (fun t k => XS.astore X162.here hx rfl (hb hby at_42) rfl rfl (l' := #[.val (.int p1), .val (.int p2), .val (.int p3), .val (.int p4), .val (.int p5), .val (.int (3 : Int32)), .val (.int (2 : Int32)), .val (.ref s159), .val (.ref s160), .val (.ref b161), .unset]) rfl k) ?_
    refine own_st (V := T162.setTop (mkF m 46 #[.val (.int p1), .val (.int p2), .val (.int p3), .val (.int p4), .val (.int p5), .val (.int (3 : Int32)), .val (.int (2 : Int32)), .val (.ref s159), .val (.ref s160), .val (.ref b161), .unset] [(.int (3 : Int32))])) (fun t k => XS.iload X162.here hx rfl (hb hby at_44) rfl k) ?_
    refine own_st (V := T162.setTop (mkF m 54 #[.val (.int p1), .val (.int p2), .val (.int p3), .val (.int p4), .val (.int p5), .val (.int (3 : Int32)), .val (.int (2 : Int32)), .val (.ref s159), .val (.ref s160), .val (.ref b161), .unset] [])) (fun t k => XS.ifYes X162.here hx rfl (pc0 := 46) (pc' := 54) rfl (hb hby at_46) rfl ((if0 _ _).trans (feq (by decide : ¬ ((3 : Int32) = (0 : Int32)))).2) (by decide) (by decide) k) ?_
    refine own_st (V := T162.setTop (mkF m 55 #[.val (.int p1), .val (.int p2), .val (.int p3), .val (.int p4), .val (.int p5), .val (.int (3 : Int32)), .val (.int (2 : Int32)), .val (.ref s159), .val (.ref s160), .val (.ref b161), .unset] [(.int (1 : Int32))])) (fun t k => XS.iconst X162.here hx rfl (hb hby at_54) k) ?_
    refine own_st (V := T162.setTop (mkF m 59 #[.val (.int p1), .val (.int p2), .val (.int p3), .val (.int p4), .val (.int p5), .val (.int (3 : Int32)), .val (.int (2 : Int32)), .val (.ref s159), .val (.ref s160), .val (.ref b161), .unset] [(.int (1 : Int32))])) (fun t k => XS.goto X162.here hx rfl (pc0 := 55) (pc' := 59) rfl (hb hby at_55) (by decide) (by decide) k) ?_
    refine own_st (V := T162.setTop (mkF m 61 #[.val (.int p1), .val (.int p2), .val (.int p3), .val (.int p4), .val (.int p5), .val (.int (3 : Int32)), .val (.int (2 : Int32)), .val (.ref s159), .val (.ref s160), .val (.ref b161), .val (.int (1 : Int32))] [])) (fun t k => XS.istore X162.here hx rfl (hb hby at_59) rfl (l' := #[.val (.int p1), .val (.int p2), .val (.int p3), .val (.int p4), .val (.int p5), .val (.int (3 : Int32)), .val (.int (2 : Int32)), .val (.ref s159), .val (.ref s160), .val (.ref b161), .val (.int (1 : Int32))]) rfl k) ?_
    refine own_st (V := T162.setTop (mkF m 63 #[.val (.int p1), .val (.int p2), .val (.int p3), .val (.int p4), .val (.int p5), .val (.int (3 : Int32)), .val (.int (2 : Int32)), .val (.ref s159), .val (.ref s160), .val (.ref b161), .val (.int (1 : Int32))] [(.ref b161)])) (fun t k => XS.aload X162.here hx rfl (hb hby at_61) rfl rfl k) ?_
    obtain ⟨cq163, kq163, q163a, q163b, q163c⟩ := isOf hZ rfl Ex162_q
    obtain ⟨_, _, ⟨T163, L163, k163, n163⟩, -, X163, ⟨Lc163, hQ163, l163, y163, z163⟩, st163⟩ := X162.virtualBack hx (y := (⟨"com/example/tempora/tempora/core/Issue", "isGiven", "()Z"⟩ : MethodName)) (z := (⟨"com/example/tempora/tempora/core/Issue", "isGiven", "()Z"⟩ : MethodName)) hown (mvT hZ (hw _ (List.mem_of_getElem? (i := 42) rfl))) (mvT hZ (hw _ (List.mem_of_getElem? (i := 43) rfl))) (notFace_of_selects (args := #[]) (mvT hZ (hw _ (List.mem_of_getElem? (i := 45) rfl)))) (mvT hZ (hw _ (List.mem_of_getElem? (i := 45) rfl))) (mvT hZ (hw _ (List.mem_of_getElem? (i := 44) rfl))) (by decide) (backOf (W := 0) (own_ig22 l Z a0 hw [] b161 s159 s160 t159 t160 kt159 kt160 vst159 vst160 T162.heap n0 Z0_162 Fq162_0 Fq162_1 Ex162_s159 Ex162_s160 F162_s159_value F162_s160_value V162_t159 V162_t160) hZ (hw _ (List.mem_of_getElem? (i := 46) rfl)) (hw _ (List.mem_of_getElem? (i := 28) rfl)) (by decide) (by decide)) q163a q163c (g := (mkF m 63 #[.val (.int p1), .val (.int p2), .val (.int p3), .val (.int p4), .val (.int p5), .val (.int (3 : Int32)), .val (.int (2 : Int32)), .val (.ref s159), .val (.ref s160), .val (.ref b161), .val (.int (1 : Int32))] [(.ref b161)])) rfl (by rw [hml]; rfl) (Steps.refl _) (argsL := []) (rest := []) (lenOf own_pd6 rfl) rfl (by show 2 * 0 + _ ≤ _; exact Nat.le_of_eq rfl) (hb hby at_63) (fun _ _ => ⟨rfl, rfl, (by decide : 7 + 0 ≤ _), (by decide : 18 + 0 ≤ _)⟩)
    dsimp only [Pt.U, Pt.locs, Pt.cells, Pt.slots] at X163 l163 y163 z163 st163 hQ163
    subst l163 y163 z163
    obtain ⟨rfl, N163q, e163⟩ := hQ163
    have N163 := Fr.app N162 N163q
    refine own_st (V := T163.setTop (mkF m 66 #[.val (.int p1), .val (.int p2), .val (.int p3), .val (.int p4), .val (.int p5), .val (.int (3 : Int32)), .val (.int (2 : Int32)), .val (.ref s159), .val (.ref s160), .val (.ref b161), .val (.int (1 : Int32))] [(.int (1 : Int32))])) (fun t k => st163.trans k) ?_
    refine own_st (V := T163.setTop (mkF m 68 #[.val (.int p1), .val (.int p2), .val (.int p3), .val (.int p4), .val (.int p5), .val (.int (3 : Int32)), .val (.int (2 : Int32)), .val (.ref s159), .val (.ref s160), .val (.ref b161), .val (.int (1 : Int32))] [(.int (1 : Int32)), (.int (1 : Int32))])) (fun t k => XS.iload X163.here hx rfl (hb hby at_66) rfl k) ?_
    refine own_st (V := T163.setTop (mkF m 71 #[.val (.int p1), .val (.int p2), .val (.int p3), .val (.int p4), .val (.int p5), .val (.int (3 : Int32)), .val (.int (2 : Int32)), .val (.ref s159), .val (.ref s160), .val (.ref b161), .val (.int (1 : Int32))] [])) (fun t k => XS.icmpNo X163.here hx rfl (hb hby at_68) rfl (teq (by decide : (1 : Int32) = (1 : Int32))).2 k) ?_
    refine own_st (V := T163.setTop (mkF m 72 #[.val (.int p1), .val (.int p2), .val (.int p3), .val (.int p4), .val (.int p5), .val (.int (3 : Int32)), .val (.int (2 : Int32)), .val (.ref s159), .val (.ref s160), .val (.ref b161), .val (.int (1 : Int32))] [(.int (1 : Int32))])) (fun t k => XS.iconst X163.here hx rfl (hb hby at_71) k) ?_
    refine own_st (V := T163.setTop (mkF m 76 #[.val (.int p1), .val (.int p2), .val (.int p3), .val (.int p4), .val (.int p5), .val (.int (3 : Int32)), .val (.int (2 : Int32)), .val (.ref s159), .val (.ref s160), .val (.ref b161), .val (.int (1 : Int32))] [(.int (1 : Int32))])) (fun t k => XS.goto X163.here hx rfl (pc0 := 72) (pc' := 76) rfl (hb hby at_72) (by decide) (by decide) k) ?_
    exact own_retW (s := s) hSi (by rw [e163]; exact kz_162) X163 hx hlk Bd.returns (by decide +kernel) (Or.inl ⟨rfl, by simp, _, rfl⟩) (hb hby at_76) (by decide) (by decide) ⟨rfl, N163⟩
  · rw [h2]
    refine own_st (V := s₁.setTop (mkF m 12 #[.val (.int p1), .val (.int p2), .val (.int p3), .val (.int p4), .val (.int p5), .val (.int (3 : Int32)), .val (.int (3 : Int32)), .unset, .unset, .unset, .unset] [])) (fun t k => XS.istore X0.here hx rfl (hb hby at_10) rfl (l' := #[.val (.int p1), .val (.int p2), .val (.int p3), .val (.int p4), .val (.int p5), .val (.int (3 : Int32)), .val (.int (3 : Int32)), .unset, .unset, .unset, .unset]) rfl k) ?_
    refine own_st (V := s₁.setTop (mkF m 14 #[.val (.int p1), .val (.int p2), .val (.int p3), .val (.int p4), .val (.int p5), .val (.int (3 : Int32)), .val (.int (3 : Int32)), .unset, .unset, .unset, .unset] [(.int (3 : Int32))])) (fun t k => XS.iload X0.here hx rfl (hb hby at_12) rfl k) ?_
    refine own_st (V := s₁.setTop (mkF m 15 #[.val (.int p1), .val (.int p2), .val (.int p3), .val (.int p4), .val (.int p5), .val (.int (3 : Int32)), .val (.int (3 : Int32)), .unset, .unset, .unset, .unset] [(.int p2), (.int (3 : Int32))])) (fun t k => XS.iloadN X0.here hx rfl (hb hby at_14) rfl k) ?_
    refine own_st (V := s₁.setTop (mkF m 16 #[.val (.int p1), .val (.int p2), .val (.int p3), .val (.int p4), .val (.int p5), .val (.int (3 : Int32)), .val (.int (3 : Int32)), .unset, .unset, .unset, .unset] [(.int p3), (.int p2), (.int (3 : Int32))])) (fun t k => XS.iloadN X0.here hx rfl (hb hby at_15) rfl k) ?_
    obtain ⟨_, _, ⟨T164, L164, k164, n164⟩, -, X164, ⟨Lc164, hQ164, l164, y164, z164⟩, st164⟩ := Jvm.LawKit.callS X0 hx (y := (⟨"com/example/tempora/tempora/core/IssueIsGivenPinLaw", "str", "(III)Ljava/lang/String;"⟩ : MethodName)) hown (mvT hZ (hw _ (List.mem_of_getElem? (i := 0) rfl))) (mvT hZ (hw _ (List.mem_of_getElem? (i := 1) rfl))) (mvT hZ (hw _ (List.mem_of_getElem? (i := 2) rfl))) (mvT hZ (hw _ (List.mem_of_getElem? (i := 3) rfl))) (by decide) (backOf (W := 0) (own_str3 l Z a0 hw [] p2 p3 cs h0 n0 Z0 Od SC hcs) hZ (hw _ (List.mem_of_getElem? (i := 3) rfl)) (hw _ (List.mem_of_getElem? (i := 2) rfl)) (by decide) (by decide)) (g := (mkF m 16 #[.val (.int p1), .val (.int p2), .val (.int p3), .val (.int p4), .val (.int p5), .val (.int (3 : Int32)), .val (.int (3 : Int32)), .unset, .unset, .unset, .unset] [(.int p3), (.int p2), (.int (3 : Int32))])) rfl (by rw [hml]; rfl) (argsL := [(.int (3 : Int32)), (.int p2), (.int p3)]) (rest := []) (lenOf own_pd7 rfl) rfl (by show 2 * 0 + _ ≤ _; exact Nat.le_of_eq rfl) (hb hby at_16) (fun _ _ => ⟨rfl, e0, (by decide : 0 + 3 ≤ _), (by decide : 0 + 8 ≤ _)⟩)
    dsimp only [Pt.U, Pt.locs, Pt.cells, Pt.slots] at X164 l164 y164 z164 st164 hQ164
    subst l164 y164 z164
    obtain ⟨s164, rfl, N164q, K164, Ex164_q, t164, kt164, vst164, Fq164_0, Vq164⟩ := hQ164
    have N164 := Fr.app N0 N164q
    have Z0_164 : n0 ≤ T164.heap.size := Nat.le_trans Z0 K164.1
    have Od164 := Od.keep K164 all0
    have kz_164 : 0 ≤ T164.heap.size := Nat.le_trans kz K164.1
    have Cr_164 := Cr.trans (CHr.keep K164 all0 Cr.1)
    refine own_st (V := T164.setTop (mkF m 19 #[.val (.int p1), .val (.int p2), .val (.int p3), .val (.int p4), .val (.int p5), .val (.int (3 : Int32)), .val (.int (3 : Int32)), .unset, .unset, .unset, .unset] [(.ref s164)])) (fun t k => st164 _ k) ?_
    refine own_st (V := T164.setTop (mkF m 21 #[.val (.int p1), .val (.int p2), .val (.int p3), .val (.int p4), .val (.int p5), .val (.int (3 : Int32)), .val (.int (3 : Int32)), .val (.ref s164), .unset, .unset, .unset] [])) (fun t k => XS.astore X164.here hx rfl (hb hby at_19) rfl rfl (l' := #[.val (.int p1), .val (.int p2), .val (.int p3), .val (.int p4), .val (.int p5), .val (.int (3 : Int32)), .val (.int (3 : Int32)), .val (.ref s164), .unset, .unset, .unset]) rfl k) ?_
    refine own_st (V := T164.setTop (mkF m 23 #[.val (.int p1), .val (.int p2), .val (.int p3), .val (.int p4), .val (.int p5), .val (.int (3 : Int32)), .val (.int (3 : Int32)), .val (.ref s164), .unset, .unset, .unset] [(.int (3 : Int32))])) (fun t k => XS.iload X164.here hx rfl (hb hby at_21) rfl k) ?_
    refine own_st (V := T164.setTop (mkF m 24 #[.val (.int p1), .val (.int p2), .val (.int p3), .val (.int p4), .val (.int p5), .val (.int (3 : Int32)), .val (.int (3 : Int32)), .val (.ref s164), .unset, .unset, .unset] [(.int p4), (.int (3 : Int32))])) (fun t k => XS.iloadN X164.here hx rfl (hb hby at_23) rfl k) ?_
    refine own_st (V := T164.setTop (mkF m 26 #[.val (.int p1), .val (.int p2), .val (.int p3), .val (.int p4), .val (.int p5), .val (.int (3 : Int32)), .val (.int (3 : Int32)), .val (.ref s164), .unset, .unset, .unset] [(.int p5), (.int p4), (.int (3 : Int32))])) (fun t k => XS.iload X164.here hx rfl (hb hby at_24) rfl k) ?_
    obtain ⟨_, _, ⟨T165, L165, k165, n165⟩, -, X165, ⟨Lc165, hQ165, l165, y165, z165⟩, st165⟩ := Jvm.LawKit.callS X164 hx (y := (⟨"com/example/tempora/tempora/core/IssueIsGivenPinLaw", "str", "(III)Ljava/lang/String;"⟩ : MethodName)) hown (mvT hZ (hw _ (List.mem_of_getElem? (i := 0) rfl))) (mvT hZ (hw _ (List.mem_of_getElem? (i := 1) rfl))) (mvT hZ (hw _ (List.mem_of_getElem? (i := 2) rfl))) (mvT hZ (hw _ (List.mem_of_getElem? (i := 3) rfl))) (by decide) (backOf (W := 0) (own_str3 l Z a0 hw [] p4 p5 cs T164.heap n0 Z0_164 Od164 SC hcs) hZ (hw _ (List.mem_of_getElem? (i := 3) rfl)) (hw _ (List.mem_of_getElem? (i := 2) rfl)) (by decide) (by decide)) (g := (mkF m 26 #[.val (.int p1), .val (.int p2), .val (.int p3), .val (.int p4), .val (.int p5), .val (.int (3 : Int32)), .val (.int (3 : Int32)), .val (.ref s164), .unset, .unset, .unset] [(.int p5), (.int p4), (.int (3 : Int32))])) rfl (by rw [hml]; rfl) (argsL := [(.int (3 : Int32)), (.int p4), (.int p5)]) (rest := []) (lenOf own_pd7 rfl) rfl (by show 2 * 0 + _ ≤ _; exact Nat.le_of_eq rfl) (hb hby at_26) (fun _ _ => ⟨rfl, rfl, (by decide : 3 + 3 ≤ _), (by decide : 8 + 8 ≤ _)⟩)
    dsimp only [Pt.U, Pt.locs, Pt.cells, Pt.slots] at X165 l165 y165 z165 st165 hQ165
    subst l165 y165 z165
    obtain ⟨s165, rfl, N165q, K165, Ex165_q, t165, kt165, vst165, Fq165_0, Vq165⟩ := hQ165
    have N165 := Fr.app N164 N165q
    have Z0_165 : n0 ≤ T165.heap.size := Nat.le_trans Z0_164 K165.1
    have F165_s164_value := Fq164_0.keep K165 nin0
    have Ex165_s164 := Ex164_q.keep K165
    have V165_t164 := Vq164.keep K165 nin0
    have Od165 := Od164.keep K165 all0
    have kz_165 : 0 ≤ T165.heap.size := Nat.le_trans kz_164 K165.1
    refine own_st (V := T165.setTop (mkF m 29 #[.val (.int p1), .val (.int p2), .val (.int p3), .val (.int p4), .val (.int p5), .val (.int (3 : Int32)), .val (.int (3 : Int32)), .val (.ref s164), .unset, .unset, .unset] [(.ref s165)])) (fun t k => st165 _ k) ?_
    refine own_st (V := T165.setTop (mkF m 31 #[.val (.int p1), .val (.int p2), .val (.int p3), .val (.int p4), .val (.int p5), .val (.int (3 : Int32)), .val (.int (3 : Int32)), .val (.ref s164), .val (.ref s165), .unset, .unset] [])) (fun t k => XS.astore X165.here hx rfl (hb hby at_29) rfl rfl (l' := #[.val (.int p1), .val (.int p2), .val (.int p3), .val (.int p4), .val (.int p5), .val (.int (3 : Int32)), .val (.int (3 : Int32)), .val (.ref s164), .val (.ref s165), .unset, .unset]) rfl k) ?_
    obtain ⟨T166, h166, X166, e166, E166, A166, D166, -, st166⟩ := newO X165 hx hZ hown (hw _ (List.mem_of_getElem? (i := 26) rfl)) (hw _ (List.mem_of_getElem? (i := 27) rfl)) (hw _ (List.mem_of_getElem? (i := 28) rfl)) rfl (g := (mkF m 31 #[.val (.int p1), .val (.int p2), .val (.int p3), .val (.int p4), .val (.int p5), .val (.int (3 : Int32)), .val (.int (3 : Int32)), .val (.ref s164), .val (.ref s165), .unset, .unset] [])) rfl (hb hby at_31) (by decide) (by decide)
    obtain ⟨b166, g166⟩ : ∃ z, z = T165.heap.size := ⟨_, rfl⟩
    rw [← g166] at A166 D166 st166
    have gb_b166 : n0 ≤ b166 := Nat.le_trans Z0_165 (Nat.le_of_eq g166.symm)
    have Z0_166 : n0 ≤ h166.size := Nat.le_trans Z0_165 E166.1
    have ne_t164_b166 : t164 ≠ b166 := Nat.ne_of_lt (Nat.lt_of_lt_of_le V165_t164.lt (Nat.le_of_eq g166.symm))
    have ne_t165_b166 : t165 ≠ b166 := Nat.ne_of_lt (Nat.lt_of_lt_of_le Vq165.lt (Nat.le_of_eq g166.symm))
    have ne_s164_b166 : s164 ≠ b166 := Nat.ne_of_lt (Nat.lt_of_lt_of_le Ex165_s164.lt (Nat.le_of_eq g166.symm))
    have ne_s165_b166 : s165 ≠ b166 := Nat.ne_of_lt (Nat.lt_of_lt_of_le Ex165_q.lt (Nat.le_of_eq g166.symm))
    have F166_s164_value := F165_s164_value.ext E166
    have F166_s165_value := Fq165_0.ext E166
    have Ex166_s164 := Ex165_s164.ext E166
    have Ex166_s165 := Ex165_q.ext E166
    have V166_t164 := V165_t164.ext E166
    have V166_t165 := Vq165.ext E166
    have Od166 := Od165.ext E166
    have kz_166 : 0 ≤ h166.size := Nat.le_trans kz_165 E166.1
    have F166_b166_designation : Fld Z h166 b166 "com/example/tempora/tempora/core/Issue" "designation" "Ljava/lang/String;" .null := D166 (Or.inr (hw _ (List.mem_of_getElem? (i := 39) rfl))) (ty := (.object "java/lang/String")) (by decide)
    have F166_b166_date : Fld Z h166 b166 "com/example/tempora/tempora/core/Issue" "date" "Ljava/lang/String;" .null := D166 (Or.inr (hw _ (List.mem_of_getElem? (i := 41) rfl))) (ty := (.object "java/lang/String")) (by decide)
    refine own_st (V := T166.setTop (mkF m 34 #[.val (.int p1), .val (.int p2), .val (.int p3), .val (.int p4), .val (.int p5), .val (.int (3 : Int32)), .val (.int (3 : Int32)), .val (.ref s164), .val (.ref s165), .unset, .unset] [(.ref b166)])) (fun t k => st166 _ k) ?_
    refine own_st (V := T166.setTop (mkF m 35 #[.val (.int p1), .val (.int p2), .val (.int p3), .val (.int p4), .val (.int p5), .val (.int (3 : Int32)), .val (.int (3 : Int32)), .val (.ref s164), .val (.ref s165), .unset, .unset] [(.ref b166), (.ref b166)])) (fun t k => XS.dup X166.here hx rfl (hb hby at_34) rfl rfl k) ?_
    refine own_st (V := T166.setTop (mkF m 37 #[.val (.int p1), .val (.int p2), .val (.int p3), .val (.int p4), .val (.int p5), .val (.int (3 : Int32)), .val (.int (3 : Int32)), .val (.ref s164), .val (.ref s165), .unset, .unset] [(.ref s164), (.ref b166), (.ref b166)])) (fun t k => XS.aload X166.here hx rfl (hb hby at_35) rfl rfl k) ?_
    refine own_st (V := T166.setTop (mkF m 39 #[.val (.int p1), .val (.int p2), .val (.int p3), .val (.int p4), .val (.int p5), .val (.int (3 : Int32)), .val (.int (3 : Int32)), .val (.ref s164), .val (.ref s165), .unset, .unset] [(.ref s165), (.ref s164), (.ref b166), (.ref b166)])) (fun t k => XS.aload X166.here hx rfl (hb hby at_37) rfl rfl k) ?_
    obtain ⟨_, _, ⟨T167, L167, k167, n167⟩, -, X167, ⟨Lc167, hQ167, l167, y167, z167⟩, st167⟩ := X166.specialBack hx (y := (⟨"com/example/tempora/tempora/core/Issue", "<init>", "(Ljava/lang/String;Ljava/lang/String;)V"⟩ : MethodName)) rfl hown (mvT hZ (hw _ (List.mem_of_getElem? (i := 29) rfl))) (mvT hZ (hw _ (List.mem_of_getElem? (i := 30) rfl))) (mvT hZ (hw _ (List.mem_of_getElem? (i := 31) rfl))) (by decide) (backOf (W := 1) (own_ii l Z a0 hw [] b166 s164 s165 h166 n0 Z0_166 F166_b166_designation F166_b166_date A166 gb_b166) hZ (hw _ (List.mem_of_getElem? (i := 31) rfl)) (hw _ (List.mem_of_getElem? (i := 28) rfl)) (by decide) (by decide)) (g := (mkF m 39 #[.val (.int p1), .val (.int p2), .val (.int p3), .val (.int p4), .val (.int p5), .val (.int (3 : Int32)), .val (.int (3 : Int32)), .val (.ref s164), .val (.ref s165), .unset, .unset] [(.ref s165), (.ref s164), (.ref b166), (.ref b166)])) rfl (by rw [hml]; rfl) (Steps.refl _) (a := b166) (argsL := [(.ref s164), (.ref s165)]) (rest := [(.ref b166)]) (lenOf own_pd8 rfl) rfl (by show 2 * 0 + _ ≤ _; exact Nat.le_of_eq rfl) (hb hby at_39) (fun _ _ => ⟨rfl, e166, (by decide : 7 + 0 ≤ _), (by decide : 18 + 0 ≤ _)⟩)
    dsimp only [Pt.U, Pt.locs, Pt.cells, Pt.slots] at X167 l167 y167 z167 st167 hQ167
    subst l167 y167 z167
    obtain ⟨rfl, N167q, K167, Ex167_q, Fq167_0, Fq167_1⟩ := hQ167
    have N167 := Fr.app N165 N167q
    have Z0_167 : n0 ≤ T167.heap.size := Nat.le_trans Z0_166 K167.1
    have F167_s164_value := F166_s164_value.keep K167 (ninS ne_s164_b166 nin0)
    have F167_s165_value := F166_s165_value.keep K167 (ninS ne_s165_b166 nin0)
    have Ex167_s164 := Ex166_s164.keep K167
    have Ex167_s165 := Ex166_s165.keep K167
    have Ex167_b166 := A166.keep K167
    have V167_t164 := V166_t164.keep K167 (ninS ne_t164_b166 nin0)
    have V167_t165 := V166_t165.keep K167 (ninS ne_t165_b166 nin0)
    have Od167 := Od166.keep K167 (allS gb_b166 all0)
    have kz_167 : 0 ≤ T167.heap.size := Nat.le_trans kz_166 K167.1
    refine own_st (V := T167.setTop (mkF m 42 #[.val (.int p1), .val (.int p2), .val (.int p3), .val (.int p4), .val (.int p5), .val (.int (3 : Int32)), .val (.int (3 : Int32)), .val (.ref s164), .val (.ref s165), .unset, .unset] [(.ref b166)])) (fun t k => st167.trans k) ?_
    refine own_st (V := T167.setTop (mkF m 44 #[.val (.int p1), .val (.int p2), .val (.int p3), .val (.int p4), .val (.int p5), .val (.int (3 : Int32)), .val (.int (3 : Int32)), .val (.ref s164), .val (.ref s165), .val (.ref b166), .unset] [])) (fun t k => XS.astore X167.here hx rfl (hb hby at_42) rfl rfl (l' := #[.val (.int p1), .val (.int p2), .val (.int p3), .val (.int p4), .val (.int p5), .val (.int (3 : Int32)), .val (.int (3 : Int32)), .val (.ref s164), .val (.ref s165), .val (.ref b166), .unset]) rfl k) ?_
    refine own_st (V := T167.setTop (mkF m 46 #[.val (.int p1), .val (.int p2), .val (.int p3), .val (.int p4), .val (.int p5), .val (.int (3 : Int32)), .val (.int (3 : Int32)), .val (.ref s164), .val (.ref s165), .val (.ref b166), .unset] [(.int (3 : Int32))])) (fun t k => XS.iload X167.here hx rfl (hb hby at_44) rfl k) ?_
    refine own_st (V := T167.setTop (mkF m 54 #[.val (.int p1), .val (.int p2), .val (.int p3), .val (.int p4), .val (.int p5), .val (.int (3 : Int32)), .val (.int (3 : Int32)), .val (.ref s164), .val (.ref s165), .val (.ref b166), .unset] [])) (fun t k => XS.ifYes X167.here hx rfl (pc0 := 46) (pc' := 54) rfl (hb hby at_46) rfl ((if0 _ _).trans (feq (by decide : ¬ ((3 : Int32) = (0 : Int32)))).2) (by decide) (by decide) k) ?_
    refine own_st (V := T167.setTop (mkF m 55 #[.val (.int p1), .val (.int p2), .val (.int p3), .val (.int p4), .val (.int p5), .val (.int (3 : Int32)), .val (.int (3 : Int32)), .val (.ref s164), .val (.ref s165), .val (.ref b166), .unset] [(.int (1 : Int32))])) (fun t k => XS.iconst X167.here hx rfl (hb hby at_54) k) ?_
    refine own_st (V := T167.setTop (mkF m 59 #[.val (.int p1), .val (.int p2), .val (.int p3), .val (.int p4), .val (.int p5), .val (.int (3 : Int32)), .val (.int (3 : Int32)), .val (.ref s164), .val (.ref s165), .val (.ref b166), .unset] [(.int (1 : Int32))])) (fun t k => XS.goto X167.here hx rfl (pc0 := 55) (pc' := 59) rfl (hb hby at_55) (by decide) (by decide) k) ?_
    refine own_st (V := T167.setTop (mkF m 61 #[.val (.int p1), .val (.int p2), .val (.int p3), .val (.int p4), .val (.int p5), .val (.int (3 : Int32)), .val (.int (3 : Int32)), .val (.ref s164), .val (.ref s165), .val (.ref b166), .val (.int (1 : Int32))] [])) (fun t k => XS.istore X167.here hx rfl (hb hby at_59) rfl (l' := #[.val (.int p1), .val (.int p2), .val (.int p3), .val (.int p4), .val (.int p5), .val (.int (3 : Int32)), .val (.int (3 : Int32)), .val (.ref s164), .val (.ref s165), .val (.ref b166), .val (.int (1 : Int32))]) rfl k) ?_
    refine own_st (V := T167.setTop (mkF m 63 #[.val (.int p1), .val (.int p2), .val (.int p3), .val (.int p4), .val (.int p5), .val (.int (3 : Int32)), .val (.int (3 : Int32)), .val (.ref s164), .val (.ref s165), .val (.ref b166), .val (.int (1 : Int32))] [(.ref b166)])) (fun t k => XS.aload X167.here hx rfl (hb hby at_61) rfl rfl k) ?_
    obtain ⟨cq168, kq168, q168a, q168b, q168c⟩ := isOf hZ rfl Ex167_q
    obtain ⟨_, _, ⟨T168, L168, k168, n168⟩, -, X168, ⟨Lc168, hQ168, l168, y168, z168⟩, st168⟩ := X167.virtualBack hx (y := (⟨"com/example/tempora/tempora/core/Issue", "isGiven", "()Z"⟩ : MethodName)) (z := (⟨"com/example/tempora/tempora/core/Issue", "isGiven", "()Z"⟩ : MethodName)) hown (mvT hZ (hw _ (List.mem_of_getElem? (i := 42) rfl))) (mvT hZ (hw _ (List.mem_of_getElem? (i := 43) rfl))) (notFace_of_selects (args := #[]) (mvT hZ (hw _ (List.mem_of_getElem? (i := 45) rfl)))) (mvT hZ (hw _ (List.mem_of_getElem? (i := 45) rfl))) (mvT hZ (hw _ (List.mem_of_getElem? (i := 44) rfl))) (by decide) (backOf (W := 0) (own_ig22 l Z a0 hw [] b166 s164 s165 t164 t165 kt164 kt165 vst164 vst165 T167.heap n0 Z0_167 Fq167_0 Fq167_1 Ex167_s164 Ex167_s165 F167_s164_value F167_s165_value V167_t164 V167_t165) hZ (hw _ (List.mem_of_getElem? (i := 46) rfl)) (hw _ (List.mem_of_getElem? (i := 28) rfl)) (by decide) (by decide)) q168a q168c (g := (mkF m 63 #[.val (.int p1), .val (.int p2), .val (.int p3), .val (.int p4), .val (.int p5), .val (.int (3 : Int32)), .val (.int (3 : Int32)), .val (.ref s164), .val (.ref s165), .val (.ref b166), .val (.int (1 : Int32))] [(.ref b166)])) rfl (by rw [hml]; rfl) (Steps.refl _) (argsL := []) (rest := []) (lenOf own_pd6 rfl) rfl (by show 2 * 0 + _ ≤ _; exact Nat.le_of_eq rfl) (hb hby at_63) (fun _ _ => ⟨rfl, rfl, (by decide : 7 + 0 ≤ _), (by decide : 18 + 0 ≤ _)⟩)
    dsimp only [Pt.U, Pt.locs, Pt.cells, Pt.slots] at X168 l168 y168 z168 st168 hQ168
    subst l168 y168 z168
    obtain ⟨rfl, N168q, e168⟩ := hQ168
    have N168 := Fr.app N167 N168q
    refine own_st (V := T168.setTop (mkF m 66 #[.val (.int p1), .val (.int p2), .val (.int p3), .val (.int p4), .val (.int p5), .val (.int (3 : Int32)), .val (.int (3 : Int32)), .val (.ref s164), .val (.ref s165), .val (.ref b166), .val (.int (1 : Int32))] [(.int (1 : Int32))])) (fun t k => st168.trans k) ?_
    refine own_st (V := T168.setTop (mkF m 68 #[.val (.int p1), .val (.int p2), .val (.int p3), .val (.int p4), .val (.int p5), .val (.int (3 : Int32)), .val (.int (3 : Int32)), .val (.ref s164), .val (.ref s165), .val (.ref b166), .val (.int (1 : Int32))] [(.int (1 : Int32)), (.int (1 : Int32))])) (fun t k => XS.iload X168.here hx rfl (hb hby at_66) rfl k) ?_
    refine own_st (V := T168.setTop (mkF m 71 #[.val (.int p1), .val (.int p2), .val (.int p3), .val (.int p4), .val (.int p5), .val (.int (3 : Int32)), .val (.int (3 : Int32)), .val (.ref s164), .val (.ref s165), .val (.ref b166), .val (.int (1 : Int32))] [])) (fun t k => XS.icmpNo X168.here hx rfl (hb hby at_68) rfl (teq (by decide : (1 : Int32) = (1 : Int32))).2 k) ?_
    refine own_st (V := T168.setTop (mkF m 72 #[.val (.int p1), .val (.int p2), .val (.int p3), .val (.int p4), .val (.int p5), .val (.int (3 : Int32)), .val (.int (3 : Int32)), .val (.ref s164), .val (.ref s165), .val (.ref b166), .val (.int (1 : Int32))] [(.int (1 : Int32))])) (fun t k => XS.iconst X168.here hx rfl (hb hby at_71) k) ?_
    refine own_st (V := T168.setTop (mkF m 76 #[.val (.int p1), .val (.int p2), .val (.int p3), .val (.int p4), .val (.int p5), .val (.int (3 : Int32)), .val (.int (3 : Int32)), .val (.ref s164), .val (.ref s165), .val (.ref b166), .val (.int (1 : Int32))] [(.int (1 : Int32))])) (fun t k => XS.goto X168.here hx rfl (pc0 := 72) (pc' := 76) rfl (hb hby at_72) (by decide) (by decide) k) ?_
    exact own_retW (s := s) hSi (by rw [e168]; exact kz_167) X168 hx hlk Bd.returns (by decide +kernel) (Or.inl ⟨rfl, by simp, _, rfl⟩) (hb hby at_76) (by decide) (by decide) ⟨rfl, N168⟩
theorem own_law (l : Launch) (Z : State) (a0 : Array Value) (hw : ∀ d ∈ tables_1, d.before a0 Z = true) (ws : List Jvm.Cond) (p1 p2 p3 p4 p5 cs : Int32) (h0 : Heap) (n0 : Nat) (Z0 : n0 ≤ h0.size) (Od : Old Z n0 h0) (SC : Sta Z Z.heap "java/lang/String" "COMPACT_STRINGS" "Z" (.int cs)) (hcs : ¬ (cs = (0 : Int32))) :
    MetFree l x (head1 (Jvm.Cond.code x code maxLocals ret :: ws) room_1) (fun a U => a = #[(.int p1), (.int p2), (.int p3), (.int p4), (.int p5)] ∧ Z.Warmed39 U.vm ∧ U.heap = h0 ∧ CHv Z own_EL U.vm h0) (fun _ _ _ _ _ => True) (fun _ U o U' => ∃ v L, o = .returned v ∧ own_Q0 Z p1 p2 p3 p4 p5 cs h0 n0 v U'.heap L ∧ ReturnedEndW U o U' L room_1.cells room_1.slots) := by
  rcases own_c p1 with h | h | h | h
  · exact own_law0 l Z a0 hw ws p1 p2 p3 p4 p5 cs h0 n0 Z0 Od SC hcs h
  · exact own_law1 l Z a0 hw ws p1 p2 p3 p4 p5 cs h0 n0 Z0 Od SC hcs h
  · exact own_law2 l Z a0 hw ws p1 p2 p3 p4 p5 cs h0 n0 Z0 Od SC hcs h
  · exact own_law3 l Z a0 hw ws p1 p2 p3 p4 p5 cs h0 n0 Z0 Od SC hcs h
theorem own_nz {Z : State} {args : Array Value} {t : Jvm.Term} {x : Int32} (ev : t.eval args Z none [] Z = some (.int x)) (h : (Jvm.Cond.not (.eq t (.int (0 : Int32)))).value args Z none Z [] = some true) : ¬ (x = (0 : Int32)) := by
  have q := not_v h
  intro e
  simp [Cond.value, Term.eval, ev, e] at q
set_option maxRecDepth 65536 in
set_option maxHeartbeats 40000000 in
theorem comes_1 {Post : Tables → Env → Array Value → State → Outcome → State → Prop} (hpost : ∀ tb e args s v u, (limb_1_1.after args s (.returned v) u = true ∧ limb_1_2.after args s (.returned v) u = true ∧ True) → ReturnedEndW s (.returned v) u (Jvm.fieldLocs frame_1_writes args s ++ Jvm.arrayLocs frame_1_arrays args s ++ Jvm.staticLocs frame_1_statics s) 24 1152 → Post tb e args s (.returned v) u) :
    ArmFor flags0 classFile x code maxLocals ret World_1 tables_1 room_1 Calls_1 rest_1 Pre_1 Post := by
  intro l hfl _ _ p e ha hc hk s m args below hf hA hF happ hP
  obtain ⟨hcalls, hrest, hpre⟩ := hP
  obtain ⟨-, -, -, hnamed, -, -, -, hat⟩ := (Spec.applies_iff hf).mp happ
  obtain ⟨hg, hn⟩ := and_e (Cond.before_iff.mp (show (Jvm.Cond.and given_1 narrow_1).before args s = true from hpre))
  obtain ⟨g0, g1⟩ := and_e hg
  obtain ⟨ga0, gr0⟩ := and_e g1
  obtain ⟨ga1, gr1⟩ := and_e gr0
  obtain ⟨ga2, gr2⟩ := and_e gr1
  obtain ⟨ga3, gr3⟩ := and_e gr2
  obtain ⟨w0, w1, w2, w3, w4, rfl⟩ : ∃ w0 w1 w2 w3 w4 : Value, args = #[w0, w1, w2, w3, w4] := by
    have hs : args.size = 5 := by simpa [Cond.value, given_1] using g0
    obtain ⟨L⟩ := args
    match L, hs with
    | [w0, w1, w2, w3, w4], _ => exact ⟨w0, w1, w2, w3, w4, rfl⟩
  have hw := fun d (hd : d ∈ tables_1) => atoms_spec (ws := Jvm.Cond.code x code maxLocals ret :: tables_1) hat d (List.mem_cons_of_mem _ hd)
  have hfit : Fit s := fun {y c} hc i hi => by
    obtain ⟨ha, rfl⟩ := Array.getElem?_eq_some_iff.mp hc
    have q := List.all_eq_true.mp ((Array.all_eq_true_iff_forall_mem.mp hF) _ (Array.getElem_mem ha)) i (List.mem_range.mpr hi)
    simpa [Array.getElem?_eq_getElem hi] using q
  obtain ⟨hsets, hown0⟩ := atoms_of _ (rest_1_c_eq ▸ (show rest_1_c.before _ s = true from hrest))
  obtain ⟨i0, ei0⟩ := is_v ga0
  obtain rfl : w0 = (.int i0) := Option.some.inj ei0
  obtain ⟨i1, ei1⟩ := is_v ga1
  obtain rfl : w1 = (.int i1) := Option.some.inj ei1
  obtain ⟨i2, ei2⟩ := is_v ga2
  obtain rfl : w2 = (.int i2) := Option.some.inj ei2
  obtain ⟨i3, ei3⟩ := is_v ga3
  obtain rfl : w3 = (.int i3) := Option.some.inj ei3
  obtain ⟨i4, ei4⟩ := is_v gr3
  obtain rfl : w4 = (.int i4) := Option.some.inj ei4
  obtain ⟨cs, ecs⟩ := is_v (Cond.before_iff.mp (hsets _ (List.mem_of_getElem? (i := 1) rfl)))
  have SC := Sta.start ecs (Or.inl (hsets _ (List.mem_of_getElem? (i := 0) rfl)))
  have hcs : ¬ (cs = (0 : Int32)) := own_nz ecs (Cond.before_iff.mp (hsets _ (List.mem_of_getElem? (i := 2) rfl)))
  have hC : CHv s own_EL s.vm s.heap := CHv.start (own_ew hw) (fun p hp => hcalls.1 p hp) (hsets _ (List.mem_of_getElem? (i := 2) rfl)) (hw _ (List.mem_of_getElem? (i := 19) rfl)) (hw _ (List.mem_of_getElem? (i := 5) rfl))
  obtain ⟨n, o, h1, h2, h3, _, L, rfl, ⟨rfl, N⟩, hq⟩ := own_law l s _ hw tables_1 i0 i1 i2 i3 i4 cs s.heap s.heap.size (Nat.le_refl _) (Old.start s) SC hcs p e ha hc hk s m _ below hf ((Spec.applies_iff_loose hf).mp happ).1 ⟨rfl, State.Warmed39.refl s, rfl, hC⟩ trivial
  refine ⟨n, _, h1, h2, h3, hpost _ _ _ _ _ _ ⟨Cond.after_iff.mpr rfl, Cond.after_iff.mpr (eq_i res_at (Term.int_eval (1)) rfl), trivial⟩ ⟨hq.1, hq.2.1, hq.2.2.1, (hq.2.2.2.sift fun y hy => Or.inr (N y hy)).mono (by decide) (by decide)⟩⟩
theorem main_1_1 : Claimed_1_1 := comes_1 fun _ _ _ _ _ _ h hF => ⟨h.1, hF⟩
theorem main_1_2 : Claimed_1_2 := comes_1 fun _ _ _ _ _ _ h hF => ⟨h.2.1, hF⟩
end Jvm.Pilot.@@N@@
namespace Jvm.Pilot.@@N@@
open Jvm Jvm.ClassFile Sem Op Lib Jvm.Free Jvm.Stand Jvm.Pilot.@@N@@.Jvm.D
/-! MADE BY PROGRAM (witnessworld.py) out of the Statement's table words and the real class files: 21 classes; the members and pool entries that the words name. The judged class is class 1, her method 2. -/
namespace start1
open Jvm.ClassFile
def u (s : String) : CpInfo := .utf8 (stringToUtf16 s)
/-- a pool by its gaps: so many unusable entries, then the entry; so many at the end -/
def gap : Nat → List CpInfo → List CpInfo
  | 0, r => r
  | n + 1, r => .unusable :: gap n r
def poolList (es : List (Nat × CpInfo)) (last : Nat) : List CpInfo := es.foldr (fun e r => gap e.1 (e.2 :: r)) (gap last [])
def pool (es : List (Nat × CpInfo)) (last : Nat) : Array CpInfo := ⟨poolList es last⟩
def fileOf (pool : Array CpInfo) (this : Nat) (attrs : Array Attribute := #[]) (ms : Array MethodInfo := #[]) (fl : Nat := 33) (sup : Nat := 0) (ifs : Array Nat := #[]) (fds : Array FieldInfo := #[]) : ClassFile where
  minorVersion := 0
  majorVersion := 65
  constantPool := pool
  accessFlags := fl
  thisClass := this
  superClass := sup
  interfaces := ifs
  fields := fds
  methods := ms
  attributes := attrs
def plain (name : String) (sup : Option ClassId) : Class where
  name := name
  kind := .ordinary
  loader := none
  accessFlags := 33
  super := sup
  interfaces := #[]
  cf := none
  fields := #[]
  methods := #[]
  instanceTypes := #[]
  staticTypes := #[]
  resolved := #[]
  callSites := []
  init := .initialized
  statics := none
  mirror := none

def pool0 : Array CpInfo := pool [(5, u "<init>"), (0, u "()V"), (1, .class_ 10), (1, u "java/lang/Object")] 113

def k0c0 : Code := { maxStack := 0, maxLocals := 1, code := object_method_1_code, exceptionTable := #[], attributes := #[] }
def k0m0 : Method := { name := "<init>", desc := "()V", sig := { parameters := [], returnType := none }, accessFlags := 1, code := some k0c0 }
/-- java/lang/Object -/
def k0 : Class := { plain "java/lang/Object" none with
  accessFlags := 33
  interfaces := #[]
  cf := some (fileOf pool0 8 #[] #[{ accessFlags := 1, nameIndex := 5, descriptorIndex := 6, attributes := #[] }] 33 0 #[] #[])
  fields := #[]
  methods := #[k0m0]
  instanceTypes := #[]
  staticTypes := #[]
  resolved := Array.replicate 124 none
  statics := none }

def pool1 : Array CpInfo := pool [(2, .class_ 4), (1, u "java/lang/Object"), (0, u "<init>"), (0, u "()V"), (0, .class_ 8), (0, u "java/lang/String"), (0, .methodref 7 10), (0, .nameAndType 5 11), (0, u "([C)V"), (0, .methodref 13 14), (0, .class_ 15), (0, .nameAndType 16 17), (0, u "com/example/tempora/tempora/core/IssueIsGivenPinLaw"), (0, u "str"), (0, u "(III)Ljava/lang/String;"), (0, .class_ 19), (0, u "com/example/tempora/tempora/core/Issue"), (0, .methodref 18 21), (0, .nameAndType 5 22), (0, u "(Ljava/lang/String;Ljava/lang/String;)V"), (0, .methodref 18 24), (0, .nameAndType 25 26), (0, u "isGiven"), (0, u "()Z"), (3, u "law"), (0, u "(IIIII)Z")] 2

def k1m0 : Method := { name := "<init>", desc := "()V", sig := { parameters := [], returnType := none }, accessFlags := 2, code := none }
def k1c1 : Code := { maxStack := 4, maxLocals := 4, code := method_2_code, exceptionTable := #[], attributes := #[] }
def k1m1 : Method := { name := "str", desc := "(III)Ljava/lang/String;", sig := { parameters := [.int, .int, .int], returnType := some (.object "java/lang/String") }, accessFlags := 10, code := some k1c1 }
def k1c2 : Code := { maxStack := 4, maxLocals := 11, code := code, exceptionTable := #[], attributes := #[] }
def k1m2 : Method := { name := "law", desc := "(IIIII)Z", sig := { parameters := [.int, .int, .int, .int, .int], returnType := some .boolean }, accessFlags := 9, code := some k1c2 }
/-- com/example/tempora/tempora/core/IssueIsGivenPinLaw -/
def k1 : Class := { plain "com/example/tempora/tempora/core/IssueIsGivenPinLaw" (some 0) with
  accessFlags := 49
  interfaces := #[]
  cf := some (fileOf pool1 13 #[] #[{ accessFlags := 2, nameIndex := 5, descriptorIndex := 6, attributes := #[] }, { accessFlags := 10, nameIndex := 16, descriptorIndex := 17, attributes := #[] }, { accessFlags := 9, nameIndex := 30, descriptorIndex := 31, attributes := #[] }] 49 2 #[] #[])
  fields := #[]
  methods := #[k1m0, k1m1, k1m2]
  instanceTypes := #[]
  staticTypes := #[]
  resolved := Array.replicate 34 none
  statics := none }

def pool2 : Array CpInfo := pool [(1, .class_ 2), (0, u "java/io/Serializable"), (0, .class_ 4), (0, u "java/lang/Object")] 2

/-- java/io/Serializable -/
def k2 : Class := { plain "java/io/Serializable" (some 0) with
  accessFlags := 1537
  interfaces := #[]
  cf := some (fileOf pool2 1 #[] #[] 1537 3 #[] #[])
  fields := #[]
  methods := #[]
  instanceTypes := #[]
  staticTypes := #[]
  resolved := Array.replicate 7 none
  statics := none }

def pool3 : Array CpInfo := pool [(1, .class_ 2), (0, u "java/lang/Comparable"), (0, .class_ 4), (0, u "java/lang/Object")] 7

/-- java/lang/Comparable -/
def k3 : Class := { plain "java/lang/Comparable" (some 0) with
  accessFlags := 1537
  interfaces := #[]
  cf := some (fileOf pool3 1 #[] #[] 1537 3 #[] #[])
  fields := #[]
  methods := #[]
  instanceTypes := #[]
  staticTypes := #[]
  resolved := Array.replicate 12 none
  statics := none }

def pool4 : Array CpInfo := pool [(2, .class_ 4), (1, u "java/lang/CharSequence"), (42, .class_ 48), (0, u "java/lang/CharSequence$1CodePointIterator"), (10, .class_ 60), (0, u "java/lang/CharSequence$1CharIterator"), (5, .class_ 67), (0, u "java/lang/Object")] 63

/-- java/lang/CharSequence -/
def k4 : Class := { plain "java/lang/CharSequence" (some 0) with
  accessFlags := 1537
  interfaces := #[]
  cf := some (fileOf pool4 2 #[.nestMembers #[47, 59]] #[] 1537 66 #[] #[])
  fields := #[]
  methods := #[]
  instanceTypes := #[]
  staticTypes := #[]
  resolved := Array.replicate 131 none
  statics := none }

def pool5 : Array CpInfo := pool [(1, .class_ 2), (0, u "java/lang/constant/Constable"), (0, .class_ 4), (0, u "java/lang/Object")] 6

/-- java/lang/constant/Constable -/
def k5 : Class := { plain "java/lang/constant/Constable" (some 0) with
  accessFlags := 1537
  interfaces := #[]
  cf := some (fileOf pool5 1 #[] #[] 1537 3 #[] #[])
  fields := #[]
  methods := #[]
  instanceTypes := #[]
  staticTypes := #[]
  resolved := Array.replicate 11 none
  statics := none }

def pool6 : Array CpInfo := pool [(1, .class_ 2), (0, u "java/lang/constant/ConstantDesc"), (0, .class_ 4), (0, u "java/lang/Object")] 32

/-- java/lang/constant/ConstantDesc -/
def k6 : Class := { plain "java/lang/constant/ConstantDesc" (some 0) with
  accessFlags := 1537
  interfaces := #[]
  cf := some (fileOf pool6 1 #[] #[] 1537 3 #[] #[])
  fields := #[]
  methods := #[]
  instanceTypes := #[]
  staticTypes := #[]
  resolved := Array.replicate 37 none
  statics := none }

def pool7 : Array CpInfo := pool [(1, .methodref 2 3), (0, .class_ 4), (0, .nameAndType 5 6), (0, u "java/lang/Object"), (0, u "<init>"), (0, u "()V"), (0, .string 8), (0, u ""), (0, .fieldref 10 11), (0, .class_ 12), (0, .nameAndType 13 14), (0, u "java/lang/String"), (0, u "value"), (0, u "[B"), (0, .fieldref 10 16), (0, .nameAndType 17 18), (0, u "coder"), (0, u "B"), (2, u "hash"), (0, u "I"), (2, u "hashIsZero"), (0, u "Z"), (0, .methodref 10 28), (0, .nameAndType 5 29), (0, u "([CIILjava/lang/Void;)V"), (8, .fieldref 10 39), (0, .nameAndType 40 26), (0, u "COMPACT_STRINGS"), (1, .class_ 44), (1, u "java/lang/StringUTF16"), (0, u "compress"), (1, .methodref 42 48), (0, .nameAndType 49 50), (0, u "coderFromArrayLen"), (0, u "([BI)B"), (91, u "()Z"), (34, .methodref 42 178), (0, .nameAndType 45 179), (0, u "([CII)[B"), (395, .class_ 576), (0, u "java/lang/CharSequence"), (22, u "CASE_INSENSITIVE_ORDER"), (0, u "Ljava/util/Comparator;"), (91, u "isEmpty"), (317, u "([C)V"), (90, u "serialPersistentFields"), (0, u "[Ljava/io/ObjectStreamField;"), (0, .class_ 1104), (0, u "java/lang/String$CaseInsensitiveComparator"), (1, .class_ 1107), (0, u "java/io/Serializable"), (0, .class_ 1109), (0, u "java/lang/Comparable"), (0, .class_ 1111), (0, u "java/lang/constant/Constable"), (0, .class_ 1113), (0, u "java/lang/constant/ConstantDesc"), (2, u "serialVersionUID"), (0, u "J"), (3, u "REPL"), (0, u "C"), (2, u "LATIN1"), (1, u "UTF16")] 323

def k7m0 : Method := { name := "<init>", desc := "()V", sig := { parameters := [], returnType := none }, accessFlags := 1, code := none }
def k7c1 : Code := { maxStack := 5, maxLocals := 2, code := jdk_42_method_3_code, exceptionTable := #[], attributes := #[] }
def k7m1 : Method := { name := "<init>", desc := "([C)V", sig := { parameters := [(.array .char)], returnType := none }, accessFlags := 1, code := some k7c1 }
def k7c2 : Code := { maxStack := 1, maxLocals := 1, code := jdk_42_method_55_code, exceptionTable := #[], attributes := #[] }
def k7m2 : Method := { name := "isEmpty", desc := "()Z", sig := { parameters := [], returnType := some .boolean }, accessFlags := 1, code := some k7c2 }
def k7c3 : Code := { maxStack := 4, maxLocals := 6, code := jdk_42_method_149_code, exceptionTable := #[], attributes := #[] }
def k7m3 : Method := { name := "<init>", desc := "([CIILjava/lang/Void;)V", sig := { parameters := [(.array .char), .int, .int, (.object "java/lang/Void")], returnType := none }, accessFlags := 2, code := some k7c3 }
/-- java/lang/String -/
def k7 : Class := { plain "java/lang/String" (some 0) with
  accessFlags := 49
  interfaces := #[2, 3, 4, 5, 6]
  cf := some (fileOf pool7 10 #[.nestMembers #[1103]] #[{ accessFlags := 1, nameIndex := 5, descriptorIndex := 6, attributes := #[] }, { accessFlags := 1, nameIndex := 5, descriptorIndex := 1010, attributes := #[] }, { accessFlags := 1, nameIndex := 692, descriptorIndex := 142, attributes := #[] }, { accessFlags := 2, nameIndex := 5, descriptorIndex := 29, attributes := #[] }] 49 2 #[1106, 1108, 575, 1110, 1112] #[{ accessFlags := 18, nameIndex := 13, descriptorIndex := 14, attributes := #[] }, { accessFlags := 18, nameIndex := 17, descriptorIndex := 18, attributes := #[] }, { accessFlags := 2, nameIndex := 21, descriptorIndex := 22, attributes := #[] }, { accessFlags := 2, nameIndex := 25, descriptorIndex := 26, attributes := #[] }, { accessFlags := 26, nameIndex := 1116, descriptorIndex := 1117, attributes := #[] }, { accessFlags := 24, nameIndex := 40, descriptorIndex := 26, attributes := #[] }, { accessFlags := 26, nameIndex := 1101, descriptorIndex := 1102, attributes := #[] }, { accessFlags := 26, nameIndex := 1121, descriptorIndex := 1122, attributes := #[] }, { accessFlags := 25, nameIndex := 599, descriptorIndex := 600, attributes := #[] }, { accessFlags := 24, nameIndex := 1125, descriptorIndex := 18, attributes := #[] }, { accessFlags := 24, nameIndex := 1127, descriptorIndex := 18, attributes := #[] }])
  fields := #[{ name := "value", type := (.array .byte), accessFlags := 18, slot := 0, constantValue := 0 }, { name := "coder", type := .byte, accessFlags := 18, slot := 1, constantValue := 0 }, { name := "hash", type := .int, accessFlags := 2, slot := 2, constantValue := 0 }, { name := "hashIsZero", type := .boolean, accessFlags := 2, slot := 3, constantValue := 0 }, { name := "serialVersionUID", type := .long, accessFlags := 26, slot := 0, constantValue := 0 }, { name := "COMPACT_STRINGS", type := .boolean, accessFlags := 24, slot := 1, constantValue := 0 }, { name := "serialPersistentFields", type := (.array (.object "java/io/ObjectStreamField")), accessFlags := 26, slot := 2, constantValue := 0 }, { name := "REPL", type := .char, accessFlags := 26, slot := 3, constantValue := 0 }, { name := "CASE_INSENSITIVE_ORDER", type := (.object "java/util/Comparator"), accessFlags := 25, slot := 4, constantValue := 0 }, { name := "LATIN1", type := .byte, accessFlags := 24, slot := 5, constantValue := 0 }, { name := "UTF16", type := .byte, accessFlags := 24, slot := 6, constantValue := 0 }]
  methods := #[k7m0, k7m1, k7m2, k7m3]
  instanceTypes := #[(.array .byte), .byte, .int, .boolean]
  staticTypes := #[.long, .boolean, (.array (.object "java/io/ObjectStreamField")), .char, (.object "java/util/Comparator"), .byte, .byte]
  resolved := Array.replicate 1451 none
  statics := some 0 }

def pool8 : Array CpInfo := pool [(1, .methodref 2 3), (0, .class_ 4), (0, .nameAndType 5 6), (0, u "java/lang/Object"), (0, u "<init>"), (0, u "()V"), (0, .class_ 8), (0, u "java/lang/Record")] 13

def k8c0 : Code := { maxStack := 1, maxLocals := 1, code := jdk_30_method_1_code, exceptionTable := #[], attributes := #[] }
def k8m0 : Method := { name := "<init>", desc := "()V", sig := { parameters := [], returnType := none }, accessFlags := 4, code := some k8c0 }
/-- java/lang/Record -/
def k8 : Class := { plain "java/lang/Record" (some 0) with
  accessFlags := 1057
  interfaces := #[]
  cf := some (fileOf pool8 7 #[] #[{ accessFlags := 4, nameIndex := 5, descriptorIndex := 6, attributes := #[] }] 1057 2 #[] #[])
  fields := #[]
  methods := #[k8m0]
  instanceTypes := #[]
  staticTypes := #[]
  resolved := Array.replicate 22 none
  statics := none }

def pool9 : Array CpInfo := pool [(1, .methodref 2 3), (0, .class_ 4), (0, .nameAndType 5 6), (0, u "java/lang/Record"), (0, u "<init>"), (0, u "()V"), (0, .fieldref 8 9), (0, .class_ 10), (0, .nameAndType 11 12), (0, u "com/example/tempora/tempora/core/Issue"), (0, u "designation"), (0, u "Ljava/lang/String;"), (0, .fieldref 8 14), (0, .nameAndType 15 12), (0, u "date"), (0, .methodref 17 18), (0, .class_ 19), (0, .nameAndType 20 21), (0, u "java/lang/String"), (0, u "isEmpty"), (0, u "()Z"), (22, u "(Ljava/lang/String;Ljava/lang/String;)V"), (2, u "NONE"), (0, u "Lcom/example/tempora/tempora/core/Issue;"), (3, u "isGiven")] 30

def k9c0 : Code := { maxStack := 2, maxLocals := 3, code := prog_18_method_1_code, exceptionTable := #[], attributes := #[] }
def k9m0 : Method := { name := "<init>", desc := "(Ljava/lang/String;Ljava/lang/String;)V", sig := { parameters := [(.object "java/lang/String"), (.object "java/lang/String")], returnType := none }, accessFlags := 1, code := some k9c0 }
def k9c1 : Code := { maxStack := 1, maxLocals := 1, code := prog_18_method_2_code, exceptionTable := #[], attributes := #[] }
def k9m1 : Method := { name := "isGiven", desc := "()Z", sig := { parameters := [], returnType := some .boolean }, accessFlags := 1, code := some k9c1 }
/-- com/example/tempora/tempora/core/Issue -/
def k9 : Class := { plain "com/example/tempora/tempora/core/Issue" (some 8) with
  accessFlags := 49
  interfaces := #[]
  cf := some (fileOf pool9 8 #[] #[{ accessFlags := 1, nameIndex := 5, descriptorIndex := 44, attributes := #[] }, { accessFlags := 1, nameIndex := 52, descriptorIndex := 21, attributes := #[] }] 49 2 #[] #[{ accessFlags := 18, nameIndex := 11, descriptorIndex := 12, attributes := #[] }, { accessFlags := 18, nameIndex := 15, descriptorIndex := 12, attributes := #[] }, { accessFlags := 25, nameIndex := 47, descriptorIndex := 48, attributes := #[] }])
  fields := #[{ name := "designation", type := (.object "java/lang/String"), accessFlags := 18, slot := 0, constantValue := 0 }, { name := "date", type := (.object "java/lang/String"), accessFlags := 18, slot := 1, constantValue := 0 }, { name := "NONE", type := (.object "com/example/tempora/tempora/core/Issue"), accessFlags := 25, slot := 0, constantValue := 0 }]
  methods := #[k9m0, k9m1]
  instanceTypes := #[(.object "java/lang/String"), (.object "java/lang/String")]
  staticTypes := #[(.object "com/example/tempora/tempora/core/Issue")]
  resolved := Array.replicate 83 none
  statics := none }

def pool10 : Array CpInfo := pool [(6, .class_ 8), (1, u "java/lang/Object"), (0, u "<init>"), (0, u "()V"), (1, .class_ 14), (1, u "java/lang/StringUTF16"), (31, u "$assertionsDisabled"), (0, u "Z"), (13, u "HI_BYTE_SHIFT"), (0, u "I"), (2, u "LO_BYTE_SHIFT"), (49, .methodref 12 116), (0, .nameAndType 117 118), (0, u "compress"), (0, u "([CI[BII)I"), (3, u "([CII)[B"), (138, u "coderFromArrayLen"), (0, u "([BI)B"), (106, .class_ 371), (1, u "java/lang/StringUTF16$LinesSpliterator"), (58, u "MAX_LENGTH"), (196, .class_ 628), (0, u "java/lang/StringUTF16$CodePointsSpliterator"), (0, .class_ 630), (0, u "java/lang/StringUTF16$CharsSpliterator")] 4

def k10m0 : Method := { name := "<init>", desc := "()V", sig := { parameters := [], returnType := none }, accessFlags := 0, code := none }
def k10c1 : Code := { maxStack := 2, maxLocals := 2, code := jdk_52_method_15_code, exceptionTable := #[], attributes := #[] }
def k10m1 : Method := { name := "coderFromArrayLen", desc := "([BI)B", sig := { parameters := [(.array .byte), .int], returnType := some .byte }, accessFlags := 8, code := some k10c1 }
def k10c2 : Code := { maxStack := 5, maxLocals := 6, code := jdk_52_method_16_code, exceptionTable := #[], attributes := #[] }
def k10m2 : Method := { name := "compress", desc := "([CII)[B", sig := { parameters := [(.array .char), .int, .int], returnType := some (.array .byte) }, accessFlags := 9, code := some k10c2 }
def k10c3 : Code := { maxStack := 3, maxLocals := 7, code := jdk_52_method_21_code, exceptionTable := #[], attributes := #[] }
def k10m3 : Method := { name := "compress", desc := "([CI[BII)I", sig := { parameters := [(.array .char), .int, (.array .byte), .int, .int], returnType := some .int }, accessFlags := 9, code := some k10c3 }
/-- java/lang/StringUTF16 -/
def k10 : Class := { plain "java/lang/StringUTF16" (some 0) with
  accessFlags := 48
  interfaces := #[]
  cf := some (fileOf pool10 12 #[.nestMembers #[627, 629, 369]] #[{ accessFlags := 0, nameIndex := 9, descriptorIndex := 10, attributes := #[] }, { accessFlags := 8, nameIndex := 261, descriptorIndex := 262, attributes := #[] }, { accessFlags := 9, nameIndex := 117, descriptorIndex := 122, attributes := #[] }, { accessFlags := 9, nameIndex := 117, descriptorIndex := 118, attributes := #[] }] 48 6 #[] #[{ accessFlags := 26, nameIndex := 61, descriptorIndex := 62, attributes := #[] }, { accessFlags := 26, nameIndex := 65, descriptorIndex := 62, attributes := #[] }, { accessFlags := 24, nameIndex := 430, descriptorIndex := 62, attributes := #[] }, { accessFlags := 4120, nameIndex := 46, descriptorIndex := 47, attributes := #[] }])
  fields := #[{ name := "HI_BYTE_SHIFT", type := .int, accessFlags := 26, slot := 0, constantValue := 0 }, { name := "LO_BYTE_SHIFT", type := .int, accessFlags := 26, slot := 1, constantValue := 0 }, { name := "MAX_LENGTH", type := .int, accessFlags := 24, slot := 2, constantValue := 0 }, { name := "$assertionsDisabled", type := .boolean, accessFlags := 4120, slot := 3, constantValue := 0 }]
  methods := #[k10m0, k10m1, k10m2, k10m3]
  instanceTypes := #[]
  staticTypes := #[.int, .int, .int, .boolean]
  resolved := Array.replicate 635 none
  statics := none }

def pool11 : Array CpInfo := pool [(4, .class_ 6), (1, u "java/lang/Object"), (0, u "<init>"), (0, u "()V"), (5, .class_ 16), (1, u "java/lang/StringLatin1"), (104, u "$assertionsDisabled"), (0, u "Z"), (98, .class_ 223), (1, u "java/lang/StringLatin1$LinesSpliterator"), (166, .class_ 391), (0, u "java/lang/StringLatin1$CharsSpliterator")] 3

def k11m0 : Method := { name := "<init>", desc := "()V", sig := { parameters := [], returnType := none }, accessFlags := 0, code := none }
/-- java/lang/StringLatin1 -/
def k11 : Class := { plain "java/lang/StringLatin1" (some 0) with
  accessFlags := 48
  interfaces := #[]
  cf := some (fileOf pool11 14 #[.nestMembers #[390, 221]] #[{ accessFlags := 0, nameIndex := 7, descriptorIndex := 8, attributes := #[] }] 48 4 #[] #[{ accessFlags := 4120, nameIndex := 121, descriptorIndex := 122, attributes := #[] }])
  fields := #[{ name := "$assertionsDisabled", type := .boolean, accessFlags := 4120, slot := 0, constantValue := 0 }]
  methods := #[k11m0]
  instanceTypes := #[]
  staticTypes := #[.boolean]
  resolved := Array.replicate 395 none
  statics := none }

def pool12 : Array CpInfo := pool [(2, .class_ 4), (1, u "java/lang/Object"), (0, u "<init>"), (0, u "()V"), (17, .class_ 26), (1, u "jdk/internal/util/Preconditions"), (28, .class_ 56), (0, u "jdk/internal/util/Preconditions$4"), (57, .class_ 115), (0, u "jdk/internal/util/Preconditions$1"), (7, u "SIOOBE_FORMATTER"), (0, u "Ljava/util/function/BiFunction;"), (0, .class_ 126), (0, u "jdk/internal/util/Preconditions$2"), (3, u "AIOOBE_FORMATTER"), (0, .class_ 132), (0, u "jdk/internal/util/Preconditions$3"), (3, u "IOOBE_FORMATTER")] 57

def k12m0 : Method := { name := "<init>", desc := "()V", sig := { parameters := [], returnType := none }, accessFlags := 1, code := none }
/-- jdk/internal/util/Preconditions -/
def k12 : Class := { plain "jdk/internal/util/Preconditions" (some 0) with
  accessFlags := 33
  interfaces := #[]
  cf := some (fileOf pool12 24 #[.nestMembers #[55, 131, 125, 114]] #[{ accessFlags := 1, nameIndex := 5, descriptorIndex := 6, attributes := #[] }] 33 2 #[] #[{ accessFlags := 25, nameIndex := 123, descriptorIndex := 124, attributes := #[] }, { accessFlags := 25, nameIndex := 130, descriptorIndex := 124, attributes := #[] }, { accessFlags := 25, nameIndex := 136, descriptorIndex := 124, attributes := #[] }])
  fields := #[{ name := "SIOOBE_FORMATTER", type := (.object "java/util/function/BiFunction"), accessFlags := 25, slot := 0, constantValue := 0 }, { name := "AIOOBE_FORMATTER", type := (.object "java/util/function/BiFunction"), accessFlags := 25, slot := 1, constantValue := 0 }, { name := "IOOBE_FORMATTER", type := (.object "java/util/function/BiFunction"), accessFlags := 25, slot := 2, constantValue := 0 }]
  methods := #[k12m0]
  instanceTypes := #[]
  staticTypes := #[(.object "java/util/function/BiFunction"), (.object "java/util/function/BiFunction"), (.object "java/util/function/BiFunction")]
  resolved := Array.replicate 194 none
  statics := some 1 }

def pool13 : Array CpInfo := pool [(9, u "<init>"), (6, .class_ 18), (1, u "java/lang/Object"), (0, u "()V"), (1, .class_ 23), (1, u "jdk/internal/util/ArraysSupport"), (0, u "LOG2_ARRAY_LONG_INDEX_SCALE"), (0, u "I"), (2, u "U"), (0, u "Ljdk/internal/misc/Unsafe;"), (8, u "BIG_ENDIAN"), (0, u "Z"), (8, u "LOG2_BYTE_BIT_SIZE"), (4, u "LOG2_ARRAY_INT_INDEX_SCALE"), (54, u "JLA"), (0, u "Ljdk/internal/access/JavaLangAccess;"), (11, u "LOG2_ARRAY_BOOLEAN_INDEX_SCALE"), (9, u "LOG2_ARRAY_BYTE_INDEX_SCALE"), (5, u "LOG2_ARRAY_CHAR_INDEX_SCALE"), (5, u "LOG2_ARRAY_SHORT_INDEX_SCALE"), (18, u "LOG2_ARRAY_FLOAT_INDEX_SCALE"), (24, u "LOG2_ARRAY_DOUBLE_INDEX_SCALE"), (89, u "T_BOOLEAN"), (2, u "T_CHAR"), (1, u "T_FLOAT"), (1, u "T_DOUBLE"), (1, u "T_BYTE"), (1, u "T_SHORT"), (1, u "T_INT"), (1, u "T_LONG"), (1, u "SOFT_MAX_ARRAY_LENGTH")] 83

def k13m0 : Method := { name := "<init>", desc := "()V", sig := { parameters := [], returnType := none }, accessFlags := 2, code := none }
/-- jdk/internal/util/ArraysSupport -/
def k13 : Class := { plain "jdk/internal/util/ArraysSupport" (some 0) with
  accessFlags := 33
  interfaces := #[]
  cf := some (fileOf pool13 21 #[] #[{ accessFlags := 2, nameIndex := 9, descriptorIndex := 19, attributes := #[] }] 33 16 #[] #[{ accessFlags := 24, nameIndex := 28, descriptorIndex := 29, attributes := #[] }, { accessFlags := 26, nameIndex := 38, descriptorIndex := 39, attributes := #[] }, { accessFlags := 25, nameIndex := 121, descriptorIndex := 25, attributes := #[] }, { accessFlags := 25, nameIndex := 131, descriptorIndex := 25, attributes := #[] }, { accessFlags := 25, nameIndex := 137, descriptorIndex := 25, attributes := #[] }, { accessFlags := 25, nameIndex := 143, descriptorIndex := 25, attributes := #[] }, { accessFlags := 25, nameIndex := 53, descriptorIndex := 25, attributes := #[] }, { accessFlags := 25, nameIndex := 24, descriptorIndex := 25, attributes := #[] }, { accessFlags := 25, nameIndex := 162, descriptorIndex := 25, attributes := #[] }, { accessFlags := 25, nameIndex := 187, descriptorIndex := 25, attributes := #[] }, { accessFlags := 26, nameIndex := 48, descriptorIndex := 25, attributes := #[] }, { accessFlags := 25, nameIndex := 277, descriptorIndex := 25, attributes := #[] }, { accessFlags := 25, nameIndex := 280, descriptorIndex := 25, attributes := #[] }, { accessFlags := 25, nameIndex := 282, descriptorIndex := 25, attributes := #[] }, { accessFlags := 25, nameIndex := 284, descriptorIndex := 25, attributes := #[] }, { accessFlags := 25, nameIndex := 286, descriptorIndex := 25, attributes := #[] }, { accessFlags := 25, nameIndex := 288, descriptorIndex := 25, attributes := #[] }, { accessFlags := 25, nameIndex := 290, descriptorIndex := 25, attributes := #[] }, { accessFlags := 25, nameIndex := 292, descriptorIndex := 25, attributes := #[] }, { accessFlags := 26, nameIndex := 108, descriptorIndex := 109, attributes := #[] }, { accessFlags := 25, nameIndex := 294, descriptorIndex := 25, attributes := #[] }])
  fields := #[{ name := "U", type := (.object "jdk/internal/misc/Unsafe"), accessFlags := 24, slot := 0, constantValue := 0 }, { name := "BIG_ENDIAN", type := .boolean, accessFlags := 26, slot := 1, constantValue := 0 }, { name := "LOG2_ARRAY_BOOLEAN_INDEX_SCALE", type := .int, accessFlags := 25, slot := 2, constantValue := 0 }, { name := "LOG2_ARRAY_BYTE_INDEX_SCALE", type := .int, accessFlags := 25, slot := 3, constantValue := 0 }, { name := "LOG2_ARRAY_CHAR_INDEX_SCALE", type := .int, accessFlags := 25, slot := 4, constantValue := 0 }, { name := "LOG2_ARRAY_SHORT_INDEX_SCALE", type := .int, accessFlags := 25, slot := 5, constantValue := 0 }, { name := "LOG2_ARRAY_INT_INDEX_SCALE", type := .int, accessFlags := 25, slot := 6, constantValue := 0 }, { name := "LOG2_ARRAY_LONG_INDEX_SCALE", type := .int, accessFlags := 25, slot := 7, constantValue := 0 }, { name := "LOG2_ARRAY_FLOAT_INDEX_SCALE", type := .int, accessFlags := 25, slot := 8, constantValue := 0 }, { name := "LOG2_ARRAY_DOUBLE_INDEX_SCALE", type := .int, accessFlags := 25, slot := 9, constantValue := 0 }, { name := "LOG2_BYTE_BIT_SIZE", type := .int, accessFlags := 26, slot := 10, constantValue := 0 }, { name := "T_BOOLEAN", type := .int, accessFlags := 25, slot := 11, constantValue := 0 }, { name := "T_CHAR", type := .int, accessFlags := 25, slot := 12, constantValue := 0 }, { name := "T_FLOAT", type := .int, accessFlags := 25, slot := 13, constantValue := 0 }, { name := "T_DOUBLE", type := .int, accessFlags := 25, slot := 14, constantValue := 0 }, { name := "T_BYTE", type := .int, accessFlags := 25, slot := 15, constantValue := 0 }, { name := "T_SHORT", type := .int, accessFlags := 25, slot := 16, constantValue := 0 }, { name := "T_INT", type := .int, accessFlags := 25, slot := 17, constantValue := 0 }, { name := "T_LONG", type := .int, accessFlags := 25, slot := 18, constantValue := 0 }, { name := "JLA", type := (.object "jdk/internal/access/JavaLangAccess"), accessFlags := 26, slot := 19, constantValue := 0 }, { name := "SOFT_MAX_ARRAY_LENGTH", type := .int, accessFlags := 25, slot := 20, constantValue := 0 }]
  methods := #[k13m0]
  instanceTypes := #[]
  staticTypes := #[(.object "jdk/internal/misc/Unsafe"), .boolean, .int, .int, .int, .int, .int, .int, .int, .int, .int, .int, .int, .int, .int, .int, .int, .int, .int, (.object "jdk/internal/access/JavaLangAccess"), .int]
  resolved := Array.replicate 378 none
  statics := none }

def pool14 : Array CpInfo := pool [(1, u "java/lang/Cloneable"), (0, .class_ 1), (0, u "java/lang/Object"), (0, .class_ 3)] 3

/-- java/lang/Cloneable -/
def k14 : Class := { plain "java/lang/Cloneable" (some 0) with
  accessFlags := 1537
  interfaces := #[]
  cf := some (fileOf pool14 2 #[] #[] 1537 4 #[] #[])
  fields := #[]
  methods := #[]
  instanceTypes := #[]
  staticTypes := #[]
  resolved := Array.replicate 8 none
  statics := none }

/-- the primitive byte -/
def k15 : Class := { plain "byte" none with kind := .primitive 'B', accessFlags := 0x411 }
/-- [B -/
def k16 : Class := { plain "[B" (some 0) with kind := .array 15 .byte, interfaces := #[14, 2], accessFlags := 1041 }

/-- the primitive char -/
def k17 : Class := { plain "char" none with kind := .primitive 'C', accessFlags := 0x411 }
/-- [C -/
def k18 : Class := { plain "[C" (some 0) with kind := .array 17 .char, interfaces := #[14, 2], accessFlags := 1041 }

/-- the primitive int -/
def k19 : Class := { plain "int" none with kind := .primitive 'I', accessFlags := 0x411 }
/-- [I -/
def k20 : Class := { plain "[I" (some 0) with kind := .array 19 .int, interfaces := #[14, 2], accessFlags := 1041 }

def heap : Heap := #[{ cls := 7, slots := #[.long 0, .int 1, .null, .int 0, .null, .int 0, .int 0], vm := .statics 7 },
  { cls := 12, slots := #[.null, .null, .null], vm := .statics 12 }]
def classes : Array Class := #[k0, k1, k2, k3, k4, k5, k6, k7, k8, k9, k10, k11, k12, k13, k14, k15, k16, k17, k18, k19, k20]
def interned : List (Array UInt16 × Addr) := []
def slotsUsed : Nat := 10
def theMethod : MethodId := ⟨1, 2⟩
def args0 : Array Value := #[.int 5, .int 65, .int 66, .int 67, .int 68]
def aboutOver (below : List Frame) : State where
  vm := { classes := classes, interned := interned.toArray }
  heap := heap
  slotsUsed := slotsUsed
  threads := #[{ frames := .invoking theMethod args0 :: below }]
def below0 : List Frame := [.native { method := ⟨0, 0⟩, args := #[] }]
def about1 : State := aboutOver below0
def p0 : Program := .bare "" "" ""
def e0 : Env := launch0.env 0 0 0
theorem w_frames : about1.frames = Frame.invoking theMethod args0 :: below0 := rfl
set_option maxRecDepth 65536 in
theorem w_args : argsFit about1.vm theMethod args0 = true := by decide +kernel
set_option maxRecDepth 65536 in
theorem w_heap : heapFits about1 = true := by decide +kernel
set_option maxRecDepth 65536 in
theorem w_runnable : about1.curStatus? = some .runnable := by decide +kernel
set_option maxRecDepth 65536 in
theorem w_alone : about1.alone = true := by decide +kernel
set_option maxRecDepth 65536 in
theorem w_named : about1.methodNamed? x = some theMethod := by decide +kernel
set_option maxRecDepth 65536 in
theorem w_hears : about1.hears theMethod below0 = true := by decide +kernel
set_option maxRecDepth 65536 in
theorem w_ripe : about1.ripe theMethod args0 below0 = true := by decide +kernel
theorem w_running : about1.status = .running := rfl
set_option maxRecDepth 65536 in
theorem w_room : about1.hasRoom e0.platform room_1 = true :=
  launch0.hasRoom_least _ room_1 (by decide +kernel) (by decide +kernel) (by decide +kernel) (by decide +kernel) (by decide +kernel) (by decide +kernel)
theorem allAtoms_all (ts : List Jvm.Cond) (a : Array Jvm.Value) (st : Jvm.State) : (allAtoms ts).before a st = ts.all (fun c => c.before a st) := by
  induction ts with
  | nil => rfl
  | cons c t ih =>
    show (Jvm.Cond.and c (allAtoms t)).before a st = _
    rw [Jvm.Cond.before_and, ih, List.all_cons]
def words1 : List Jvm.Cond := Jvm.Cond.code x code maxLocals ret :: tables_1
/-- a 'code' word, met by the world's own term for the bytes: nothing is compared byte by byte -/
theorem code_word {y : MethodName} {bytes : ByteArray} {mx : Nat} {rt : Option FieldType} {a : Array Value} {s : State} {m : MethodId} {meth : Method} {c : Code} (h1 : s.methodNamed? y = some m) (h2 : s.vm.method? m = some meth) (h3 : meth.code = some c) (h4 : c.code = bytes)
    (h5 : (c.maxLocals == mx && c.exceptionTable.isEmpty && decide (c.maxStack ≤ mostOperands) && decide (meth.sig.returnType = rt) && !meth.locks && decide (parseMethodDescriptor y.desc = some meth.sig)) = true) : (Jvm.Cond.code y bytes mx rt).before a s = true := by
  simp only [Bool.and_eq_true, beq_iff_eq, Bool.not_eq_true', decide_eq_true_eq] at h5
  obtain ⟨⟨⟨⟨⟨g1, g2⟩, g3⟩, g4⟩, g5⟩, g6⟩ := h5
  simp [Cond.before, Cond.holds, Cond.value, h1, h2, h3, h4, g1, g2, g3, g4, g5, g6]
def isCode : Jvm.Cond → Bool
  | .code _ _ _ _ => true
  | _ => false
theorem all_split {L : List Jvm.Cond} {P : Jvm.Cond → Bool} (h1 : L.all (fun c => isCode c || P c) = true) (h2 : ∀ c ∈ L.filter isCode, P c = true) : L.all P = true := by
  refine List.all_eq_true.mpr fun c hc => ?_
  have h := List.all_eq_true.mp h1 c hc
  rcases Bool.eq_false_or_eq_true (isCode c) with hi | hi
  · exact h2 c (List.mem_filter.mpr ⟨hc, hi⟩)
  · simpa [hi] using h
set_option maxRecDepth 65536 in
theorem w_c0 : (Jvm.Cond.code x code maxLocals ret).before args0 about1 = true := code_word (m := ⟨1, 2⟩) (meth := k1m2) (c := k1c2) (by decide +kernel) rfl rfl rfl (by decide +kernel)
set_option maxRecDepth 65536 in
theorem w_c1 : (Jvm.Cond.code ({ cls := "com/example/tempora/tempora/core/IssueIsGivenPinLaw", name := "str", desc := "(III)Ljava/lang/String;" } : Jvm.MethodName) method_2_code (4 : Nat) (Option.some (Jvm.ClassFile.FieldType.object "java/lang/String"))).before args0 about1 = true := code_word (m := ⟨1, 1⟩) (meth := k1m1) (c := k1c1) (by decide +kernel) rfl rfl rfl (by decide +kernel)
set_option maxRecDepth 65536 in
theorem w_c2 : (Jvm.Cond.code ({ cls := "java/lang/String", name := "<init>", desc := "([C)V" } : Jvm.MethodName) jdk_42_method_3_code (2 : Nat) (Option.none : Option Jvm.ClassFile.FieldType)).before args0 about1 = true := code_word (m := ⟨7, 1⟩) (meth := k7m1) (c := k7c1) (by decide +kernel) rfl rfl rfl (by decide +kernel)
set_option maxRecDepth 65536 in
theorem w_c3 : (Jvm.Cond.code ({ cls := "java/lang/String", name := "<init>", desc := "([CIILjava/lang/Void;)V" } : Jvm.MethodName) jdk_42_method_149_code (6 : Nat) (Option.none : Option Jvm.ClassFile.FieldType)).before args0 about1 = true := code_word (m := ⟨7, 3⟩) (meth := k7m3) (c := k7c3) (by decide +kernel) rfl rfl rfl (by decide +kernel)
set_option maxRecDepth 65536 in
theorem w_c4 : (Jvm.Cond.code ({ cls := "java/lang/Object", name := "<init>", desc := "()V" } : Jvm.MethodName) object_method_1_code (1 : Nat) (Option.none : Option Jvm.ClassFile.FieldType)).before args0 about1 = true := code_word (m := ⟨0, 0⟩) (meth := k0m0) (c := k0c0) (by decide +kernel) rfl rfl rfl (by decide +kernel)
set_option maxRecDepth 65536 in
theorem w_c5 : (Jvm.Cond.code ({ cls := "com/example/tempora/tempora/core/Issue", name := "<init>", desc := "(Ljava/lang/String;Ljava/lang/String;)V" } : Jvm.MethodName) prog_18_method_1_code (3 : Nat) (Option.none : Option Jvm.ClassFile.FieldType)).before args0 about1 = true := code_word (m := ⟨9, 0⟩) (meth := k9m0) (c := k9c0) (by decide +kernel) rfl rfl rfl (by decide +kernel)
set_option maxRecDepth 65536 in
theorem w_c6 : (Jvm.Cond.code ({ cls := "java/lang/Record", name := "<init>", desc := "()V" } : Jvm.MethodName) jdk_30_method_1_code (1 : Nat) (Option.none : Option Jvm.ClassFile.FieldType)).before args0 about1 = true := code_word (m := ⟨8, 0⟩) (meth := k8m0) (c := k8c0) (by decide +kernel) rfl rfl rfl (by decide +kernel)
set_option maxRecDepth 65536 in
theorem w_c7 : (Jvm.Cond.code ({ cls := "com/example/tempora/tempora/core/Issue", name := "isGiven", desc := "()Z" } : Jvm.MethodName) prog_18_method_2_code (1 : Nat) (Option.some Jvm.ClassFile.FieldType.boolean)).before args0 about1 = true := code_word (m := ⟨9, 1⟩) (meth := k9m1) (c := k9c1) (by decide +kernel) rfl rfl rfl (by decide +kernel)
set_option maxRecDepth 65536 in
theorem w_c8 : (Jvm.Cond.code ({ cls := "java/lang/String", name := "isEmpty", desc := "()Z" } : Jvm.MethodName) jdk_42_method_55_code (1 : Nat) (Option.some Jvm.ClassFile.FieldType.boolean)).before args0 about1 = true := code_word (m := ⟨7, 2⟩) (meth := k7m2) (c := k7c2) (by decide +kernel) rfl rfl rfl (by decide +kernel)
set_option maxRecDepth 65536 in
theorem w_c9 : (Jvm.Cond.code ({ cls := "java/lang/StringUTF16", name := "compress", desc := "([CII)[B" } : Jvm.MethodName) jdk_52_method_16_code (6 : Nat) (Option.some (Jvm.ClassFile.FieldType.array Jvm.ClassFile.FieldType.byte))).before args0 about1 = true := code_word (m := ⟨10, 2⟩) (meth := k10m2) (c := k10c2) (by decide +kernel) rfl rfl rfl (by decide +kernel)
set_option maxRecDepth 65536 in
theorem w_c10 : (Jvm.Cond.code ({ cls := "java/lang/StringUTF16", name := "compress", desc := "([CI[BII)I" } : Jvm.MethodName) jdk_52_method_21_code (7 : Nat) (Option.some Jvm.ClassFile.FieldType.int)).before args0 about1 = true := code_word (m := ⟨10, 3⟩) (meth := k10m3) (c := k10c3) (by decide +kernel) rfl rfl rfl (by decide +kernel)
set_option maxRecDepth 65536 in
theorem w_c11 : (Jvm.Cond.code ({ cls := "java/lang/StringUTF16", name := "coderFromArrayLen", desc := "([BI)B" } : Jvm.MethodName) jdk_52_method_15_code (2 : Nat) (Option.some Jvm.ClassFile.FieldType.byte)).before args0 about1 = true := code_word (m := ⟨10, 1⟩) (meth := k10m1) (c := k10c1) (by decide +kernel) rfl rfl rfl (by decide +kernel)
def codes1 : List Jvm.Cond := [Jvm.Cond.code x code maxLocals ret, Jvm.Cond.code ({ cls := "com/example/tempora/tempora/core/IssueIsGivenPinLaw", name := "str", desc := "(III)Ljava/lang/String;" } : Jvm.MethodName) method_2_code (4 : Nat) (Option.some (Jvm.ClassFile.FieldType.object "java/lang/String")), Jvm.Cond.code ({ cls := "java/lang/String", name := "<init>", desc := "([C)V" } : Jvm.MethodName) jdk_42_method_3_code (2 : Nat) (Option.none : Option Jvm.ClassFile.FieldType), Jvm.Cond.code ({ cls := "java/lang/String", name := "<init>", desc := "([CIILjava/lang/Void;)V" } : Jvm.MethodName) jdk_42_method_149_code (6 : Nat) (Option.none : Option Jvm.ClassFile.FieldType), Jvm.Cond.code ({ cls := "java/lang/Object", name := "<init>", desc := "()V" } : Jvm.MethodName) object_method_1_code (1 : Nat) (Option.none : Option Jvm.ClassFile.FieldType), Jvm.Cond.code ({ cls := "com/example/tempora/tempora/core/Issue", name := "<init>", desc := "(Ljava/lang/String;Ljava/lang/String;)V" } : Jvm.MethodName) prog_18_method_1_code (3 : Nat) (Option.none : Option Jvm.ClassFile.FieldType), Jvm.Cond.code ({ cls := "java/lang/Record", name := "<init>", desc := "()V" } : Jvm.MethodName) jdk_30_method_1_code (1 : Nat) (Option.none : Option Jvm.ClassFile.FieldType), Jvm.Cond.code ({ cls := "com/example/tempora/tempora/core/Issue", name := "isGiven", desc := "()Z" } : Jvm.MethodName) prog_18_method_2_code (1 : Nat) (Option.some Jvm.ClassFile.FieldType.boolean), Jvm.Cond.code ({ cls := "java/lang/String", name := "isEmpty", desc := "()Z" } : Jvm.MethodName) jdk_42_method_55_code (1 : Nat) (Option.some Jvm.ClassFile.FieldType.boolean), Jvm.Cond.code ({ cls := "java/lang/StringUTF16", name := "compress", desc := "([CII)[B" } : Jvm.MethodName) jdk_52_method_16_code (6 : Nat) (Option.some (Jvm.ClassFile.FieldType.array Jvm.ClassFile.FieldType.byte)), Jvm.Cond.code ({ cls := "java/lang/StringUTF16", name := "compress", desc := "([CI[BII)I" } : Jvm.MethodName) jdk_52_method_21_code (7 : Nat) (Option.some Jvm.ClassFile.FieldType.int), Jvm.Cond.code ({ cls := "java/lang/StringUTF16", name := "coderFromArrayLen", desc := "([BI)B" } : Jvm.MethodName) jdk_52_method_15_code (2 : Nat) (Option.some Jvm.ClassFile.FieldType.byte)]
set_option maxRecDepth 65536 in
theorem codes_eq : words1.filter isCode = codes1 := rfl
theorem w_codes : ∀ c ∈ words1.filter isCode, c.before args0 about1 = true := by
  rw [codes_eq]
  intro c hc
  simp only [codes1, List.mem_cons, List.not_mem_nil, or_false] at hc
  rcases hc with rfl | rfl | rfl | rfl | rfl | rfl | rfl | rfl | rfl | rfl | rfl | rfl
  · exact w_c0
  · exact w_c1
  · exact w_c2
  · exact w_c3
  · exact w_c4
  · exact w_c5
  · exact w_c6
  · exact w_c7
  · exact w_c8
  · exact w_c9
  · exact w_c10
  · exact w_c11
set_option maxRecDepth 65536 in
theorem w_t1 : (words1.take 24).all (fun c => isCode c || c.before args0 about1) = true := by decide +kernel
set_option maxRecDepth 65536 in
theorem w_t2 : ((words1.drop 24).take 24).all (fun c => isCode c || c.before args0 about1) = true := by decide +kernel
set_option maxRecDepth 65536 in
theorem w_t3 : ((words1.drop 24).drop 24).all (fun c => isCode c || c.before args0 about1) = true := by decide +kernel
theorem w_tables : (allAtoms (Jvm.Cond.code x code maxLocals ret :: tables_1)).before args0 about1 = true := by
  rw [allAtoms_all]
  show words1.all (fun c => c.before args0 about1) = true
  refine all_split ?_ w_codes
  rw [← List.take_append_drop 24 words1, List.all_append, w_t1, ← List.take_append_drop 24 (words1.drop 24), List.all_append, w_t2, w_t3]
  rfl
set_option maxRecDepth 65536 in
theorem w_rest : rest_1_c.before args0 about1 = true := by decide +kernel
set_option maxRecDepth 65536 in
theorem w_case : (Jvm.Cond.and given_1 narrow_1).before args0 about1 = true := by decide +kernel
set_option maxRecDepth 65536 in
theorem w_consts : constsHeld consts_1 about1 := Jvm.Lit.constsHeldB_iff.mp (by decide +kernel)
theorem w_applies : (headSpec (Jvm.Cond.code x code maxLocals ret :: tables_1) room_1).applies x e0.platform about1 = true :=
  (Spec.applies_iff w_frames).mpr ⟨w_running, w_runnable, w_alone, w_named, w_hears, w_ripe, w_room, w_tables⟩
theorem atStart : AtStart classFile x code maxLocals ret World_1 tables_1 room_1 Calls_1 rest_1 Pre_1 launch0 p0 e0 about1 theMethod args0 below0 :=
  ⟨lists_1, trivial, launch0.admits_env _ _ _, launch0.least_env, fairChoices_fair.cas, fairChoices_fair.clock, w_frames, w_args, w_heap, w_applies, ⟨w_consts, trivial⟩, w_rest, w_case⟩
end start1
theorem witness_1 : WitnessClaimed_1 := ⟨start1.p0, start1.e0, start1.about1, start1.theMethod, start1.args0, start1.below0, start1.atStart⟩
end Jvm.Pilot.@@N@@
