import JvmDerived
import JvmDerived.Pilot.@@N@@Statement
import JvmDerived.Pilot.@@N@@Code
set_option linter.unusedVariables false
set_option linter.unusedSimpArgs false
namespace Jvm.RoadKit
open Sem ClassFile Op Lib Jvm.Stand Jvm.Free Jvm.LawKit
section Own
variable {p : Program} {l : Launch} {e : Env} {R : Room} {s : State} {m : MethodId} {args : Array Value} {below : List Frame} {meth : Method} {c : Code} {T : State} {locs : List Loc} {cells slots : Nat}
/-- the run from U comes to its end, and the end meets Q -/
def own_Go (p : Program) (e : Env) (below : List Frame) (args : Array Value) (s : State) (Q : Array Value → State → Outcome → State → Prop) (U : State) : Prop := ∃ s₂ o, Steps p.tables e below U s₂ ∧ s₂.status = .running ∧ Ended s₂ below o ∧ Q args s o s₂
theorem own_st {Q : Array Value → State → Outcome → State → Prop} {U V : State} (k : ∀ t, Steps p.tables e below V t → Steps p.tables e below U t) (h : own_Go p e below args s Q V) : own_Go p e below args s Q U := by
  obtain ⟨s2, o, h1, h2⟩ := h
  exact ⟨s2, o, k _ h1, h2⟩
theorem own_ret {Q : Option Value → Heap → List Loc → Prop} {rc rs : Nat} (X : Stand p l e R s m args below meth c T locs cells slots) (hx : p.tables.exec = Jvm.exec) {pc : Nat} {Ls : Array Slot} {w : Value} {t : FieldType} {i : Instr} {rest : List Value} (hlk : meth.locks = false) (hret : meth.sig.returnType = some t) (hn : narrow t w = w)
    (hi : (i = .ireturn ∧ (t = .int ∨ t = .boolean ∨ t = .byte ∨ t = .char ∨ t = .short) ∧ ∃ z, w = .int z) ∨ (i = .lreturn ∧ t = .long ∧ ∃ z, w = .long z) ∨ (i = .dreturn ∧ t = .double ∧ ∃ z, w = .double z) ∨ (i = .freturn ∧ t = .float ∧ ∃ z, w = .float z) ∨ (i = .areturn ∧ t.isReference = true ∧ w.isRef = true))
    (hd : decode c.code pc = .ok (i, 1)) (hc : cells ≤ rc) (hs : slots ≤ rs) (hQ : Q (some w) T.heap locs) :
    own_Go p e below args s (fun _ U o U' => ∃ v L, o = .returned v ∧ Q v U'.heap L ∧ FrameEnd U o U' L rc rs) (T.setTop (mkF m pc Ls (w :: rest))) := by
  obtain ⟨fs, hr, hrun, hended, hW, hsame⟩ := X.leave (v := some w) (fun h => by rw [hret] at h; cases h) hlk
  exact ⟨_, _, retOut X hx hret hn hi hd hr, hrun, hended, _, _, rfl, hQ, ⟨_, rfl⟩, hW, hsame.mono hc hs⟩
theorem own_ret0 {Q : Option Value → Heap → List Loc → Prop} {rc rs : Nat} (X : Stand p l e R s m args below meth c T locs cells slots) (hx : p.tables.exec = Jvm.exec) {pc : Nat} {Ls : Array Slot} (hlk : meth.locks = false) (hret : meth.sig.returnType = none)
    (hd : decode c.code pc = .ok (.return_, 1)) (hc : cells ≤ rc) (hs : slots ≤ rs) (hQ : Q none T.heap locs) :
    own_Go p e below args s (fun _ U o U' => ∃ v L, o = .returned v ∧ Q v U'.heap L ∧ FrameEnd U o U' L rc rs) (T.setTop (mkF m pc Ls [])) := by
  obtain ⟨fs, hr, hrun, hended, hW, hsame⟩ := X.leave (v := none) (fun _ => rfl) hlk
  exact ⟨_, _, X.returnOut hx hret hd hr, hrun, hended, _, _, rfl, hQ, ⟨_, rfl⟩, hW, hsame.mono hc hs⟩
/-- what the sheet says of a static that holds an object of its class -/
theorem own_sta {Z : State} {args : Array Value} {C n d K : String} (hx : (Jvm.Cond.exactly (.static C n d) K).value args Z none Z [] = some true) (wi : (Jvm.Cond.initialized C).before args Z = true) (wl : (Jvm.Cond.laysStatic C n d).before args Z = true) :
    ∃ a, Sta Z Z.heap C n d (.ref a) ∧ Exa Z Z.heap a K ∧ (Jvm.Term.static C n d).eval args Z none [] Z = some (.ref a) := by
  obtain ⟨a, ev⟩ := exa_v hx
  exact ⟨a, Sta.start ev (Or.inr ⟨wi, wl⟩), Exa.start ev hx, ev⟩
theorem own_eqi {Z : State} {args : Array Value} {t : Jvm.Term} {k : Int32} (h : (Jvm.Cond.eq t (.int k)).value args Z none Z [] = some true) : t.eval args Z none [] Z = some (.int k) := by
  cases hv : t.eval args Z none [] Z with
  | none => simp [Cond.value, Term.eval, hv] at h
  | some v => cases v <;> simp [Cond.value, Term.eval, hv] at h ⊢ <;> exact h
theorem own_fld {Z : State} {args : Array Value} {t : Jvm.Term} {C n d : String} {a : Addr} {k : Int32} (ev : t.eval args Z none [] Z = some (.ref a)) (h : (Jvm.Cond.eq (.field t C n d) (.int k)).value args Z none Z [] = some true) : Fld Z Z.heap a C n d (.int k) :=
  Fld.start ((fld_at ev).symm.trans (own_eqi h))
end Own
end Jvm.RoadKit
namespace Jvm.Pilot.@@N@@
open Jvm Jvm.ClassFile Sem Op Lib Jvm.Free Jvm.Stand Jvm.LawKit Jvm.RoadKit Bundle Jvm.Pilot.@@N@@.Jvm.D
theorem own_so {Z : State} {n0 : Nat} {h : Heap} {C n d : String} {v : Value} (O : Old Z n0 h) (S : Sta Z Z.heap C n d v) : Sta Z h C n d v := by
  obtain ⟨cf, i, k, f, st, cell, h1, h2, h3, h4, h5, h6⟩ := S
  exact ⟨cf, i, k, f, st, cell, h1, h2, h3, h4, O.2.2 _ _ h5, h6⟩
def Q_own_c5_1 (Z : State) (o1 o2 : Addr) (k1 k2 : ClassId) (x1 : Int32) (h0 : Heap) (n0 : Nat) (v : Option Value) (h : Heap) (L : List Loc) : Prop := v = some (.int (1 : Int32)) ∧ Fr n0 L ∧ Keep h0 h [o2] ∧ ∃ vs, Arv Z h o2 k2 .byte (1 : Int32) vs (.int (0 : Int32))
theorem own_d5_0 : decode jdk_52_method_21_code 0 = .ok (.iconst 0, 1) := by decide +kernel
theorem own_d5_1 : decode jdk_52_method_21_code 1 = .ok (.istore 5, 2) := by decide +kernel
theorem own_d5_3 : decode jdk_52_method_21_code 3 = .ok (.iload 5, 2) := by decide +kernel
theorem own_d5_5 : decode jdk_52_method_21_code 5 = .ok (.iload 4, 2) := by decide +kernel
theorem own_d5_7 : decode jdk_52_method_21_code 7 = .ok (.if_icmp .ge 37, 3) := by decide +kernel
theorem own_d5_10 : decode jdk_52_method_21_code 10 = .ok (.aload_n 0, 1) := by decide +kernel
theorem own_d5_11 : decode jdk_52_method_21_code 11 = .ok (.iload_n 1, 1) := by decide +kernel
theorem own_d5_12 : decode jdk_52_method_21_code 12 = .ok (.caload, 1) := by decide +kernel
theorem own_d5_13 : decode jdk_52_method_21_code 13 = .ok (.istore 6, 2) := by decide +kernel
theorem own_d5_15 : decode jdk_52_method_21_code 15 = .ok (.iload 6, 2) := by decide +kernel
theorem own_d5_17 : decode jdk_52_method_21_code 17 = .ok (.sipush 255, 3) := by decide +kernel
theorem own_d5_20 : decode jdk_52_method_21_code 20 = .ok (.if_icmp .le 6, 3) := by decide +kernel
theorem own_d5_26 : decode jdk_52_method_21_code 26 = .ok (.aload_n 2, 1) := by decide +kernel
theorem own_d5_27 : decode jdk_52_method_21_code 27 = .ok (.iload_n 3, 1) := by decide +kernel
theorem own_d5_28 : decode jdk_52_method_21_code 28 = .ok (.iload 6, 2) := by decide +kernel
theorem own_d5_30 : decode jdk_52_method_21_code 30 = .ok (.i2b, 1) := by decide +kernel
theorem own_d5_31 : decode jdk_52_method_21_code 31 = .ok (.bastore, 1) := by decide +kernel
theorem own_d5_32 : decode jdk_52_method_21_code 32 = .ok (.iinc 1 1, 3) := by decide +kernel
theorem own_d5_35 : decode jdk_52_method_21_code 35 = .ok (.iinc 3 1, 3) := by decide +kernel
theorem own_d5_38 : decode jdk_52_method_21_code 38 = .ok (.iinc 5 1, 3) := by decide +kernel
theorem own_d5_41 : decode jdk_52_method_21_code 41 = .ok (.goto (-38), 3) := by decide +kernel
theorem own_d5_44 : decode jdk_52_method_21_code 44 = .ok (.iload 4, 2) := by decide +kernel
theorem own_d5_46 : decode jdk_52_method_21_code 46 = .ok (.ireturn, 1) := by decide +kernel
theorem own_pn_java_lang_StringUTF16 : plainName "java/lang/StringUTF16" = true := by first | (simp [plainName, overriddenIn]; done) | decide +kernel
set_option maxRecDepth 65536 in
set_option maxHeartbeats 40000000 in
theorem own_c5_1 (l : Launch) (Z : State) (a0 : Array Value) (hw : ∀ d ∈ tables_1, d.before a0 Z = true) (ws : List Jvm.Cond) (o1 o2 : Addr) (k1 k2 : ClassId) (x1 : Int32) (h0 : Heap) (n0 : Nat) (Z0 : n0 ≤ h0.size) (V1 : Arv Z h0 o1 k1 .char (1 : Int32) [(.int x1)] (.int (0 : Int32))) (V2 : Arv Z h0 o2 k2 .byte (1 : Int32) [(.int (0 : Int32))] (.int (0 : Int32))) (n12 : o1 ≠ o2) (g2 : n0 ≤ o2) (hx1 : ¬ ((255 : Int32) < x1)) :
    MetFree l (⟨"java/lang/StringUTF16", "compress", "([CI[BII)I"⟩ : MethodName) (head1 (Jvm.Cond.code (⟨"java/lang/StringUTF16", "compress", "([CI[BII)I"⟩ : MethodName) jdk_52_method_21_code 7 (some .int) :: ws) ({ frames := 0, cells := 0, slots := 0, locals := 0 } : Room)) (fun a U => a = #[(.ref o1), (.int (0 : Int32)), (.ref o2), (.int (0 : Int32)), (.int (1 : Int32))] ∧ Z.Warmed39 U.vm ∧ U.heap = h0) (fun _ _ _ _ _ => True) (fun _ U o U' => ∃ v L, o = .returned v ∧ Q_own_c5_1 Z o1 o2 k1 k2 x1 h0 n0 v U'.heap L ∧ FrameEnd U o U' L ({ frames := 0, cells := 0, slots := 0, locals := 0 } : Room).cells ({ frames := 0, cells := 0, slots := 0, locals := 0 } : Room).slots) := by
  refine MetFree.of_bodySF (plainFor_of_name own_pn_java_lang_StringUTF16) hisR ?_
  intro p e s m args below meth c s₁ Bd hml0 hP hK
  obtain ⟨rfl, hZ, hh⟩ := hP
  have hx := Bd.exec
  have hby := Bd.bytes
  have hml : c.maxLocals = 7 := hml0
  have hown : s.vm.findClass "java/lang/StringUTF16" = some m.cls := findClass_of_methodNamed Bd.named
  have hnm := (name_of_methodNamed Bd.named Bd.method).1
  have hlk : meth.locks = false := BodyLoose.notSynchronized Bd
  have X0 : Stand p l e ({ frames := 0, cells := 0, slots := 0, locals := 0 } : Room) s m #[(.ref o1), (.int (0 : Int32)), (.ref o2), (.int (0 : Int32)), (.int (1 : Int32))] below meth c s₁ [] 0 0 := Stand.of_body Bd
  have e0 : s₁.heap = h0 := by rw [← hh, Bd.state]; rfl
  have N0 := Fr.nil n0
  show own_Go p e below #[(.ref o1), (.int (0 : Int32)), (.ref o2), (.int (0 : Int32)), (.int (1 : Int32))] s (fun _ U o U' => ∃ v L, o = .returned v ∧ Q_own_c5_1 Z o1 o2 k1 k2 x1 h0 n0 v U'.heap L ∧ FrameEnd U o U' L ({ frames := 0, cells := 0, slots := 0, locals := 0 } : Room).cells ({ frames := 0, cells := 0, slots := 0, locals := 0 } : Room).slots) (s₁.setTop (entryFrame m #[(.ref o1), (.int (0 : Int32)), (.ref o2), (.int (0 : Int32)), (.int (1 : Int32))] 7))
  refine own_st (V := s₁.setTop (mkF m 0 #[.val (.ref o1), .val (.int (0 : Int32)), .val (.ref o2), .val (.int (0 : Int32)), .val (.int (1 : Int32)), .unset, .unset] [])) (fun t k => castTop (by first | (simp [entryFrame, mkF, argsToLocals, Value.category]; done) | rfl) k) ?_
  refine own_st (V := s₁.setTop (mkF m 1 #[.val (.ref o1), .val (.int (0 : Int32)), .val (.ref o2), .val (.int (0 : Int32)), .val (.int (1 : Int32)), .unset, .unset] [(.int (0 : Int32))])) (fun t k => XS.iconst X0.here hx rfl (hb hby own_d5_0) k) ?_
  refine own_st (V := s₁.setTop (mkF m 3 #[.val (.ref o1), .val (.int (0 : Int32)), .val (.ref o2), .val (.int (0 : Int32)), .val (.int (1 : Int32)), .val (.int (0 : Int32)), .unset] [])) (fun t k => XS.istore X0.here hx rfl (hb hby own_d5_1) rfl (l' := #[.val (.ref o1), .val (.int (0 : Int32)), .val (.ref o2), .val (.int (0 : Int32)), .val (.int (1 : Int32)), .val (.int (0 : Int32)), .unset]) rfl k) ?_
  refine own_st (V := s₁.setTop (mkF m 5 #[.val (.ref o1), .val (.int (0 : Int32)), .val (.ref o2), .val (.int (0 : Int32)), .val (.int (1 : Int32)), .val (.int (0 : Int32)), .unset] [(.int (0 : Int32))])) (fun t k => XS.iload X0.here hx rfl (hb hby own_d5_3) rfl k) ?_
  refine own_st (V := s₁.setTop (mkF m 7 #[.val (.ref o1), .val (.int (0 : Int32)), .val (.ref o2), .val (.int (0 : Int32)), .val (.int (1 : Int32)), .val (.int (0 : Int32)), .unset] [(.int (1 : Int32)), (.int (0 : Int32))])) (fun t k => XS.iload X0.here hx rfl (hb hby own_d5_5) rfl k) ?_
  refine own_st (V := s₁.setTop (mkF m 10 #[.val (.ref o1), .val (.int (0 : Int32)), .val (.ref o2), .val (.int (0 : Int32)), .val (.int (1 : Int32)), .val (.int (0 : Int32)), .unset] [])) (fun t k => XS.icmpNo X0.here hx rfl (hb hby own_d5_7) rfl (tlt (by decide : (0 : Int32) < (1 : Int32))).2.1 k) ?_
  refine own_st (V := s₁.setTop (mkF m 11 #[.val (.ref o1), .val (.int (0 : Int32)), .val (.ref o2), .val (.int (0 : Int32)), .val (.int (1 : Int32)), .val (.int (0 : Int32)), .unset] [(.ref o1)])) (fun t k => XS.aloadN X0.here hx rfl (hb hby own_d5_10) rfl rfl k) ?_
  refine own_st (V := s₁.setTop (mkF m 12 #[.val (.ref o1), .val (.int (0 : Int32)), .val (.ref o2), .val (.int (0 : Int32)), .val (.int (1 : Int32)), .val (.int (0 : Int32)), .unset] [(.int (0 : Int32)), (.ref o1)])) (fun t k => XS.iloadN X0.here hx rfl (hb hby own_d5_11) rfl k) ?_
  have Vk1 := V1
  obtain ⟨cl1, Ar1, qk1, sz1, nn1, hs1, fs1⟩ := Vk1
  have hin1 : ¬ ((0 : Int32) < 0 ∨ cl1.slots.size ≤ ((0 : Int32)).toNatClampNeg) := inb_of sz1 ⟨by decide, by decide⟩
  refine own_st (V := s₁.setTop (mkF m 13 #[.val (.ref o1), .val (.int (0 : Int32)), .val (.ref o2), .val (.int (0 : Int32)), .val (.int (1 : Int32)), .val (.int (0 : Int32)), .unset] [(.int x1)])) (fun t k => X0.caload hx (j := (0 : Int32)) (v := (.int x1)) (by rw [e0]; exact Ar1.1) (State.isArrayOf_alike hZ.alike Ar1.2.1) Ar1.2.2 hin1 (Has.at hs1 hin1 rfl) (g := (mkF m 12 #[.val (.ref o1), .val (.int (0 : Int32)), .val (.ref o2), .val (.int (0 : Int32)), .val (.int (1 : Int32)), .val (.int (0 : Int32)), .unset] [(.int (0 : Int32)), (.ref o1)])) rfl rfl (hb hby own_d5_12) _ k) ?_
  refine own_st (V := s₁.setTop (mkF m 15 #[.val (.ref o1), .val (.int (0 : Int32)), .val (.ref o2), .val (.int (0 : Int32)), .val (.int (1 : Int32)), .val (.int (0 : Int32)), .val (.int x1)] [])) (fun t k => XS.istore X0.here hx rfl (hb hby own_d5_13) rfl (l' := #[.val (.ref o1), .val (.int (0 : Int32)), .val (.ref o2), .val (.int (0 : Int32)), .val (.int (1 : Int32)), .val (.int (0 : Int32)), .val (.int x1)]) rfl k) ?_
  refine own_st (V := s₁.setTop (mkF m 17 #[.val (.ref o1), .val (.int (0 : Int32)), .val (.ref o2), .val (.int (0 : Int32)), .val (.int (1 : Int32)), .val (.int (0 : Int32)), .val (.int x1)] [(.int x1)])) (fun t k => XS.iload X0.here hx rfl (hb hby own_d5_15) rfl k) ?_
  refine own_st (V := s₁.setTop (mkF m 20 #[.val (.ref o1), .val (.int (0 : Int32)), .val (.ref o2), .val (.int (0 : Int32)), .val (.int (1 : Int32)), .val (.int (0 : Int32)), .val (.int x1)] [(.int (255 : Int32)), (.int x1)])) (fun t k => XS.sipush X0.here hx rfl (hb hby own_d5_17) k) ?_
  refine own_st (V := s₁.setTop (mkF m 26 #[.val (.ref o1), .val (.int (0 : Int32)), .val (.ref o2), .val (.int (0 : Int32)), .val (.int (1 : Int32)), .val (.int (0 : Int32)), .val (.int x1)] [])) (fun t k => XS.icmpYes X0.here hx rfl (pc0 := 20) (pc' := 26) rfl (hb hby own_d5_20) rfl (flt hx1).2.2.2 (by decide) (by decide) k) ?_
  refine own_st (V := s₁.setTop (mkF m 27 #[.val (.ref o1), .val (.int (0 : Int32)), .val (.ref o2), .val (.int (0 : Int32)), .val (.int (1 : Int32)), .val (.int (0 : Int32)), .val (.int x1)] [(.ref o2)])) (fun t k => XS.aloadN X0.here hx rfl (hb hby own_d5_26) rfl rfl k) ?_
  refine own_st (V := s₁.setTop (mkF m 28 #[.val (.ref o1), .val (.int (0 : Int32)), .val (.ref o2), .val (.int (0 : Int32)), .val (.int (1 : Int32)), .val (.int (0 : Int32)), .val (.int x1)] [(.int (0 : Int32)), (.ref o2)])) (fun t k => XS.iloadN X0.here hx rfl (hb hby own_d5_27) rfl k) ?_
  refine own_st (V := s₁.setTop (mkF m 30 #[.val (.ref o1), .val (.int (0 : Int32)), .val (.ref o2), .val (.int (0 : Int32)), .val (.int (1 : Int32)), .val (.int (0 : Int32)), .val (.int x1)] [(.int x1), (.int (0 : Int32)), (.ref o2)])) (fun t k => XS.iload X0.here hx rfl (hb hby own_d5_28) rfl k) ?_
  refine own_st (V := s₁.setTop (mkF m 31 #[.val (.ref o1), .val (.int (0 : Int32)), .val (.ref o2), .val (.int (0 : Int32)), .val (.int (1 : Int32)), .val (.int (0 : Int32)), .val (.int x1)] [(.int (x1.toInt8.toInt32)), (.int (0 : Int32)), (.ref o2)])) (fun t k => XS.i2b X0.here hx rfl (hb hby own_d5_30) rfl k) ?_
  have Vk2 := V2
  obtain ⟨cl2, Ar2, qk2, sz2, nn2, hs2, fs2⟩ := Vk2
  have hin2 : ¬ ((0 : Int32) < 0 ∨ cl2.slots.size ≤ ((0 : Int32)).toNatClampNeg) := inb_of sz2 ⟨by decide, by decide⟩
  obtain ⟨T2, h2, X2, e2, W2, st2⟩ := stB X0 hx hZ e0 Ar2 (j := (0 : Int32)) hin2 (g := (mkF m 31 #[.val (.ref o1), .val (.int (0 : Int32)), .val (.ref o2), .val (.int (0 : Int32)), .val (.int (1 : Int32)), .val (.int (0 : Int32)), .val (.int x1)] [(.int (x1.toInt8.toInt32)), (.int (0 : Int32)), (.ref o2)])) rfl rfl (hb hby own_d5_31)
  have V2_o2 := Arv.set Ar2 qk2 sz2 nn2 hs2 fs2 (fits_nar_byte _) W2 0 rfl (Nat.le_of_ble_eq_true rfl)
  have N2 := Fr.snoc X2 N0 g2
  have Z0_2 : n0 ≤ h2.size := by rw [W2.size]; exact Z0
  have Kc2 := (Keep.refl h0 [o2]).wr W2 (Or.inl (List.mem_of_getElem? (i := 0) rfl))
  have V2_o1 := V1.other W2 n12
  refine own_st (V := T2.setTop (mkF m 32 #[.val (.ref o1), .val (.int (0 : Int32)), .val (.ref o2), .val (.int (0 : Int32)), .val (.int (1 : Int32)), .val (.int (0 : Int32)), .val (.int x1)] [])) (fun t k => st2 _ k) ?_
  refine own_st (V := T2.setTop (mkF m 35 #[.val (.ref o1), .val (.int ((0 : Int32) + (1 : Int32))), .val (.ref o2), .val (.int (0 : Int32)), .val (.int (1 : Int32)), .val (.int (0 : Int32)), .val (.int x1)] [])) (fun t k => XS.iinc X2.here hx rfl (hb hby own_d5_32) rfl (l' := #[.val (.ref o1), .val (.int ((0 : Int32) + (1 : Int32))), .val (.ref o2), .val (.int (0 : Int32)), .val (.int (1 : Int32)), .val (.int (0 : Int32)), .val (.int x1)]) rfl k) ?_
  rw [show ((0 : Int32) + (1 : Int32)) = (1 : Int32) from by decide +kernel]
  refine own_st (V := T2.setTop (mkF m 38 #[.val (.ref o1), .val (.int (1 : Int32)), .val (.ref o2), .val (.int ((0 : Int32) + (1 : Int32))), .val (.int (1 : Int32)), .val (.int (0 : Int32)), .val (.int x1)] [])) (fun t k => XS.iinc X2.here hx rfl (hb hby own_d5_35) rfl (l' := #[.val (.ref o1), .val (.int (1 : Int32)), .val (.ref o2), .val (.int ((0 : Int32) + (1 : Int32))), .val (.int (1 : Int32)), .val (.int (0 : Int32)), .val (.int x1)]) rfl k) ?_
  rw [show ((0 : Int32) + (1 : Int32)) = (1 : Int32) from by decide +kernel]
  refine own_st (V := T2.setTop (mkF m 41 #[.val (.ref o1), .val (.int (1 : Int32)), .val (.ref o2), .val (.int (1 : Int32)), .val (.int (1 : Int32)), .val (.int ((0 : Int32) + (1 : Int32))), .val (.int x1)] [])) (fun t k => XS.iinc X2.here hx rfl (hb hby own_d5_38) rfl (l' := #[.val (.ref o1), .val (.int (1 : Int32)), .val (.ref o2), .val (.int (1 : Int32)), .val (.int (1 : Int32)), .val (.int ((0 : Int32) + (1 : Int32))), .val (.int x1)]) rfl k) ?_
  rw [show ((0 : Int32) + (1 : Int32)) = (1 : Int32) from by decide +kernel]
  refine own_st (V := T2.setTop (mkF m 3 #[.val (.ref o1), .val (.int (1 : Int32)), .val (.ref o2), .val (.int (1 : Int32)), .val (.int (1 : Int32)), .val (.int (1 : Int32)), .val (.int x1)] [])) (fun t k => XS.goto X2.here hx rfl (pc0 := 41) (pc' := 3) rfl (hb hby own_d5_41) (by decide) (by decide) k) ?_
  refine own_st (V := T2.setTop (mkF m 5 #[.val (.ref o1), .val (.int (1 : Int32)), .val (.ref o2), .val (.int (1 : Int32)), .val (.int (1 : Int32)), .val (.int (1 : Int32)), .val (.int x1)] [(.int (1 : Int32))])) (fun t k => XS.iload X2.here hx rfl (hb hby own_d5_3) rfl k) ?_
  refine own_st (V := T2.setTop (mkF m 7 #[.val (.ref o1), .val (.int (1 : Int32)), .val (.ref o2), .val (.int (1 : Int32)), .val (.int (1 : Int32)), .val (.int (1 : Int32)), .val (.int x1)] [(.int (1 : Int32)), (.int (1 : Int32))])) (fun t k => XS.iload X2.here hx rfl (hb hby own_d5_5) rfl k) ?_
  refine own_st (V := T2.setTop (mkF m 44 #[.val (.ref o1), .val (.int (1 : Int32)), .val (.ref o2), .val (.int (1 : Int32)), .val (.int (1 : Int32)), .val (.int (1 : Int32)), .val (.int x1)] [])) (fun t k => XS.icmpYes X2.here hx rfl (pc0 := 7) (pc' := 44) rfl (hb hby own_d5_7) rfl (flt (by decide : ¬ ((1 : Int32) < (1 : Int32)))).2.1 (by decide) (by decide) k) ?_
  refine own_st (V := T2.setTop (mkF m 46 #[.val (.ref o1), .val (.int (1 : Int32)), .val (.ref o2), .val (.int (1 : Int32)), .val (.int (1 : Int32)), .val (.int (1 : Int32)), .val (.int x1)] [(.int (1 : Int32))])) (fun t k => XS.iload X2.here hx rfl (hb hby own_d5_44) rfl k) ?_
  exact own_ret X2 hx hlk Bd.returns rfl (Or.inl ⟨rfl, by simp, _, rfl⟩) (hb hby own_d5_46) (by decide) (by decide) (by show Q_own_c5_1 Z o1 o2 k1 k2 x1 h0 n0 _ T2.heap _; rw [e2]; exact ⟨rfl, N2, Kc2, _, V2_o2⟩)
def Q_own_c3_1 (Z : State) (o1 : Addr) (k1 : ClassId) (x1 : Int32) (h0 : Heap) (n0 : Nat) (v : Option Value) (h : Heap) (L : List Loc) : Prop := ∃ b, v = some (.ref b) ∧ Fr n0 L ∧ Keep h0 h [] ∧ h0.size ≤ b ∧ n0 ≤ b ∧ ∃ k2 vs, Arv Z h b k2 .byte (1 : Int32) vs (.int (0 : Int32))
theorem own_d4_0 : decode jdk_52_method_16_code 0 = .ok (.iload_n 2, 1) := by decide +kernel
theorem own_d4_1 : decode jdk_52_method_16_code 1 = .ok (.newarray .byte, 2) := by decide +kernel
theorem own_d4_3 : decode jdk_52_method_16_code 3 = .ok (.astore_n 3, 1) := by decide +kernel
theorem own_d4_4 : decode jdk_52_method_16_code 4 = .ok (.aload_n 0, 1) := by decide +kernel
theorem own_d4_5 : decode jdk_52_method_16_code 5 = .ok (.iload_n 1, 1) := by decide +kernel
theorem own_d4_6 : decode jdk_52_method_16_code 6 = .ok (.aload_n 3, 1) := by decide +kernel
theorem own_d4_7 : decode jdk_52_method_16_code 7 = .ok (.iconst 0, 1) := by decide +kernel
theorem own_d4_8 : decode jdk_52_method_16_code 8 = .ok (.iload_n 2, 1) := by decide +kernel
theorem own_d4_9 : decode jdk_52_method_16_code 9 = .ok (.invokestatic 115, 3) := by decide +kernel
theorem own_pd0 : parseMethodDescriptor "([CI[BII)I" = some ⟨[(.array .char), .int, (.array .byte), .int, .int], some .int⟩ := by decide +kernel
theorem own_d4_12 : decode jdk_52_method_16_code 12 = .ok (.istore 4, 2) := by decide +kernel
theorem own_d4_14 : decode jdk_52_method_16_code 14 = .ok (.iload 4, 2) := by decide +kernel
theorem own_d4_16 : decode jdk_52_method_16_code 16 = .ok (.iload_n 2, 1) := by decide +kernel
theorem own_d4_17 : decode jdk_52_method_16_code 17 = .ok (.if_icmp .eq 40, 3) := by decide +kernel
theorem own_d4_57 : decode jdk_52_method_16_code 57 = .ok (.aload_n 3, 1) := by decide +kernel
theorem own_d4_58 : decode jdk_52_method_16_code 58 = .ok (.areturn, 1) := by decide +kernel
set_option maxRecDepth 65536 in
set_option maxHeartbeats 40000000 in
theorem own_c3_1 (l : Launch) (Z : State) (a0 : Array Value) (hw : ∀ d ∈ tables_1, d.before a0 Z = true) (ws : List Jvm.Cond) (o1 : Addr) (k1 : ClassId) (x1 : Int32) (h0 : Heap) (n0 : Nat) (Z0 : n0 ≤ h0.size) (V1 : Arv Z h0 o1 k1 .char (1 : Int32) [(.int x1)] (.int (0 : Int32))) (hx1 : ¬ ((255 : Int32) < x1)) :
    MetFree l (⟨"java/lang/StringUTF16", "compress", "([CII)[B"⟩ : MethodName) (head1 (Jvm.Cond.code (⟨"java/lang/StringUTF16", "compress", "([CII)[B"⟩ : MethodName) jdk_52_method_16_code 6 (some (.array .byte)) :: ws) ({ frames := 1, cells := 1, slots := 1, locals := 18 } : Room)) (fun a U => a = #[(.ref o1), (.int (0 : Int32)), (.int (1 : Int32))] ∧ Z.Warmed39 U.vm ∧ U.heap = h0) (fun _ _ _ _ _ => True) (fun _ U o U' => ∃ v L, o = .returned v ∧ Q_own_c3_1 Z o1 k1 x1 h0 n0 v U'.heap L ∧ FrameEnd U o U' L ({ frames := 1, cells := 1, slots := 1, locals := 18 } : Room).cells ({ frames := 1, cells := 1, slots := 1, locals := 18 } : Room).slots) := by
  refine MetFree.of_bodySF (plainFor_of_name own_pn_java_lang_StringUTF16) hisR ?_
  intro p e s m args below meth c s₁ Bd hml0 hP hK
  obtain ⟨rfl, hZ, hh⟩ := hP
  have hx := Bd.exec
  have hby := Bd.bytes
  have hml : c.maxLocals = 6 := hml0
  have hown : s.vm.findClass "java/lang/StringUTF16" = some m.cls := findClass_of_methodNamed Bd.named
  have hnm := (name_of_methodNamed Bd.named Bd.method).1
  have hlk : meth.locks = false := BodyLoose.notSynchronized Bd
  have X0 : Stand p l e ({ frames := 1, cells := 1, slots := 1, locals := 18 } : Room) s m #[(.ref o1), (.int (0 : Int32)), (.int (1 : Int32))] below meth c s₁ [] 0 0 := Stand.of_body Bd
  have e0 : s₁.heap = h0 := by rw [← hh, Bd.state]; rfl
  have N0 := Fr.nil n0
  show own_Go p e below #[(.ref o1), (.int (0 : Int32)), (.int (1 : Int32))] s (fun _ U o U' => ∃ v L, o = .returned v ∧ Q_own_c3_1 Z o1 k1 x1 h0 n0 v U'.heap L ∧ FrameEnd U o U' L ({ frames := 1, cells := 1, slots := 1, locals := 18 } : Room).cells ({ frames := 1, cells := 1, slots := 1, locals := 18 } : Room).slots) (s₁.setTop (entryFrame m #[(.ref o1), (.int (0 : Int32)), (.int (1 : Int32))] 6))
  refine own_st (V := s₁.setTop (mkF m 0 #[.val (.ref o1), .val (.int (0 : Int32)), .val (.int (1 : Int32)), .unset, .unset, .unset] [])) (fun t k => castTop (by first | (simp [entryFrame, mkF, argsToLocals, Value.category]; done) | rfl) k) ?_
  refine own_st (V := s₁.setTop (mkF m 1 #[.val (.ref o1), .val (.int (0 : Int32)), .val (.int (1 : Int32)), .unset, .unset, .unset] [(.int (1 : Int32))])) (fun t k => XS.iloadN X0.here hx rfl (hb hby own_d4_0) rfl k) ?_
  obtain ⟨T3, h3, k3, X3, e3, E3, A3, st3⟩ := newP X0 hx hZ (hw _ (List.mem_of_getElem? (i := 23) rfl)) e0 (g := (mkF m 1 #[.val (.ref o1), .val (.int (0 : Int32)), .val (.int (1 : Int32)), .unset, .unset, .unset] [(.int (1 : Int32))])) rfl (hb hby own_d4_1) rfl (by decide) (cap := 1) (by decide) (by decide) (by decide) (by decide)
  obtain ⟨b3, g3⟩ : ∃ z, z = h0.size := ⟨_, rfl⟩
  rw [← g3] at A3 st3
  have gb_b3 : n0 ≤ b3 := Nat.le_trans Z0 (Nat.le_of_eq g3.symm)
  have Z0_3 : n0 ≤ h3.size := Nat.le_trans Z0 E3.1
  have sz_b3 : h0.size ≤ b3 := Nat.le_trans (Keep.refl h0 []).1 (Nat.le_of_eq g3.symm)
  have Kc3 := (Keep.refl h0 []).ext E3
  have ne_o1_b3 : o1 ≠ b3 := Nat.ne_of_lt (Nat.lt_of_lt_of_le V1.lt (Nat.le_of_eq g3.symm))
  have V3_o1 := V1.ext E3
  have V3_b3 : Arv Z h3 b3 k3 .byte (1 : Int32) [(.int (0 : Int32))] (.int (0 : Int32)) := (Arv.new A3 (by decide)).pad (pad_rep [] (.int (0 : Int32)) 1)
  refine own_st (V := T3.setTop (mkF m 3 #[.val (.ref o1), .val (.int (0 : Int32)), .val (.int (1 : Int32)), .unset, .unset, .unset] [(.ref b3)])) (fun t k => st3 _ k) ?_
  refine own_st (V := T3.setTop (mkF m 4 #[.val (.ref o1), .val (.int (0 : Int32)), .val (.int (1 : Int32)), .val (.ref b3), .unset, .unset] [])) (fun t k => XS.astoreN X3.here hx rfl (hb hby own_d4_3) rfl rfl (l' := #[.val (.ref o1), .val (.int (0 : Int32)), .val (.int (1 : Int32)), .val (.ref b3), .unset, .unset]) rfl k) ?_
  refine own_st (V := T3.setTop (mkF m 5 #[.val (.ref o1), .val (.int (0 : Int32)), .val (.int (1 : Int32)), .val (.ref b3), .unset, .unset] [(.ref o1)])) (fun t k => XS.aloadN X3.here hx rfl (hb hby own_d4_4) rfl rfl k) ?_
  refine own_st (V := T3.setTop (mkF m 6 #[.val (.ref o1), .val (.int (0 : Int32)), .val (.int (1 : Int32)), .val (.ref b3), .unset, .unset] [(.int (0 : Int32)), (.ref o1)])) (fun t k => XS.iloadN X3.here hx rfl (hb hby own_d4_5) rfl k) ?_
  refine own_st (V := T3.setTop (mkF m 7 #[.val (.ref o1), .val (.int (0 : Int32)), .val (.int (1 : Int32)), .val (.ref b3), .unset, .unset] [(.ref b3), (.int (0 : Int32)), (.ref o1)])) (fun t k => XS.aloadN X3.here hx rfl (hb hby own_d4_6) rfl rfl k) ?_
  refine own_st (V := T3.setTop (mkF m 8 #[.val (.ref o1), .val (.int (0 : Int32)), .val (.int (1 : Int32)), .val (.ref b3), .unset, .unset] [(.int (0 : Int32)), (.ref b3), (.int (0 : Int32)), (.ref o1)])) (fun t k => XS.iconst X3.here hx rfl (hb hby own_d4_7) k) ?_
  refine own_st (V := T3.setTop (mkF m 9 #[.val (.ref o1), .val (.int (0 : Int32)), .val (.int (1 : Int32)), .val (.ref b3), .unset, .unset] [(.int (1 : Int32)), (.int (0 : Int32)), (.ref b3), (.int (0 : Int32)), (.ref o1)])) (fun t k => XS.iloadN X3.here hx rfl (hb hby own_d4_8) rfl k) ?_
  obtain ⟨_, _, ⟨T4, L4, k4, n4⟩, -, X4, ⟨Lc4, hQ4, l4, y4, z4⟩, st4⟩ := Jvm.LawKit.callS X3 hx (y := (⟨"java/lang/StringUTF16", "compress", "([CI[BII)I"⟩ : MethodName)) hown (mvT hZ (hw _ (List.mem_of_getElem? (i := 24) rfl))) (mvT hZ (hw _ (List.mem_of_getElem? (i := 25) rfl))) (mvT hZ (hw _ (List.mem_of_getElem? (i := 21) rfl))) (mvT hZ (hw _ (List.mem_of_getElem? (i := 26) rfl))) (by decide) (backOf (W := 0) (own_c5_1 l Z a0 hw [] o1 b3 k1 k3 x1 h3 n0 Z0_3 V3_o1 V3_b3 ne_o1_b3 gb_b3 hx1) hZ (hw _ (List.mem_of_getElem? (i := 26) rfl)) (hw _ (List.mem_of_getElem? (i := 21) rfl)) (by decide) (by decide)) (g := (mkF m 9 #[.val (.ref o1), .val (.int (0 : Int32)), .val (.int (1 : Int32)), .val (.ref b3), .unset, .unset] [(.int (1 : Int32)), (.int (0 : Int32)), (.ref b3), (.int (0 : Int32)), (.ref o1)])) rfl (by rw [hml]; rfl) (argsL := [(.ref o1), (.int (0 : Int32)), (.ref b3), (.int (0 : Int32)), (.int (1 : Int32))]) (rest := []) (lenOf own_pd0 rfl) rfl (by show 2 * 0 + _ ≤ _; exact Nat.le_of_eq rfl) (hb hby own_d4_9) (fun _ _ => ⟨rfl, e3, (by decide : 1 + 0 ≤ _), (by decide : 1 + 0 ≤ _)⟩)
  dsimp only [Pt.U, Pt.locs, Pt.cells, Pt.slots] at X4 l4 y4 z4 st4 hQ4
  subst l4 y4 z4
  obtain ⟨rfl, N4q, K4, vs4, Vq4⟩ := hQ4
  have N4 := Fr.app N0 N4q
  have Z0_4 : n0 ≤ T4.heap.size := Nat.le_trans Z0_3 K4.1
  have Kc4 := Kc3.trans K4 (fun x hx => Or.inr (by cases List.mem_singleton.mp hx; exact sz_b3))
  have V4_o1 := V3_o1.keep K4 (ninS ne_o1_b3 nin0)
  refine own_st (V := T4.setTop (mkF m 12 #[.val (.ref o1), .val (.int (0 : Int32)), .val (.int (1 : Int32)), .val (.ref b3), .unset, .unset] [(.int (1 : Int32))])) (fun t k => st4 _ k) ?_
  refine own_st (V := T4.setTop (mkF m 14 #[.val (.ref o1), .val (.int (0 : Int32)), .val (.int (1 : Int32)), .val (.ref b3), .val (.int (1 : Int32)), .unset] [])) (fun t k => XS.istore X4.here hx rfl (hb hby own_d4_12) rfl (l' := #[.val (.ref o1), .val (.int (0 : Int32)), .val (.int (1 : Int32)), .val (.ref b3), .val (.int (1 : Int32)), .unset]) rfl k) ?_
  refine own_st (V := T4.setTop (mkF m 16 #[.val (.ref o1), .val (.int (0 : Int32)), .val (.int (1 : Int32)), .val (.ref b3), .val (.int (1 : Int32)), .unset] [(.int (1 : Int32))])) (fun t k => XS.iload X4.here hx rfl (hb hby own_d4_14) rfl k) ?_
  refine own_st (V := T4.setTop (mkF m 17 #[.val (.ref o1), .val (.int (0 : Int32)), .val (.int (1 : Int32)), .val (.ref b3), .val (.int (1 : Int32)), .unset] [(.int (1 : Int32)), (.int (1 : Int32))])) (fun t k => XS.iloadN X4.here hx rfl (hb hby own_d4_16) rfl k) ?_
  refine own_st (V := T4.setTop (mkF m 57 #[.val (.ref o1), .val (.int (0 : Int32)), .val (.int (1 : Int32)), .val (.ref b3), .val (.int (1 : Int32)), .unset] [])) (fun t k => XS.icmpYes X4.here hx rfl (pc0 := 17) (pc' := 57) rfl (hb hby own_d4_17) rfl (teq (by decide : (1 : Int32) = (1 : Int32))).1 (by decide) (by decide) k) ?_
  refine own_st (V := T4.setTop (mkF m 58 #[.val (.ref o1), .val (.int (0 : Int32)), .val (.int (1 : Int32)), .val (.ref b3), .val (.int (1 : Int32)), .unset] [(.ref b3)])) (fun t k => XS.aloadN X4.here hx rfl (hb hby own_d4_57) rfl rfl k) ?_
  exact own_ret X4 hx hlk Bd.returns rfl (Or.inr (Or.inr (Or.inr (Or.inr ⟨rfl, rfl, rfl⟩)))) (hb hby own_d4_58) (by decide) (by decide) (by show Q_own_c3_1 Z o1 k1 x1 h0 n0 _ T4.heap _; exact ⟨_, rfl, N4, Kc4, sz_b3, gb_b3, _, _, Vq4⟩)
def Q_own_cf_1 (Z : State) (o1 : Addr) (k1 : ClassId) (vs : List Value) (h0 : Heap) (n0 : Nat) (v : Option Value) (h : Heap) (L : List Loc) : Prop := v = some (.int (0 : Int32)) ∧ Fr n0 L ∧ h = h0
theorem own_d6_0 : decode jdk_52_method_15_code 0 = .ok (.iload_n 1, 1) := by decide +kernel
theorem own_d6_1 : decode jdk_52_method_15_code 1 = .ok (.aload_n 0, 1) := by decide +kernel
theorem own_d6_2 : decode jdk_52_method_15_code 2 = .ok (.arraylength, 1) := by decide +kernel
theorem own_d6_3 : decode jdk_52_method_15_code 3 = .ok (.isub, 1) := by decide +kernel
theorem own_d6_4 : decode jdk_52_method_15_code 4 = .ok (.bipush 31, 2) := by decide +kernel
theorem own_d6_6 : decode jdk_52_method_15_code 6 = .ok (.iushr, 1) := by decide +kernel
theorem own_d6_7 : decode jdk_52_method_15_code 7 = .ok (.i2b, 1) := by decide +kernel
theorem own_d6_8 : decode jdk_52_method_15_code 8 = .ok (.ireturn, 1) := by decide +kernel
set_option maxRecDepth 65536 in
set_option maxHeartbeats 40000000 in
theorem own_cf_1 (l : Launch) (Z : State) (a0 : Array Value) (hw : ∀ d ∈ tables_1, d.before a0 Z = true) (ws : List Jvm.Cond) (o1 : Addr) (k1 : ClassId) (vs : List Value) (h0 : Heap) (n0 : Nat) (Z0 : n0 ≤ h0.size) (V1 : Arv Z h0 o1 k1 .byte (1 : Int32) vs (.int (0 : Int32))) :
    MetFree l (⟨"java/lang/StringUTF16", "coderFromArrayLen", "([BI)B"⟩ : MethodName) (head1 (Jvm.Cond.code (⟨"java/lang/StringUTF16", "coderFromArrayLen", "([BI)B"⟩ : MethodName) jdk_52_method_15_code 2 (some .byte) :: ws) ({ frames := 0, cells := 0, slots := 0, locals := 0 } : Room)) (fun a U => a = #[(.ref o1), (.int (1 : Int32))] ∧ Z.Warmed39 U.vm ∧ U.heap = h0) (fun _ _ _ _ _ => True) (fun _ U o U' => ∃ v L, o = .returned v ∧ Q_own_cf_1 Z o1 k1 vs h0 n0 v U'.heap L ∧ FrameEnd U o U' L ({ frames := 0, cells := 0, slots := 0, locals := 0 } : Room).cells ({ frames := 0, cells := 0, slots := 0, locals := 0 } : Room).slots) := by
  refine MetFree.of_bodySF (plainFor_of_name own_pn_java_lang_StringUTF16) hisR ?_
  intro p e s m args below meth c s₁ Bd hml0 hP hK
  obtain ⟨rfl, hZ, hh⟩ := hP
  have hx := Bd.exec
  have hby := Bd.bytes
  have hml : c.maxLocals = 2 := hml0
  have hown : s.vm.findClass "java/lang/StringUTF16" = some m.cls := findClass_of_methodNamed Bd.named
  have hnm := (name_of_methodNamed Bd.named Bd.method).1
  have hlk : meth.locks = false := BodyLoose.notSynchronized Bd
  have X0 : Stand p l e ({ frames := 0, cells := 0, slots := 0, locals := 0 } : Room) s m #[(.ref o1), (.int (1 : Int32))] below meth c s₁ [] 0 0 := Stand.of_body Bd
  have e0 : s₁.heap = h0 := by rw [← hh, Bd.state]; rfl
  have N0 := Fr.nil n0
  show own_Go p e below #[(.ref o1), (.int (1 : Int32))] s (fun _ U o U' => ∃ v L, o = .returned v ∧ Q_own_cf_1 Z o1 k1 vs h0 n0 v U'.heap L ∧ FrameEnd U o U' L ({ frames := 0, cells := 0, slots := 0, locals := 0 } : Room).cells ({ frames := 0, cells := 0, slots := 0, locals := 0 } : Room).slots) (s₁.setTop (entryFrame m #[(.ref o1), (.int (1 : Int32))] 2))
  refine own_st (V := s₁.setTop (mkF m 0 #[.val (.ref o1), .val (.int (1 : Int32))] [])) (fun t k => castTop (by first | (simp [entryFrame, mkF, argsToLocals, Value.category]; done) | rfl) k) ?_
  refine own_st (V := s₁.setTop (mkF m 1 #[.val (.ref o1), .val (.int (1 : Int32))] [(.int (1 : Int32))])) (fun t k => XS.iloadN X0.here hx rfl (hb hby own_d6_0) rfl k) ?_
  refine own_st (V := s₁.setTop (mkF m 2 #[.val (.ref o1), .val (.int (1 : Int32))] [(.ref o1), (.int (1 : Int32))])) (fun t k => XS.aloadN X0.here hx rfl (hb hby own_d6_1) rfl rfl k) ?_
  have Vk5 := V1
  obtain ⟨cl5, Ar5, qk5, sz5, nn5, hs5, fs5⟩ := Vk5
  refine own_st (V := s₁.setTop (mkF m 3 #[.val (.ref o1), .val (.int (1 : Int32))] [(.int (1 : Int32)), (.int (1 : Int32))])) (fun t k => X0.arraylength hx (by rw [e0]; exact Ar5.1) (State.isArrayOf_alike hZ.alike Ar5.2.1) (g := (mkF m 2 #[.val (.ref o1), .val (.int (1 : Int32))] [(.ref o1), (.int (1 : Int32))])) rfl rfl (hb hby own_d6_2) _ (by rw [len_of sz5 nn5]; exact k)) ?_
  refine own_st (V := s₁.setTop (mkF m 4 #[.val (.ref o1), .val (.int (1 : Int32))] [(.int ((1 : Int32) - (1 : Int32)))])) (fun t k => XS.isub X0.here hx rfl (hb hby own_d6_3) rfl k) ?_
  refine own_st (V := s₁.setTop (mkF m 6 #[.val (.ref o1), .val (.int (1 : Int32))] [(.int (31 : Int32)), (.int ((1 : Int32) - (1 : Int32)))])) (fun t k => XS.bipush X0.here hx rfl (hb hby own_d6_4) k) ?_
  refine own_st (V := s₁.setTop (mkF m 7 #[.val (.ref o1), .val (.int (1 : Int32))] [(.int ((((1 : Int32) - (1 : Int32)).toUInt32 >>> ((31 : Int32) &&& 31).toUInt32).toInt32))])) (fun t k => XS.iushr X0.here hx rfl (hb hby own_d6_6) rfl k) ?_
  refine own_st (V := s₁.setTop (mkF m 8 #[.val (.ref o1), .val (.int (1 : Int32))] [(.int (((((1 : Int32) - (1 : Int32)).toUInt32 >>> ((31 : Int32) &&& 31).toUInt32).toInt32).toInt8.toInt32))])) (fun t k => XS.i2b X0.here hx rfl (hb hby own_d6_7) rfl k) ?_
  rw [show (((((1 : Int32) - (1 : Int32)).toUInt32 >>> ((31 : Int32) &&& 31).toUInt32).toInt32).toInt8.toInt32) = (0 : Int32) from by decide +kernel]
  exact own_ret X0 hx hlk Bd.returns (by decide +kernel) (Or.inl ⟨rfl, by simp, _, rfl⟩) (hb hby own_d6_8) (by decide) (by decide) (by show Q_own_cf_1 Z o1 k1 vs h0 n0 _ s₁.heap _; rw [e0]; exact ⟨rfl, N0, rfl⟩)
def Q_own_s4_1 (Z : State) (o1 o2 : Addr) (k2 : ClassId) (cs : Int32) (x1 : Int32) (h0 : Heap) (n0 : Nat) (v : Option Value) (h : Heap) (L : List Loc) : Prop := v = none ∧ Fr n0 L ∧ Keep h0 h [o1] ∧ Exa Z h o1 "java/lang/String" ∧ ∃ b k vs, h0.size ≤ b ∧ Fld Z h o1 "java/lang/String" "value" "[B" (.ref b) ∧ Arv Z h b k .byte (1 : Int32) vs (.int (0 : Int32))
theorem own_d2_0 : decode jdk_42_method_149_code 0 = .ok (.aload_n 0, 1) := by decide +kernel
theorem own_d2_1 : decode jdk_42_method_149_code 1 = .ok (.invokespecial 1, 3) := by decide +kernel
theorem own_d2_4 : decode jdk_42_method_149_code 4 = .ok (.iload_n 3, 1) := by decide +kernel
theorem own_d2_5 : decode jdk_42_method_149_code 5 = .ok (.ifCond .ne 22, 3) := by decide +kernel
theorem own_d2_27 : decode jdk_42_method_149_code 27 = .ok (.getstatic 38, 3) := by decide +kernel
theorem own_d2_30 : decode jdk_42_method_149_code 30 = .ok (.ifCond .eq 28, 3) := by decide +kernel
theorem own_d2_33 : decode jdk_42_method_149_code 33 = .ok (.aload_n 1, 1) := by decide +kernel
theorem own_d2_34 : decode jdk_42_method_149_code 34 = .ok (.iload_n 2, 1) := by decide +kernel
theorem own_d2_35 : decode jdk_42_method_149_code 35 = .ok (.iload_n 3, 1) := by decide +kernel
theorem own_d2_36 : decode jdk_42_method_149_code 36 = .ok (.invokestatic 177, 3) := by decide +kernel
theorem own_pd1 : parseMethodDescriptor "([CII)[B" = some ⟨[(.array .char), .int, .int], some (.array .byte)⟩ := by decide +kernel
theorem own_d2_39 : decode jdk_42_method_149_code 39 = .ok (.astore 5, 2) := by decide +kernel
theorem own_d2_41 : decode jdk_42_method_149_code 41 = .ok (.aload_n 0, 1) := by decide +kernel
theorem own_d2_42 : decode jdk_42_method_149_code 42 = .ok (.aload 5, 2) := by decide +kernel
theorem own_d2_44 : decode jdk_42_method_149_code 44 = .ok (.iload_n 3, 1) := by decide +kernel
theorem own_d2_45 : decode jdk_42_method_149_code 45 = .ok (.invokestatic 47, 3) := by decide +kernel
theorem own_pd2 : parseMethodDescriptor "([BI)B" = some ⟨[(.array .byte), .int], some .byte⟩ := by decide +kernel
theorem own_d2_48 : decode jdk_42_method_149_code 48 = .ok (.putfield 15, 3) := by decide +kernel
theorem own_d2_51 : decode jdk_42_method_149_code 51 = .ok (.aload_n 0, 1) := by decide +kernel
theorem own_d2_52 : decode jdk_42_method_149_code 52 = .ok (.aload 5, 2) := by decide +kernel
theorem own_d2_54 : decode jdk_42_method_149_code 54 = .ok (.putfield 9, 3) := by decide +kernel
theorem own_d2_57 : decode jdk_42_method_149_code 57 = .ok (.return_, 1) := by decide +kernel
theorem own_pn_java_lang_String : plainName "java/lang/String" = true := by first | (simp [plainName, overriddenIn]; done) | decide +kernel
set_option maxRecDepth 65536 in
set_option maxHeartbeats 40000000 in
theorem own_s4_1 (l : Launch) (Z : State) (a0 : Array Value) (hw : ∀ d ∈ tables_1, d.before a0 Z = true) (ws : List Jvm.Cond) (o1 o2 : Addr) (k2 : ClassId) (cs : Int32) (x1 : Int32) (h0 : Heap) (n0 : Nat) (Z0 : n0 ≤ h0.size) (Od : Old Z n0 h0) (SC : Sta Z Z.heap "java/lang/String" "COMPACT_STRINGS" "Z" (.int cs)) (hcs : ¬ (cs = (0 : Int32))) (E1 : Exa Z h0 o1 "java/lang/String") (g1 : n0 ≤ o1) (F1 : Fld Z h0 o1 "java/lang/String" "value" "[B" .null) (F2 : Fld Z h0 o1 "java/lang/String" "coder" "B" (.int (0 : Int32))) (V2 : Arv Z h0 o2 k2 .char (1 : Int32) [(.int x1)] (.int (0 : Int32))) (n21 : o2 ≠ o1) (hx1 : ¬ ((255 : Int32) < x1)) :
    MetFree l (⟨"java/lang/String", "<init>", "([CIILjava/lang/Void;)V"⟩ : MethodName) (head1 (Jvm.Cond.code (⟨"java/lang/String", "<init>", "([CIILjava/lang/Void;)V"⟩ : MethodName) jdk_42_method_149_code 6 none :: ws) ({ frames := 2, cells := 1, slots := 1, locals := 35 } : Room)) (fun a U => a = #[(.ref o1), (.ref o2), (.int (0 : Int32)), (.int (1 : Int32)), .null] ∧ Z.Warmed39 U.vm ∧ U.heap = h0) (fun _ _ _ _ _ => True) (fun _ U o U' => ∃ v L, o = .returned v ∧ Q_own_s4_1 Z o1 o2 k2 cs x1 h0 n0 v U'.heap L ∧ FrameEnd U o U' L ({ frames := 2, cells := 1, slots := 1, locals := 35 } : Room).cells ({ frames := 2, cells := 1, slots := 1, locals := 35 } : Room).slots) := by
  refine MetFree.of_bodySF (plainFor_of_name own_pn_java_lang_String) hisR ?_
  intro p e s m args below meth c s₁ Bd hml0 hP hK
  obtain ⟨rfl, hZ, hh⟩ := hP
  have hx := Bd.exec
  have hby := Bd.bytes
  have hml : c.maxLocals = 6 := hml0
  have hown : s.vm.findClass "java/lang/String" = some m.cls := findClass_of_methodNamed Bd.named
  have hnm := (name_of_methodNamed Bd.named Bd.method).1
  have hlk : meth.locks = false := BodyLoose.notSynchronized Bd
  have X0 : Stand p l e ({ frames := 2, cells := 1, slots := 1, locals := 35 } : Room) s m #[(.ref o1), (.ref o2), (.int (0 : Int32)), (.int (1 : Int32)), .null] below meth c s₁ [] 0 0 := Stand.of_body Bd
  have e0 : s₁.heap = h0 := by rw [← hh, Bd.state]; rfl
  have N0 := Fr.nil n0
  show own_Go p e below #[(.ref o1), (.ref o2), (.int (0 : Int32)), (.int (1 : Int32)), .null] s (fun _ U o U' => ∃ v L, o = .returned v ∧ Q_own_s4_1 Z o1 o2 k2 cs x1 h0 n0 v U'.heap L ∧ FrameEnd U o U' L ({ frames := 2, cells := 1, slots := 1, locals := 35 } : Room).cells ({ frames := 2, cells := 1, slots := 1, locals := 35 } : Room).slots) (s₁.setTop (entryFrame m #[(.ref o1), (.ref o2), (.int (0 : Int32)), (.int (1 : Int32)), .null] 6))
  refine own_st (V := s₁.setTop (mkF m 0 #[.val (.ref o1), .val (.ref o2), .val (.int (0 : Int32)), .val (.int (1 : Int32)), .val .null, .unset] [])) (fun t k => castTop (by first | (simp [entryFrame, mkF, argsToLocals, Value.category]; done) | rfl) k) ?_
  refine own_st (V := s₁.setTop (mkF m 1 #[.val (.ref o1), .val (.ref o2), .val (.int (0 : Int32)), .val (.int (1 : Int32)), .val .null, .unset] [(.ref o1)])) (fun t k => XS.aloadN X0.here hx rfl (hb hby own_d2_0) rfl rfl k) ?_
  obtain ⟨T6, X6, e6, st6⟩ := initO X0 hx hZ hown (hw _ (List.mem_of_getElem? (i := 15) rfl)) (hw _ (List.mem_of_getElem? (i := 16) rfl)) (hw _ (List.mem_of_getElem? (i := 17) rfl)) e0 (g := (mkF m 1 #[.val (.ref o1), .val (.ref o2), .val (.int (0 : Int32)), .val (.int (1 : Int32)), .val .null, .unset] [(.ref o1)])) rfl (by rw [hml]; rfl) rfl (hb hby own_d2_1) (by decide) (W := 0) (by show 2 * 0 + _ ≤ _; exact Nat.le_of_eq rfl) (by decide)
  refine own_st (V := T6.setTop (mkF m 4 #[.val (.ref o1), .val (.ref o2), .val (.int (0 : Int32)), .val (.int (1 : Int32)), .val .null, .unset] [])) (fun t k => st6 _ k) ?_
  refine own_st (V := T6.setTop (mkF m 5 #[.val (.ref o1), .val (.ref o2), .val (.int (0 : Int32)), .val (.int (1 : Int32)), .val .null, .unset] [(.int (1 : Int32))])) (fun t k => XS.iloadN X6.here hx rfl (hb hby own_d2_4) rfl k) ?_
  refine own_st (V := T6.setTop (mkF m 27 #[.val (.ref o1), .val (.ref o2), .val (.int (0 : Int32)), .val (.int (1 : Int32)), .val .null, .unset] [])) (fun t k => XS.ifYes X6.here hx rfl (pc0 := 5) (pc' := 27) rfl (hb hby own_d2_5) rfl ((if0 _ _).trans (feq (by decide : ¬ ((1 : Int32) = (0 : Int32)))).2) (by decide) (by decide) k) ?_
  obtain ⟨T7, X7, e7, st7⟩ := getS2 X6 hx hZ hown (host := "") (Or.inl (hw _ (List.mem_of_getElem? (i := 18) rfl))) Via.refl e6 (own_so Od SC) (g := (mkF m 27 #[.val (.ref o1), .val (.ref o2), .val (.int (0 : Int32)), .val (.int (1 : Int32)), .val .null, .unset] [])) rfl (hb hby own_d2_27)
  refine own_st (V := T7.setTop (mkF m 30 #[.val (.ref o1), .val (.ref o2), .val (.int (0 : Int32)), .val (.int (1 : Int32)), .val .null, .unset] [(.int cs)])) (fun t k => st7 _ k) ?_
  refine own_st (V := T7.setTop (mkF m 33 #[.val (.ref o1), .val (.ref o2), .val (.int (0 : Int32)), .val (.int (1 : Int32)), .val .null, .unset] [])) (fun t k => XS.ifNo X7.here hx rfl (hb hby own_d2_30) rfl ((if0 _ _).trans (feq hcs).1) k) ?_
  refine own_st (V := T7.setTop (mkF m 34 #[.val (.ref o1), .val (.ref o2), .val (.int (0 : Int32)), .val (.int (1 : Int32)), .val .null, .unset] [(.ref o2)])) (fun t k => XS.aloadN X7.here hx rfl (hb hby own_d2_33) rfl rfl k) ?_
  refine own_st (V := T7.setTop (mkF m 35 #[.val (.ref o1), .val (.ref o2), .val (.int (0 : Int32)), .val (.int (1 : Int32)), .val .null, .unset] [(.int (0 : Int32)), (.ref o2)])) (fun t k => XS.iloadN X7.here hx rfl (hb hby own_d2_34) rfl k) ?_
  refine own_st (V := T7.setTop (mkF m 36 #[.val (.ref o1), .val (.ref o2), .val (.int (0 : Int32)), .val (.int (1 : Int32)), .val .null, .unset] [(.int (1 : Int32)), (.int (0 : Int32)), (.ref o2)])) (fun t k => XS.iloadN X7.here hx rfl (hb hby own_d2_35) rfl k) ?_
  obtain ⟨_, _, ⟨T8, L8, k8, n8⟩, -, X8, ⟨Lc8, hQ8, l8, y8, z8⟩, st8⟩ := Jvm.LawKit.callS X7 hx (y := (⟨"java/lang/StringUTF16", "compress", "([CII)[B"⟩ : MethodName)) hown (mvT hZ (hw _ (List.mem_of_getElem? (i := 19) rfl))) (mvT hZ (hw _ (List.mem_of_getElem? (i := 20) rfl))) (mvT hZ (hw _ (List.mem_of_getElem? (i := 21) rfl))) (mvT hZ (hw _ (List.mem_of_getElem? (i := 22) rfl))) (by decide) (backOf (W := 0) (own_c3_1 l Z a0 hw [] o2 k2 x1 h0 n0 Z0 V2 hx1) hZ (hw _ (List.mem_of_getElem? (i := 22) rfl)) (hw _ (List.mem_of_getElem? (i := 21) rfl)) (by decide) (by decide)) (g := (mkF m 36 #[.val (.ref o1), .val (.ref o2), .val (.int (0 : Int32)), .val (.int (1 : Int32)), .val .null, .unset] [(.int (1 : Int32)), (.int (0 : Int32)), (.ref o2)])) rfl (by rw [hml]; rfl) (argsL := [(.ref o2), (.int (0 : Int32)), (.int (1 : Int32))]) (rest := []) (lenOf own_pd1 rfl) rfl (by show 2 * 0 + _ ≤ _; exact Nat.le_of_eq rfl) (hb hby own_d2_36) (fun _ _ => ⟨rfl, e7, (by decide : 0 + 1 ≤ _), (by decide : 0 + 1 ≤ _)⟩)
  dsimp only [Pt.U, Pt.locs, Pt.cells, Pt.slots] at X8 l8 y8 z8 st8 hQ8
  subst l8 y8 z8
  obtain ⟨s8, rfl, N8q, K8, szs8', gb_s8, kbs8, vss8, Vq8⟩ := hQ8
  have N8 := Fr.app N0 N8q
  have Z0_8 : n0 ≤ T8.heap.size := Nat.le_trans Z0 K8.1
  have Kc8 := (Keep.refl h0 [o1]).trans K8 all0
  have sz_s8 : h0.size ≤ s8 := Nat.le_trans (Keep.refl h0 [o1]).1 szs8'
  have ne_o1_s8 : o1 ≠ s8 := Nat.ne_of_lt (Nat.lt_of_lt_of_le E1.lt szs8')
  have ne_o2_s8 : o2 ≠ s8 := Nat.ne_of_lt (Nat.lt_of_lt_of_le V2.lt szs8')
  have F8_o1_value := F1.keep K8 nin0
  have F8_o1_coder := F2.keep K8 nin0
  have Ex8_o1 := E1.keep K8
  have V8_o2 := V2.keep K8 nin0
  have Od8 := Od.keep K8 all0
  refine own_st (V := T8.setTop (mkF m 39 #[.val (.ref o1), .val (.ref o2), .val (.int (0 : Int32)), .val (.int (1 : Int32)), .val .null, .unset] [(.ref s8)])) (fun t k => st8 _ k) ?_
  refine own_st (V := T8.setTop (mkF m 41 #[.val (.ref o1), .val (.ref o2), .val (.int (0 : Int32)), .val (.int (1 : Int32)), .val .null, .val (.ref s8)] [])) (fun t k => XS.astore X8.here hx rfl (hb hby own_d2_39) rfl rfl (l' := #[.val (.ref o1), .val (.ref o2), .val (.int (0 : Int32)), .val (.int (1 : Int32)), .val .null, .val (.ref s8)]) rfl k) ?_
  refine own_st (V := T8.setTop (mkF m 42 #[.val (.ref o1), .val (.ref o2), .val (.int (0 : Int32)), .val (.int (1 : Int32)), .val .null, .val (.ref s8)] [(.ref o1)])) (fun t k => XS.aloadN X8.here hx rfl (hb hby own_d2_41) rfl rfl k) ?_
  refine own_st (V := T8.setTop (mkF m 44 #[.val (.ref o1), .val (.ref o2), .val (.int (0 : Int32)), .val (.int (1 : Int32)), .val .null, .val (.ref s8)] [(.ref s8), (.ref o1)])) (fun t k => XS.aload X8.here hx rfl (hb hby own_d2_42) rfl rfl k) ?_
  refine own_st (V := T8.setTop (mkF m 45 #[.val (.ref o1), .val (.ref o2), .val (.int (0 : Int32)), .val (.int (1 : Int32)), .val .null, .val (.ref s8)] [(.int (1 : Int32)), (.ref s8), (.ref o1)])) (fun t k => XS.iloadN X8.here hx rfl (hb hby own_d2_44) rfl k) ?_
  obtain ⟨_, _, ⟨T9, L9, k9, n9⟩, -, X9, ⟨Lc9, hQ9, l9, y9, z9⟩, st9⟩ := Jvm.LawKit.callS X8 hx (y := (⟨"java/lang/StringUTF16", "coderFromArrayLen", "([BI)B"⟩ : MethodName)) hown (mvT hZ (hw _ (List.mem_of_getElem? (i := 27) rfl))) (mvT hZ (hw _ (List.mem_of_getElem? (i := 28) rfl))) (mvT hZ (hw _ (List.mem_of_getElem? (i := 21) rfl))) (mvT hZ (hw _ (List.mem_of_getElem? (i := 29) rfl))) (by decide) (backOf (W := 1) (own_cf_1 l Z a0 hw [] s8 kbs8 vss8 T8.heap n0 Z0_8 Vq8) hZ (hw _ (List.mem_of_getElem? (i := 29) rfl)) (hw _ (List.mem_of_getElem? (i := 21) rfl)) (by decide) (by decide)) (g := (mkF m 45 #[.val (.ref o1), .val (.ref o2), .val (.int (0 : Int32)), .val (.int (1 : Int32)), .val .null, .val (.ref s8)] [(.int (1 : Int32)), (.ref s8), (.ref o1)])) rfl (by rw [hml]; rfl) (argsL := [(.ref s8), (.int (1 : Int32))]) (rest := [(.ref o1)]) (lenOf own_pd2 rfl) rfl (by show 2 * 0 + _ ≤ _; exact Nat.le_of_eq rfl) (hb hby own_d2_45) (fun _ _ => ⟨rfl, rfl, (by decide : 1 + 0 ≤ _), (by decide : 1 + 0 ≤ _)⟩)
  dsimp only [Pt.U, Pt.locs, Pt.cells, Pt.slots] at X9 l9 y9 z9 st9 hQ9
  subst l9 y9 z9
  obtain ⟨rfl, N9q, e9⟩ := hQ9
  have N9 := Fr.app N8 N9q
  refine own_st (V := T9.setTop (mkF m 48 #[.val (.ref o1), .val (.ref o2), .val (.int (0 : Int32)), .val (.int (1 : Int32)), .val .null, .val (.ref s8)] [(.int (0 : Int32)), (.ref o1)])) (fun t k => st9 _ k) ?_
  obtain ⟨T10, h10, X10, e10, W10, st10⟩ := putFN X9 hx hZ hown (hw _ (List.mem_of_getElem? (i := 30) rfl)) Via.refl e9 F8_o1_coder Ex8_o1 (Or.inr ⟨(hw _ (List.mem_of_getElem? (i := 31) rfl)), rfl, hnm⟩) (hw _ (List.mem_of_getElem? (i := 6) rfl)) (ty := .byte) (v' := (.int (0 : Int32))) (by decide) (by decide +kernel) (by decide +kernel) (g := (mkF m 48 #[.val (.ref o1), .val (.ref o2), .val (.int (0 : Int32)), .val (.int (1 : Int32)), .val .null, .val (.ref s8)] [(.int (0 : Int32)), (.ref o1)])) rfl rfl (hb hby own_d2_48)
  have N10 := Fr.snoc X10 N9 g1
  have Z0_10 : n0 ≤ h10.size := by rw [W10.size]; exact Z0_8
  have F10_w := F8_o1_coder.same W10
  have Kc10 := Kc8.wr W10 (Or.inl (List.mem_of_getElem? (i := 0) rfl))
  have F10_o1_value := F8_o1_value.other W10 (Or.inr (slot_ne (Or.inr (hw _ (List.mem_of_getElem? (i := 33) rfl))) (Or.inr (hw _ (List.mem_of_getElem? (i := 31) rfl))) (by decide) (t := (.array .byte)) (t' := .byte) (by decide) (by decide)))
  have Ex10_o1 := Ex8_o1.wr W10
  have V10_o2 := V8_o2.other W10 n21
  have V10_s8 := Vq8.other W10 (Ne.symm ne_o1_s8)
  have Od10 := Od8.wr W10 g1
  refine own_st (V := T10.setTop (mkF m 51 #[.val (.ref o1), .val (.ref o2), .val (.int (0 : Int32)), .val (.int (1 : Int32)), .val .null, .val (.ref s8)] [])) (fun t k => st10 _ k) ?_
  refine own_st (V := T10.setTop (mkF m 52 #[.val (.ref o1), .val (.ref o2), .val (.int (0 : Int32)), .val (.int (1 : Int32)), .val .null, .val (.ref s8)] [(.ref o1)])) (fun t k => XS.aloadN X10.here hx rfl (hb hby own_d2_51) rfl rfl k) ?_
  refine own_st (V := T10.setTop (mkF m 54 #[.val (.ref o1), .val (.ref o2), .val (.int (0 : Int32)), .val (.int (1 : Int32)), .val .null, .val (.ref s8)] [(.ref s8), (.ref o1)])) (fun t k => XS.aload X10.here hx rfl (hb hby own_d2_52) rfl rfl k) ?_
  obtain ⟨T11, h11, X11, e11, W11, st11⟩ := putF X10 hx hZ hown (host := "") (Or.inl (hw _ (List.mem_of_getElem? (i := 32) rfl))) Via.refl e10 F10_o1_value Ex10_o1 (Or.inr ⟨(hw _ (List.mem_of_getElem? (i := 33) rfl)), rfl, hnm⟩) (hw _ (List.mem_of_getElem? (i := 6) rfl)) (ty := (.array .byte)) (by decide) rfl rfl (g := (mkF m 54 #[.val (.ref o1), .val (.ref o2), .val (.int (0 : Int32)), .val (.int (1 : Int32)), .val .null, .val (.ref s8)] [(.ref s8), (.ref o1)])) rfl rfl (hb hby own_d2_54)
  have N11 := Fr.snoc X11 N10 g1
  have Z0_11 : n0 ≤ h11.size := by rw [W11.size]; exact Z0_10
  have F11_w := F10_o1_value.same W11
  have Kc11 := Kc10.wr W11 (Or.inl (List.mem_of_getElem? (i := 0) rfl))
  have F11_o1_coder := F10_w.other W11 (Or.inr (slot_ne (Or.inr (hw _ (List.mem_of_getElem? (i := 31) rfl))) (Or.inr (hw _ (List.mem_of_getElem? (i := 33) rfl))) (by decide) (t := .byte) (t' := (.array .byte)) (by decide) (by decide)))
  have Ex11_o1 := Ex10_o1.wr W11
  have V11_o2 := V10_o2.other W11 n21
  have V11_s8 := V10_s8.other W11 (Ne.symm ne_o1_s8)
  have Od11 := Od10.wr W11 g1
  refine own_st (V := T11.setTop (mkF m 57 #[.val (.ref o1), .val (.ref o2), .val (.int (0 : Int32)), .val (.int (1 : Int32)), .val .null, .val (.ref s8)] [])) (fun t k => st11 _ k) ?_
  exact own_ret0 X11 hx hlk Bd.returns (hb hby own_d2_57) (by decide) (by decide) (by show Q_own_s4_1 Z o1 o2 k2 cs x1 h0 n0 _ T11.heap _; rw [e11]; exact ⟨rfl, N11, Kc11, Ex11_o1, s8, _, _, sz_s8, F11_w, V11_s8⟩)
def Q_own_s1_1 (Z : State) (o1 o2 : Addr) (k2 : ClassId) (cs : Int32) (x1 : Int32) (h0 : Heap) (n0 : Nat) (v : Option Value) (h : Heap) (L : List Loc) : Prop := v = none ∧ Fr n0 L ∧ Keep h0 h [o1] ∧ Exa Z h o1 "java/lang/String" ∧ ∃ b k vs, h0.size ≤ b ∧ Fld Z h o1 "java/lang/String" "value" "[B" (.ref b) ∧ Arv Z h b k .byte (1 : Int32) vs (.int (0 : Int32))
theorem own_d1_0 : decode jdk_42_method_3_code 0 = .ok (.aload_n 0, 1) := by decide +kernel
theorem own_d1_1 : decode jdk_42_method_3_code 1 = .ok (.aload_n 1, 1) := by decide +kernel
theorem own_d1_2 : decode jdk_42_method_3_code 2 = .ok (.iconst 0, 1) := by decide +kernel
theorem own_d1_3 : decode jdk_42_method_3_code 3 = .ok (.aload_n 1, 1) := by decide +kernel
theorem own_d1_4 : decode jdk_42_method_3_code 4 = .ok (.arraylength, 1) := by decide +kernel
theorem own_d1_5 : decode jdk_42_method_3_code 5 = .ok (.aconst_null, 1) := by decide +kernel
theorem own_d1_6 : decode jdk_42_method_3_code 6 = .ok (.invokespecial 27, 3) := by decide +kernel
theorem own_pd3 : parseMethodDescriptor "([CIILjava/lang/Void;)V" = some ⟨[(.array .char), .int, .int, (.object "java/lang/Void")], none⟩ := by decide +kernel
theorem own_d1_9 : decode jdk_42_method_3_code 9 = .ok (.return_, 1) := by decide +kernel
set_option maxRecDepth 65536 in
set_option maxHeartbeats 40000000 in
theorem own_s1_1 (l : Launch) (Z : State) (a0 : Array Value) (hw : ∀ d ∈ tables_1, d.before a0 Z = true) (ws : List Jvm.Cond) (o1 o2 : Addr) (k2 : ClassId) (cs : Int32) (x1 : Int32) (h0 : Heap) (n0 : Nat) (Z0 : n0 ≤ h0.size) (Od : Old Z n0 h0) (SC : Sta Z Z.heap "java/lang/String" "COMPACT_STRINGS" "Z" (.int cs)) (hcs : ¬ (cs = (0 : Int32))) (E1 : Exa Z h0 o1 "java/lang/String") (g1 : n0 ≤ o1) (F1 : Fld Z h0 o1 "java/lang/String" "value" "[B" .null) (F2 : Fld Z h0 o1 "java/lang/String" "coder" "B" (.int (0 : Int32))) (V2 : Arv Z h0 o2 k2 .char (1 : Int32) [(.int x1)] (.int (0 : Int32))) (n21 : o2 ≠ o1) (hx1 : ¬ ((255 : Int32) < x1)) :
    MetFree l (⟨"java/lang/String", "<init>", "([C)V"⟩ : MethodName) (head1 (Jvm.Cond.code (⟨"java/lang/String", "<init>", "([C)V"⟩ : MethodName) jdk_42_method_3_code 2 none :: ws) ({ frames := 3, cells := 1, slots := 1, locals := 52 } : Room)) (fun a U => a = #[(.ref o1), (.ref o2)] ∧ Z.Warmed39 U.vm ∧ U.heap = h0) (fun _ _ _ _ _ => True) (fun _ U o U' => ∃ v L, o = .returned v ∧ Q_own_s1_1 Z o1 o2 k2 cs x1 h0 n0 v U'.heap L ∧ FrameEnd U o U' L ({ frames := 3, cells := 1, slots := 1, locals := 52 } : Room).cells ({ frames := 3, cells := 1, slots := 1, locals := 52 } : Room).slots) := by
  refine MetFree.of_bodySF (plainFor_of_name own_pn_java_lang_String) hisR ?_
  intro p e s m args below meth c s₁ Bd hml0 hP hK
  obtain ⟨rfl, hZ, hh⟩ := hP
  have hx := Bd.exec
  have hby := Bd.bytes
  have hml : c.maxLocals = 2 := hml0
  have hown : s.vm.findClass "java/lang/String" = some m.cls := findClass_of_methodNamed Bd.named
  have hnm := (name_of_methodNamed Bd.named Bd.method).1
  have hlk : meth.locks = false := BodyLoose.notSynchronized Bd
  have X0 : Stand p l e ({ frames := 3, cells := 1, slots := 1, locals := 52 } : Room) s m #[(.ref o1), (.ref o2)] below meth c s₁ [] 0 0 := Stand.of_body Bd
  have e0 : s₁.heap = h0 := by rw [← hh, Bd.state]; rfl
  have N0 := Fr.nil n0
  show own_Go p e below #[(.ref o1), (.ref o2)] s (fun _ U o U' => ∃ v L, o = .returned v ∧ Q_own_s1_1 Z o1 o2 k2 cs x1 h0 n0 v U'.heap L ∧ FrameEnd U o U' L ({ frames := 3, cells := 1, slots := 1, locals := 52 } : Room).cells ({ frames := 3, cells := 1, slots := 1, locals := 52 } : Room).slots) (s₁.setTop (entryFrame m #[(.ref o1), (.ref o2)] 2))
  refine own_st (V := s₁.setTop (mkF m 0 #[.val (.ref o1), .val (.ref o2)] [])) (fun t k => castTop (by first | (simp [entryFrame, mkF, argsToLocals, Value.category]; done) | rfl) k) ?_
  refine own_st (V := s₁.setTop (mkF m 1 #[.val (.ref o1), .val (.ref o2)] [(.ref o1)])) (fun t k => XS.aloadN X0.here hx rfl (hb hby own_d1_0) rfl rfl k) ?_
  refine own_st (V := s₁.setTop (mkF m 2 #[.val (.ref o1), .val (.ref o2)] [(.ref o2), (.ref o1)])) (fun t k => XS.aloadN X0.here hx rfl (hb hby own_d1_1) rfl rfl k) ?_
  refine own_st (V := s₁.setTop (mkF m 3 #[.val (.ref o1), .val (.ref o2)] [(.int (0 : Int32)), (.ref o2), (.ref o1)])) (fun t k => XS.iconst X0.here hx rfl (hb hby own_d1_2) k) ?_
  refine own_st (V := s₁.setTop (mkF m 4 #[.val (.ref o1), .val (.ref o2)] [(.ref o2), (.int (0 : Int32)), (.ref o2), (.ref o1)])) (fun t k => XS.aloadN X0.here hx rfl (hb hby own_d1_3) rfl rfl k) ?_
  have Vk12 := V2
  obtain ⟨cl12, Ar12, qk12, sz12, nn12, hs12, fs12⟩ := Vk12
  refine own_st (V := s₁.setTop (mkF m 5 #[.val (.ref o1), .val (.ref o2)] [(.int (1 : Int32)), (.int (0 : Int32)), (.ref o2), (.ref o1)])) (fun t k => X0.arraylength hx (by rw [e0]; exact Ar12.1) (State.isArrayOf_alike hZ.alike Ar12.2.1) (g := (mkF m 4 #[.val (.ref o1), .val (.ref o2)] [(.ref o2), (.int (0 : Int32)), (.ref o2), (.ref o1)])) rfl rfl (hb hby own_d1_4) _ (by rw [len_of sz12 nn12]; exact k)) ?_
  refine own_st (V := s₁.setTop (mkF m 6 #[.val (.ref o1), .val (.ref o2)] [.null, (.int (1 : Int32)), (.int (0 : Int32)), (.ref o2), (.ref o1)])) (fun t k => XS.aconstNull X0.here hx rfl (hb hby own_d1_5) k) ?_
  obtain ⟨_, _, ⟨T13, L13, k13, n13⟩, -, X13, ⟨Lc13, hQ13, l13, y13, z13⟩, st13⟩ := X0.specialBack hx (y := (⟨"java/lang/String", "<init>", "([CIILjava/lang/Void;)V"⟩ : MethodName)) rfl hown (mvT hZ (hw _ (List.mem_of_getElem? (i := 11) rfl))) (mvT hZ (hw _ (List.mem_of_getElem? (i := 12) rfl))) (mvT hZ (hw _ (List.mem_of_getElem? (i := 14) rfl))) (by decide) (backOf (W := 0) (own_s4_1 l Z a0 hw [] o1 o2 k2 cs x1 h0 n0 Z0 Od SC hcs E1 g1 F1 F2 V2 n21 hx1) hZ (hw _ (List.mem_of_getElem? (i := 14) rfl)) (hw _ (List.mem_of_getElem? (i := 7) rfl)) (by decide) (by decide)) (g := (mkF m 6 #[.val (.ref o1), .val (.ref o2)] [.null, (.int (1 : Int32)), (.int (0 : Int32)), (.ref o2), (.ref o1)])) rfl (by rw [hml]; rfl) (Steps.refl _) (a := o1) (argsL := [(.ref o2), (.int (0 : Int32)), (.int (1 : Int32)), .null]) (rest := []) (lenOf own_pd3 rfl) rfl (by show 2 * 0 + _ ≤ _; exact Nat.le_of_eq rfl) (hb hby own_d1_6) (fun _ _ => ⟨rfl, e0, (by decide : 0 + 1 ≤ _), (by decide : 0 + 1 ≤ _)⟩)
  dsimp only [Pt.U, Pt.locs, Pt.cells, Pt.slots] at X13 l13 y13 z13 st13 hQ13
  subst l13 y13 z13
  obtain ⟨rfl, N13q, K13, Ex13_q, t13, kbt13, vst13, szt13', Fq13_0, Vq13⟩ := hQ13
  have N13 := Fr.app N0 N13q
  have Z0_13 : n0 ≤ T13.heap.size := Nat.le_trans Z0 K13.1
  have Kc13 := (Keep.refl h0 [o1]).trans K13 (fun x hx => Or.inl (by cases List.mem_singleton.mp hx; exact List.mem_of_getElem? (i := 0) rfl))
  have sz_t13 : h0.size ≤ t13 := Nat.le_trans (Keep.refl h0 [o1]).1 szt13'
  have ne_o1_t13 : o1 ≠ t13 := Nat.ne_of_lt (Nat.lt_of_lt_of_le E1.lt szt13')
  have ne_o2_t13 : o2 ≠ t13 := Nat.ne_of_lt (Nat.lt_of_lt_of_le V2.lt szt13')
  have Ex13_o1 := E1.keep K13
  have V13_o2 := V2.keep K13 (ninS n21 nin0)
  have Od13 := Od.keep K13 (allS g1 all0)
  refine own_st (V := T13.setTop (mkF m 9 #[.val (.ref o1), .val (.ref o2)] [])) (fun t k => st13.trans k) ?_
  exact own_ret0 X13 hx hlk Bd.returns (hb hby own_d1_9) (by decide) (by decide) (by show Q_own_s1_1 Z o1 o2 k2 cs x1 h0 n0 _ T13.heap _; exact ⟨rfl, N13, Kc13, Ex13_q, t13, _, _, sz_t13, Fq13_0, Vq13⟩)
def Q_own_li (Z : State) (o1 o2 : Addr) (q1 : Int32) (h0 : Heap) (n0 : Nat) (v : Option Value) (h : Heap) (L : List Loc) : Prop := v = none ∧ Fr n0 L ∧ Keep h0 h [o1] ∧ Exa Z h o1 "com/example/trust_grade/trustgrade/network/Level" ∧ Fld Z h o1 "com/example/trust_grade/trustgrade/network/Level" "rank" "I" (.int q1)
theorem own_d7_0 : decode prog_31_method_1_code 0 = .ok (.aload_n 0, 1) := by decide +kernel
theorem own_d7_1 : decode prog_31_method_1_code 1 = .ok (.invokespecial 1, 3) := by decide +kernel
theorem own_d7_4 : decode prog_31_method_1_code 4 = .ok (.aload_n 0, 1) := by decide +kernel
theorem own_d7_5 : decode prog_31_method_1_code 5 = .ok (.aload_n 1, 1) := by decide +kernel
theorem own_d7_6 : decode prog_31_method_1_code 6 = .ok (.putfield 7, 3) := by decide +kernel
theorem own_d7_9 : decode prog_31_method_1_code 9 = .ok (.aload_n 0, 1) := by decide +kernel
theorem own_d7_10 : decode prog_31_method_1_code 10 = .ok (.iload_n 2, 1) := by decide +kernel
theorem own_d7_11 : decode prog_31_method_1_code 11 = .ok (.putfield 13, 3) := by decide +kernel
theorem own_d7_14 : decode prog_31_method_1_code 14 = .ok (.return_, 1) := by decide +kernel
theorem own_pn_com_example_trust_grade_trustgrade_network_Level : plainName "com/example/trust_grade/trustgrade/network/Level" = true := by first | (simp [plainName, overriddenIn]; done) | decide +kernel
set_option maxRecDepth 65536 in
set_option maxHeartbeats 40000000 in
theorem own_li (l : Launch) (Z : State) (a0 : Array Value) (hw : ∀ d ∈ tables_1, d.before a0 Z = true) (ws : List Jvm.Cond) (o1 o2 : Addr) (q1 : Int32) (h0 : Heap) (n0 : Nat) (Z0 : n0 ≤ h0.size) (F1 : Fld Z h0 o1 "com/example/trust_grade/trustgrade/network/Level" "name" "Ljava/lang/String;" .null) (F2 : Fld Z h0 o1 "com/example/trust_grade/trustgrade/network/Level" "rank" "I" (.int (0 : Int32))) (E1 : Exa Z h0 o1 "com/example/trust_grade/trustgrade/network/Level") (g1 : n0 ≤ o1) :
    MetFree l (⟨"com/example/trust_grade/trustgrade/network/Level", "<init>", "(Ljava/lang/String;I)V"⟩ : MethodName) (head1 (Jvm.Cond.code (⟨"com/example/trust_grade/trustgrade/network/Level", "<init>", "(Ljava/lang/String;I)V"⟩ : MethodName) prog_31_method_1_code 3 none :: ws) ({ frames := 1, cells := 0, slots := 0, locals := 12 } : Room)) (fun a U => a = #[(.ref o1), (.ref o2), (.int q1)] ∧ Z.Warmed39 U.vm ∧ U.heap = h0) (fun _ _ _ _ _ => True) (fun _ U o U' => ∃ v L, o = .returned v ∧ Q_own_li Z o1 o2 q1 h0 n0 v U'.heap L ∧ FrameEnd U o U' L ({ frames := 1, cells := 0, slots := 0, locals := 12 } : Room).cells ({ frames := 1, cells := 0, slots := 0, locals := 12 } : Room).slots) := by
  refine MetFree.of_bodySF (plainFor_of_name own_pn_com_example_trust_grade_trustgrade_network_Level) hisR ?_
  intro p e s m args below meth c s₁ Bd hml0 hP hK
  obtain ⟨rfl, hZ, hh⟩ := hP
  have hx := Bd.exec
  have hby := Bd.bytes
  have hml : c.maxLocals = 3 := hml0
  have hown : s.vm.findClass "com/example/trust_grade/trustgrade/network/Level" = some m.cls := findClass_of_methodNamed Bd.named
  have hnm := (name_of_methodNamed Bd.named Bd.method).1
  have hlk : meth.locks = false := BodyLoose.notSynchronized Bd
  have X0 : Stand p l e ({ frames := 1, cells := 0, slots := 0, locals := 12 } : Room) s m #[(.ref o1), (.ref o2), (.int q1)] below meth c s₁ [] 0 0 := Stand.of_body Bd
  have e0 : s₁.heap = h0 := by rw [← hh, Bd.state]; rfl
  have N0 := Fr.nil n0
  show own_Go p e below #[(.ref o1), (.ref o2), (.int q1)] s (fun _ U o U' => ∃ v L, o = .returned v ∧ Q_own_li Z o1 o2 q1 h0 n0 v U'.heap L ∧ FrameEnd U o U' L ({ frames := 1, cells := 0, slots := 0, locals := 12 } : Room).cells ({ frames := 1, cells := 0, slots := 0, locals := 12 } : Room).slots) (s₁.setTop (entryFrame m #[(.ref o1), (.ref o2), (.int q1)] 3))
  refine own_st (V := s₁.setTop (mkF m 0 #[.val (.ref o1), .val (.ref o2), .val (.int q1)] [])) (fun t k => castTop (by first | (simp [entryFrame, mkF, argsToLocals, Value.category]; done) | rfl) k) ?_
  refine own_st (V := s₁.setTop (mkF m 1 #[.val (.ref o1), .val (.ref o2), .val (.int q1)] [(.ref o1)])) (fun t k => XS.aloadN X0.here hx rfl (hb hby own_d7_0) rfl rfl k) ?_
  obtain ⟨T14, X14, e14, st14⟩ := initO X0 hx hZ hown (hw _ (List.mem_of_getElem? (i := 37) rfl)) (hw _ (List.mem_of_getElem? (i := 16) rfl)) (hw _ (List.mem_of_getElem? (i := 17) rfl)) e0 (g := (mkF m 1 #[.val (.ref o1), .val (.ref o2), .val (.int q1)] [(.ref o1)])) rfl (by rw [hml]; rfl) rfl (hb hby own_d7_1) (by decide) (W := 0) (by show 2 * 0 + _ ≤ _; exact Nat.le_of_eq rfl) (by decide)
  refine own_st (V := T14.setTop (mkF m 4 #[.val (.ref o1), .val (.ref o2), .val (.int q1)] [])) (fun t k => st14 _ k) ?_
  refine own_st (V := T14.setTop (mkF m 5 #[.val (.ref o1), .val (.ref o2), .val (.int q1)] [(.ref o1)])) (fun t k => XS.aloadN X14.here hx rfl (hb hby own_d7_4) rfl rfl k) ?_
  refine own_st (V := T14.setTop (mkF m 6 #[.val (.ref o1), .val (.ref o2), .val (.int q1)] [(.ref o2), (.ref o1)])) (fun t k => XS.aloadN X14.here hx rfl (hb hby own_d7_5) rfl rfl k) ?_
  obtain ⟨T15, h15, X15, e15, W15, st15⟩ := putF X14 hx hZ hown (host := "") (Or.inl (hw _ (List.mem_of_getElem? (i := 38) rfl))) Via.refl e14 F1 E1 (Or.inr ⟨(hw _ (List.mem_of_getElem? (i := 39) rfl)), rfl, hnm⟩) (hw _ (List.mem_of_getElem? (i := 3) rfl)) (ty := (.object "java/lang/String")) (by decide) rfl rfl (g := (mkF m 6 #[.val (.ref o1), .val (.ref o2), .val (.int q1)] [(.ref o2), (.ref o1)])) rfl rfl (hb hby own_d7_6)
  have N15 := Fr.snoc X15 N0 g1
  have Z0_15 : n0 ≤ h15.size := by rw [W15.size]; exact Z0
  have F15_w := F1.same W15
  have Kc15 := (Keep.refl h0 [o1]).wr W15 (Or.inl (List.mem_of_getElem? (i := 0) rfl))
  have F15_o1_rank := F2.other W15 (Or.inr (slot_ne (Or.inr (hw _ (List.mem_of_getElem? (i := 41) rfl))) (Or.inr (hw _ (List.mem_of_getElem? (i := 39) rfl))) (by decide) (t := .int) (t' := (.object "java/lang/String")) (by decide) (by decide)))
  have Ex15_o1 := E1.wr W15
  refine own_st (V := T15.setTop (mkF m 9 #[.val (.ref o1), .val (.ref o2), .val (.int q1)] [])) (fun t k => st15 _ k) ?_
  refine own_st (V := T15.setTop (mkF m 10 #[.val (.ref o1), .val (.ref o2), .val (.int q1)] [(.ref o1)])) (fun t k => XS.aloadN X15.here hx rfl (hb hby own_d7_9) rfl rfl k) ?_
  refine own_st (V := T15.setTop (mkF m 11 #[.val (.ref o1), .val (.ref o2), .val (.int q1)] [(.int q1), (.ref o1)])) (fun t k => XS.iloadN X15.here hx rfl (hb hby own_d7_10) rfl k) ?_
  obtain ⟨T16, h16, X16, e16, W16, st16⟩ := putF X15 hx hZ hown (host := "") (Or.inl (hw _ (List.mem_of_getElem? (i := 40) rfl))) Via.refl e15 F15_o1_rank Ex15_o1 (Or.inr ⟨(hw _ (List.mem_of_getElem? (i := 41) rfl)), rfl, hnm⟩) (hw _ (List.mem_of_getElem? (i := 3) rfl)) (ty := .int) (by decide) rfl rfl (g := (mkF m 11 #[.val (.ref o1), .val (.ref o2), .val (.int q1)] [(.int q1), (.ref o1)])) rfl rfl (hb hby own_d7_11)
  have N16 := Fr.snoc X16 N15 g1
  have Z0_16 : n0 ≤ h16.size := by rw [W16.size]; exact Z0_15
  have F16_w := F15_o1_rank.same W16
  have Kc16 := Kc15.wr W16 (Or.inl (List.mem_of_getElem? (i := 0) rfl))
  have F16_o1_name := F15_w.other W16 (Or.inr (slot_ne (Or.inr (hw _ (List.mem_of_getElem? (i := 39) rfl))) (Or.inr (hw _ (List.mem_of_getElem? (i := 41) rfl))) (by decide) (t := (.object "java/lang/String")) (t' := .int) (by decide) (by decide)))
  have Ex16_o1 := Ex15_o1.wr W16
  refine own_st (V := T16.setTop (mkF m 14 #[.val (.ref o1), .val (.ref o2), .val (.int q1)] [])) (fun t k => st16 _ k) ?_
  exact own_ret0 X16 hx hlk Bd.returns (hb hby own_d7_14) (by decide) (by decide) (by show Q_own_li Z o1 o2 q1 h0 n0 _ T16.heap _; rw [e16]; exact ⟨rfl, N16, Kc16, Ex16_o1, F16_w⟩)
def Q_own_ab1 (Z : State) (o1 o2 : Addr) (f1 f2 : Int32) (h0 : Heap) (n0 : Nat) (v : Option Value) (h : Heap) (L : List Loc) : Prop := v = some (.int (1 : Int32)) ∧ Fr n0 L ∧ h = h0
theorem own_d12_0 : decode prog_31_method_4_code 0 = .ok (.aload_n 0, 1) := by decide +kernel
theorem own_d12_1 : decode prog_31_method_4_code 1 = .ok (.getfield 13, 3) := by decide +kernel
theorem own_d12_4 : decode prog_31_method_4_code 4 = .ok (.aload_n 1, 1) := by decide +kernel
theorem own_d12_5 : decode prog_31_method_4_code 5 = .ok (.getfield 13, 3) := by decide +kernel
theorem own_d12_8 : decode prog_31_method_4_code 8 = .ok (.if_icmp .le 7, 3) := by decide +kernel
theorem own_d12_11 : decode prog_31_method_4_code 11 = .ok (.iconst 1, 1) := by decide +kernel
theorem own_d12_12 : decode prog_31_method_4_code 12 = .ok (.goto 4, 3) := by decide +kernel
theorem own_d12_16 : decode prog_31_method_4_code 16 = .ok (.ireturn, 1) := by decide +kernel
set_option maxRecDepth 65536 in
set_option maxHeartbeats 40000000 in
theorem own_ab1 (l : Launch) (Z : State) (a0 : Array Value) (hw : ∀ d ∈ tables_1, d.before a0 Z = true) (ws : List Jvm.Cond) (o1 o2 : Addr) (f1 f2 : Int32) (h0 : Heap) (n0 : Nat) (Z0 : n0 ≤ h0.size) (F1 : Fld Z h0 o1 "com/example/trust_grade/trustgrade/network/Level" "rank" "I" (.int f1)) (F2 : Fld Z h0 o2 "com/example/trust_grade/trustgrade/network/Level" "rank" "I" (.int f2)) (hv : f2 < f1) :
    MetFree l (⟨"com/example/trust_grade/trustgrade/network/Level", "isAbove", "(Lcom/example/trust_grade/trustgrade/network/Level;)Z"⟩ : MethodName) (head1 (Jvm.Cond.code (⟨"com/example/trust_grade/trustgrade/network/Level", "isAbove", "(Lcom/example/trust_grade/trustgrade/network/Level;)Z"⟩ : MethodName) prog_31_method_4_code 2 (some .boolean) :: ws) ({ frames := 0, cells := 0, slots := 0, locals := 0 } : Room)) (fun a U => a = #[(.ref o1), (.ref o2)] ∧ Z.Warmed39 U.vm ∧ U.heap = h0) (fun _ _ _ _ _ => True) (fun _ U o U' => ∃ v L, o = .returned v ∧ Q_own_ab1 Z o1 o2 f1 f2 h0 n0 v U'.heap L ∧ FrameEnd U o U' L ({ frames := 0, cells := 0, slots := 0, locals := 0 } : Room).cells ({ frames := 0, cells := 0, slots := 0, locals := 0 } : Room).slots) := by
  refine MetFree.of_bodySF (plainFor_of_name own_pn_com_example_trust_grade_trustgrade_network_Level) hisR ?_
  intro p e s m args below meth c s₁ Bd hml0 hP hK
  obtain ⟨rfl, hZ, hh⟩ := hP
  have hx := Bd.exec
  have hby := Bd.bytes
  have hml : c.maxLocals = 2 := hml0
  have hown : s.vm.findClass "com/example/trust_grade/trustgrade/network/Level" = some m.cls := findClass_of_methodNamed Bd.named
  have hnm := (name_of_methodNamed Bd.named Bd.method).1
  have hlk : meth.locks = false := BodyLoose.notSynchronized Bd
  have X0 : Stand p l e ({ frames := 0, cells := 0, slots := 0, locals := 0 } : Room) s m #[(.ref o1), (.ref o2)] below meth c s₁ [] 0 0 := Stand.of_body Bd
  have e0 : s₁.heap = h0 := by rw [← hh, Bd.state]; rfl
  have N0 := Fr.nil n0
  show own_Go p e below #[(.ref o1), (.ref o2)] s (fun _ U o U' => ∃ v L, o = .returned v ∧ Q_own_ab1 Z o1 o2 f1 f2 h0 n0 v U'.heap L ∧ FrameEnd U o U' L ({ frames := 0, cells := 0, slots := 0, locals := 0 } : Room).cells ({ frames := 0, cells := 0, slots := 0, locals := 0 } : Room).slots) (s₁.setTop (entryFrame m #[(.ref o1), (.ref o2)] 2))
  refine own_st (V := s₁.setTop (mkF m 0 #[.val (.ref o1), .val (.ref o2)] [])) (fun t k => castTop (by first | (simp [entryFrame, mkF, argsToLocals, Value.category]; done) | rfl) k) ?_
  refine own_st (V := s₁.setTop (mkF m 1 #[.val (.ref o1), .val (.ref o2)] [(.ref o1)])) (fun t k => XS.aloadN X0.here hx rfl (hb hby own_d12_0) rfl rfl k) ?_
  obtain ⟨T17, X17, e17, st17⟩ := getF X0 hx hZ hown (host := "") (Or.inl (hw _ (List.mem_of_getElem? (i := 40) rfl))) Via.refl e0 F1 (g := (mkF m 1 #[.val (.ref o1), .val (.ref o2)] [(.ref o1)])) rfl rfl (hb hby own_d12_1)
  refine own_st (V := T17.setTop (mkF m 4 #[.val (.ref o1), .val (.ref o2)] [(.int f1)])) (fun t k => st17 _ k) ?_
  refine own_st (V := T17.setTop (mkF m 5 #[.val (.ref o1), .val (.ref o2)] [(.ref o2), (.int f1)])) (fun t k => XS.aloadN X17.here hx rfl (hb hby own_d12_4) rfl rfl k) ?_
  obtain ⟨T18, X18, e18, st18⟩ := getF X17 hx hZ hown (host := "") (Or.inl (hw _ (List.mem_of_getElem? (i := 40) rfl))) Via.refl e17 F2 (g := (mkF m 5 #[.val (.ref o1), .val (.ref o2)] [(.ref o2), (.int f1)])) rfl rfl (hb hby own_d12_5)
  refine own_st (V := T18.setTop (mkF m 8 #[.val (.ref o1), .val (.ref o2)] [(.int f2), (.int f1)])) (fun t k => st18 _ k) ?_
  refine own_st (V := T18.setTop (mkF m 11 #[.val (.ref o1), .val (.ref o2)] [])) (fun t k => XS.icmpNo X18.here hx rfl (hb hby own_d12_8) rfl (tlt hv).2.2.2 k) ?_
  refine own_st (V := T18.setTop (mkF m 12 #[.val (.ref o1), .val (.ref o2)] [(.int (1 : Int32))])) (fun t k => XS.iconst X18.here hx rfl (hb hby own_d12_11) k) ?_
  refine own_st (V := T18.setTop (mkF m 16 #[.val (.ref o1), .val (.ref o2)] [(.int (1 : Int32))])) (fun t k => XS.goto X18.here hx rfl (pc0 := 12) (pc' := 16) rfl (hb hby own_d12_12) (by decide) (by decide) k) ?_
  exact own_ret X18 hx hlk Bd.returns (by decide +kernel) (Or.inl ⟨rfl, by simp, _, rfl⟩) (hb hby own_d12_16) (by decide) (by decide) (by show Q_own_ab1 Z o1 o2 f1 f2 h0 n0 _ T18.heap _; rw [e18]; exact ⟨rfl, N0, rfl⟩)
def Q_own_ab0 (Z : State) (o1 o2 : Addr) (f1 f2 : Int32) (h0 : Heap) (n0 : Nat) (v : Option Value) (h : Heap) (L : List Loc) : Prop := v = some (.int (0 : Int32)) ∧ Fr n0 L ∧ h = h0
theorem own_d12_15 : decode prog_31_method_4_code 15 = .ok (.iconst 0, 1) := by decide +kernel
set_option maxRecDepth 65536 in
set_option maxHeartbeats 40000000 in
theorem own_ab0 (l : Launch) (Z : State) (a0 : Array Value) (hw : ∀ d ∈ tables_1, d.before a0 Z = true) (ws : List Jvm.Cond) (o1 o2 : Addr) (f1 f2 : Int32) (h0 : Heap) (n0 : Nat) (Z0 : n0 ≤ h0.size) (F1 : Fld Z h0 o1 "com/example/trust_grade/trustgrade/network/Level" "rank" "I" (.int f1)) (F2 : Fld Z h0 o2 "com/example/trust_grade/trustgrade/network/Level" "rank" "I" (.int f2)) (hv : ¬ (f2 < f1)) :
    MetFree l (⟨"com/example/trust_grade/trustgrade/network/Level", "isAbove", "(Lcom/example/trust_grade/trustgrade/network/Level;)Z"⟩ : MethodName) (head1 (Jvm.Cond.code (⟨"com/example/trust_grade/trustgrade/network/Level", "isAbove", "(Lcom/example/trust_grade/trustgrade/network/Level;)Z"⟩ : MethodName) prog_31_method_4_code 2 (some .boolean) :: ws) ({ frames := 0, cells := 0, slots := 0, locals := 0 } : Room)) (fun a U => a = #[(.ref o1), (.ref o2)] ∧ Z.Warmed39 U.vm ∧ U.heap = h0) (fun _ _ _ _ _ => True) (fun _ U o U' => ∃ v L, o = .returned v ∧ Q_own_ab0 Z o1 o2 f1 f2 h0 n0 v U'.heap L ∧ FrameEnd U o U' L ({ frames := 0, cells := 0, slots := 0, locals := 0 } : Room).cells ({ frames := 0, cells := 0, slots := 0, locals := 0 } : Room).slots) := by
  refine MetFree.of_bodySF (plainFor_of_name own_pn_com_example_trust_grade_trustgrade_network_Level) hisR ?_
  intro p e s m args below meth c s₁ Bd hml0 hP hK
  obtain ⟨rfl, hZ, hh⟩ := hP
  have hx := Bd.exec
  have hby := Bd.bytes
  have hml : c.maxLocals = 2 := hml0
  have hown : s.vm.findClass "com/example/trust_grade/trustgrade/network/Level" = some m.cls := findClass_of_methodNamed Bd.named
  have hnm := (name_of_methodNamed Bd.named Bd.method).1
  have hlk : meth.locks = false := BodyLoose.notSynchronized Bd
  have X0 : Stand p l e ({ frames := 0, cells := 0, slots := 0, locals := 0 } : Room) s m #[(.ref o1), (.ref o2)] below meth c s₁ [] 0 0 := Stand.of_body Bd
  have e0 : s₁.heap = h0 := by rw [← hh, Bd.state]; rfl
  have N0 := Fr.nil n0
  show own_Go p e below #[(.ref o1), (.ref o2)] s (fun _ U o U' => ∃ v L, o = .returned v ∧ Q_own_ab0 Z o1 o2 f1 f2 h0 n0 v U'.heap L ∧ FrameEnd U o U' L ({ frames := 0, cells := 0, slots := 0, locals := 0 } : Room).cells ({ frames := 0, cells := 0, slots := 0, locals := 0 } : Room).slots) (s₁.setTop (entryFrame m #[(.ref o1), (.ref o2)] 2))
  refine own_st (V := s₁.setTop (mkF m 0 #[.val (.ref o1), .val (.ref o2)] [])) (fun t k => castTop (by first | (simp [entryFrame, mkF, argsToLocals, Value.category]; done) | rfl) k) ?_
  refine own_st (V := s₁.setTop (mkF m 1 #[.val (.ref o1), .val (.ref o2)] [(.ref o1)])) (fun t k => XS.aloadN X0.here hx rfl (hb hby own_d12_0) rfl rfl k) ?_
  obtain ⟨T19, X19, e19, st19⟩ := getF X0 hx hZ hown (host := "") (Or.inl (hw _ (List.mem_of_getElem? (i := 40) rfl))) Via.refl e0 F1 (g := (mkF m 1 #[.val (.ref o1), .val (.ref o2)] [(.ref o1)])) rfl rfl (hb hby own_d12_1)
  refine own_st (V := T19.setTop (mkF m 4 #[.val (.ref o1), .val (.ref o2)] [(.int f1)])) (fun t k => st19 _ k) ?_
  refine own_st (V := T19.setTop (mkF m 5 #[.val (.ref o1), .val (.ref o2)] [(.ref o2), (.int f1)])) (fun t k => XS.aloadN X19.here hx rfl (hb hby own_d12_4) rfl rfl k) ?_
  obtain ⟨T20, X20, e20, st20⟩ := getF X19 hx hZ hown (host := "") (Or.inl (hw _ (List.mem_of_getElem? (i := 40) rfl))) Via.refl e19 F2 (g := (mkF m 5 #[.val (.ref o1), .val (.ref o2)] [(.ref o2), (.int f1)])) rfl rfl (hb hby own_d12_5)
  refine own_st (V := T20.setTop (mkF m 8 #[.val (.ref o1), .val (.ref o2)] [(.int f2), (.int f1)])) (fun t k => st20 _ k) ?_
  refine own_st (V := T20.setTop (mkF m 15 #[.val (.ref o1), .val (.ref o2)] [])) (fun t k => XS.icmpYes X20.here hx rfl (pc0 := 8) (pc' := 15) rfl (hb hby own_d12_8) rfl (flt hv).2.2.2 (by decide) (by decide) k) ?_
  refine own_st (V := T20.setTop (mkF m 16 #[.val (.ref o1), .val (.ref o2)] [(.int (0 : Int32))])) (fun t k => XS.iconst X20.here hx rfl (hb hby own_d12_15) k) ?_
  exact own_ret X20 hx hlk Bd.returns (by decide +kernel) (Or.inl ⟨rfl, by simp, _, rfl⟩) (hb hby own_d12_16) (by decide) (by decide) (by show Q_own_ab0 Z o1 o2 f1 f2 h0 n0 _ T20.heap _; rw [e20]; exact ⟨rfl, N0, rfl⟩)
def Q_own_ce (Z : State) (q1 : Int32) (h0 : Heap) (n0 : Nat) (v : Option Value) (h : Heap) (L : List Loc) : Prop := v = some (.int (1 : Int32)) ∧ Fr n0 L ∧ h = h0
theorem own_d9_0 : decode jdk_43_method_3_code 0 = .ok (.iload_n 0, 1) := by decide +kernel
theorem own_d9_1 : decode jdk_43_method_3_code 1 = .ok (.sipush 255, 3) := by decide +kernel
theorem own_d9_4 : decode jdk_43_method_3_code 4 = .ok (.if_icmp .gt 7, 3) := by decide +kernel
theorem own_d9_7 : decode jdk_43_method_3_code 7 = .ok (.iconst 1, 1) := by decide +kernel
theorem own_d9_8 : decode jdk_43_method_3_code 8 = .ok (.goto 4, 3) := by decide +kernel
theorem own_d9_12 : decode jdk_43_method_3_code 12 = .ok (.ireturn, 1) := by decide +kernel
theorem own_pn_java_lang_StringLatin1 : plainName "java/lang/StringLatin1" = true := by first | (simp [plainName, overriddenIn]; done) | decide +kernel
set_option maxRecDepth 65536 in
set_option maxHeartbeats 40000000 in
theorem own_ce (l : Launch) (Z : State) (a0 : Array Value) (hw : ∀ d ∈ tables_1, d.before a0 Z = true) (ws : List Jvm.Cond) (q1 : Int32) (h0 : Heap) (n0 : Nat) (Z0 : n0 ≤ h0.size) (hq : ¬ ((255 : Int32) < q1)) :
    MetFree l (⟨"java/lang/StringLatin1", "canEncode", "(C)Z"⟩ : MethodName) (head1 (Jvm.Cond.code (⟨"java/lang/StringLatin1", "canEncode", "(C)Z"⟩ : MethodName) jdk_43_method_3_code 1 (some .boolean) :: ws) ({ frames := 0, cells := 0, slots := 0, locals := 0 } : Room)) (fun a U => a = #[(.int q1)] ∧ Z.Warmed39 U.vm ∧ U.heap = h0) (fun _ _ _ _ _ => True) (fun _ U o U' => ∃ v L, o = .returned v ∧ Q_own_ce Z q1 h0 n0 v U'.heap L ∧ FrameEnd U o U' L ({ frames := 0, cells := 0, slots := 0, locals := 0 } : Room).cells ({ frames := 0, cells := 0, slots := 0, locals := 0 } : Room).slots) := by
  refine MetFree.of_bodySF (plainFor_of_name own_pn_java_lang_StringLatin1) hisR ?_
  intro p e s m args below meth c s₁ Bd hml0 hP hK
  obtain ⟨rfl, hZ, hh⟩ := hP
  have hx := Bd.exec
  have hby := Bd.bytes
  have hml : c.maxLocals = 1 := hml0
  have hown : s.vm.findClass "java/lang/StringLatin1" = some m.cls := findClass_of_methodNamed Bd.named
  have hnm := (name_of_methodNamed Bd.named Bd.method).1
  have hlk : meth.locks = false := BodyLoose.notSynchronized Bd
  have X0 : Stand p l e ({ frames := 0, cells := 0, slots := 0, locals := 0 } : Room) s m #[(.int q1)] below meth c s₁ [] 0 0 := Stand.of_body Bd
  have e0 : s₁.heap = h0 := by rw [← hh, Bd.state]; rfl
  have N0 := Fr.nil n0
  show own_Go p e below #[(.int q1)] s (fun _ U o U' => ∃ v L, o = .returned v ∧ Q_own_ce Z q1 h0 n0 v U'.heap L ∧ FrameEnd U o U' L ({ frames := 0, cells := 0, slots := 0, locals := 0 } : Room).cells ({ frames := 0, cells := 0, slots := 0, locals := 0 } : Room).slots) (s₁.setTop (entryFrame m #[(.int q1)] 1))
  refine own_st (V := s₁.setTop (mkF m 0 #[.val (.int q1)] [])) (fun t k => castTop (by first | (simp [entryFrame, mkF, argsToLocals, Value.category]; done) | rfl) k) ?_
  refine own_st (V := s₁.setTop (mkF m 1 #[.val (.int q1)] [(.int q1)])) (fun t k => XS.iloadN X0.here hx rfl (hb hby own_d9_0) rfl k) ?_
  refine own_st (V := s₁.setTop (mkF m 4 #[.val (.int q1)] [(.int (255 : Int32)), (.int q1)])) (fun t k => XS.sipush X0.here hx rfl (hb hby own_d9_1) k) ?_
  refine own_st (V := s₁.setTop (mkF m 7 #[.val (.int q1)] [])) (fun t k => XS.icmpNo X0.here hx rfl (hb hby own_d9_4) rfl (flt hq).2.2.1 k) ?_
  refine own_st (V := s₁.setTop (mkF m 8 #[.val (.int q1)] [(.int (1 : Int32))])) (fun t k => XS.iconst X0.here hx rfl (hb hby own_d9_7) k) ?_
  refine own_st (V := s₁.setTop (mkF m 12 #[.val (.int q1)] [(.int (1 : Int32))])) (fun t k => XS.goto X0.here hx rfl (pc0 := 8) (pc' := 12) rfl (hb hby own_d9_8) (by decide) (by decide) k) ?_
  exact own_ret X0 hx hlk Bd.returns (by decide +kernel) (Or.inl ⟨rfl, by simp, _, rfl⟩) (hb hby own_d9_12) (by decide) (by decide) (by show Q_own_ce Z q1 h0 n0 _ s₁.heap _; rw [e0]; exact ⟨rfl, N0, rfl⟩)
def Q_own_tb (Z : State) (q1 : Int32) (h0 : Heap) (n0 : Nat) (v : Option Value) (h : Heap) (L : List Loc) : Prop := ∃ b, v = some (.ref b) ∧ Fr n0 L ∧ Keep h0 h []
theorem own_d10_0 : decode jdk_43_method_46_code 0 = .ok (.iconst 1, 1) := by decide +kernel
theorem own_d10_1 : decode jdk_43_method_46_code 1 = .ok (.newarray .byte, 2) := by decide +kernel
theorem own_d10_3 : decode jdk_43_method_46_code 3 = .ok (.dup, 1) := by decide +kernel
theorem own_d10_4 : decode jdk_43_method_46_code 4 = .ok (.iconst 0, 1) := by decide +kernel
theorem own_d10_5 : decode jdk_43_method_46_code 5 = .ok (.iload_n 0, 1) := by decide +kernel
theorem own_d10_6 : decode jdk_43_method_46_code 6 = .ok (.i2b, 1) := by decide +kernel
theorem own_d10_7 : decode jdk_43_method_46_code 7 = .ok (.bastore, 1) := by decide +kernel
theorem own_d10_8 : decode jdk_43_method_46_code 8 = .ok (.areturn, 1) := by decide +kernel
set_option maxRecDepth 65536 in
set_option maxHeartbeats 40000000 in
theorem own_tb (l : Launch) (Z : State) (a0 : Array Value) (hw : ∀ d ∈ tables_1, d.before a0 Z = true) (ws : List Jvm.Cond) (q1 : Int32) (h0 : Heap) (n0 : Nat) (Z0 : n0 ≤ h0.size) :
    MetFree l (⟨"java/lang/StringLatin1", "toBytes", "(C)[B"⟩ : MethodName) (head1 (Jvm.Cond.code (⟨"java/lang/StringLatin1", "toBytes", "(C)[B"⟩ : MethodName) jdk_43_method_46_code 1 (some (.array .byte)) :: ws) ({ frames := 0, cells := 1, slots := 1, locals := 0 } : Room)) (fun a U => a = #[(.int q1)] ∧ Z.Warmed39 U.vm ∧ U.heap = h0) (fun _ _ _ _ _ => True) (fun _ U o U' => ∃ v L, o = .returned v ∧ Q_own_tb Z q1 h0 n0 v U'.heap L ∧ FrameEnd U o U' L ({ frames := 0, cells := 1, slots := 1, locals := 0 } : Room).cells ({ frames := 0, cells := 1, slots := 1, locals := 0 } : Room).slots) := by
  refine MetFree.of_bodySF (plainFor_of_name own_pn_java_lang_StringLatin1) hisR ?_
  intro p e s m args below meth c s₁ Bd hml0 hP hK
  obtain ⟨rfl, hZ, hh⟩ := hP
  have hx := Bd.exec
  have hby := Bd.bytes
  have hml : c.maxLocals = 1 := hml0
  have hown : s.vm.findClass "java/lang/StringLatin1" = some m.cls := findClass_of_methodNamed Bd.named
  have hnm := (name_of_methodNamed Bd.named Bd.method).1
  have hlk : meth.locks = false := BodyLoose.notSynchronized Bd
  have X0 : Stand p l e ({ frames := 0, cells := 1, slots := 1, locals := 0 } : Room) s m #[(.int q1)] below meth c s₁ [] 0 0 := Stand.of_body Bd
  have e0 : s₁.heap = h0 := by rw [← hh, Bd.state]; rfl
  have N0 := Fr.nil n0
  show own_Go p e below #[(.int q1)] s (fun _ U o U' => ∃ v L, o = .returned v ∧ Q_own_tb Z q1 h0 n0 v U'.heap L ∧ FrameEnd U o U' L ({ frames := 0, cells := 1, slots := 1, locals := 0 } : Room).cells ({ frames := 0, cells := 1, slots := 1, locals := 0 } : Room).slots) (s₁.setTop (entryFrame m #[(.int q1)] 1))
  refine own_st (V := s₁.setTop (mkF m 0 #[.val (.int q1)] [])) (fun t k => castTop (by first | (simp [entryFrame, mkF, argsToLocals, Value.category]; done) | rfl) k) ?_
  refine own_st (V := s₁.setTop (mkF m 1 #[.val (.int q1)] [(.int (1 : Int32))])) (fun t k => XS.iconst X0.here hx rfl (hb hby own_d10_0) k) ?_
  obtain ⟨T21, h21, k21, X21, e21, E21, A21, st21⟩ := newP X0 hx hZ (hw _ (List.mem_of_getElem? (i := 23) rfl)) e0 (g := (mkF m 1 #[.val (.int q1)] [(.int (1 : Int32))])) rfl (hb hby own_d10_1) rfl (by decide) (cap := 1) (by decide) (by decide) (by decide) (by decide)
  obtain ⟨b21, g21⟩ : ∃ z, z = h0.size := ⟨_, rfl⟩
  rw [← g21] at A21 st21
  have gb_b21 : n0 ≤ b21 := Nat.le_trans Z0 (Nat.le_of_eq g21.symm)
  have Z0_21 : n0 ≤ h21.size := Nat.le_trans Z0 E21.1
  have sz_b21 : h0.size ≤ b21 := Nat.le_trans (Keep.refl h0 []).1 (Nat.le_of_eq g21.symm)
  have Kc21 := (Keep.refl h0 []).ext E21
  have V21_b21 : Arv Z h21 b21 k21 .byte (1 : Int32) [(.int (0 : Int32))] (.int (0 : Int32)) := (Arv.new A21 (by decide)).pad (pad_rep [] (.int (0 : Int32)) 1)
  refine own_st (V := T21.setTop (mkF m 3 #[.val (.int q1)] [(.ref b21)])) (fun t k => st21 _ k) ?_
  refine own_st (V := T21.setTop (mkF m 4 #[.val (.int q1)] [(.ref b21), (.ref b21)])) (fun t k => XS.dup X21.here hx rfl (hb hby own_d10_3) rfl rfl k) ?_
  refine own_st (V := T21.setTop (mkF m 5 #[.val (.int q1)] [(.int (0 : Int32)), (.ref b21), (.ref b21)])) (fun t k => XS.iconst X21.here hx rfl (hb hby own_d10_4) k) ?_
  refine own_st (V := T21.setTop (mkF m 6 #[.val (.int q1)] [(.int q1), (.int (0 : Int32)), (.ref b21), (.ref b21)])) (fun t k => XS.iloadN X21.here hx rfl (hb hby own_d10_5) rfl k) ?_
  refine own_st (V := T21.setTop (mkF m 7 #[.val (.int q1)] [(.int (q1.toInt8.toInt32)), (.int (0 : Int32)), (.ref b21), (.ref b21)])) (fun t k => XS.i2b X21.here hx rfl (hb hby own_d10_6) rfl k) ?_
  have Vk22 := V21_b21
  obtain ⟨cl22, Ar22, qk22, sz22, nn22, hs22, fs22⟩ := Vk22
  have hin22 : ¬ ((0 : Int32) < 0 ∨ cl22.slots.size ≤ ((0 : Int32)).toNatClampNeg) := inb_of sz22 ⟨by decide, by decide⟩
  obtain ⟨T22, h22, X22, e22, W22, st22⟩ := stB X21 hx hZ e21 Ar22 (j := (0 : Int32)) hin22 (g := (mkF m 7 #[.val (.int q1)] [(.int (q1.toInt8.toInt32)), (.int (0 : Int32)), (.ref b21), (.ref b21)])) rfl rfl (hb hby own_d10_7)
  have V22_b21 := Arv.set Ar22 qk22 sz22 nn22 hs22 fs22 (fits_nar_byte _) W22 0 rfl (Nat.le_of_ble_eq_true rfl)
  have N22 := Fr.snoc X22 N0 gb_b21
  have Z0_22 : n0 ≤ h22.size := by rw [W22.size]; exact Z0_21
  have Kc22 := Kc21.wr W22 (Or.inr sz_b21)
  refine own_st (V := T22.setTop (mkF m 8 #[.val (.int q1)] [(.ref b21)])) (fun t k => st22 _ k) ?_
  exact own_ret X22 hx hlk Bd.returns rfl (Or.inr (Or.inr (Or.inr (Or.inr ⟨rfl, rfl, rfl⟩)))) (hb hby own_d10_8) (by decide) (by decide) (by show Q_own_tb Z q1 h0 n0 _ T22.heap _; rw [e22]; exact ⟨_, rfl, N22, Kc22⟩)
def Q_own_sb (Z : State) (o1 o2 : Addr) (h0 : Heap) (n0 : Nat) (v : Option Value) (h : Heap) (L : List Loc) : Prop := v = none ∧ Fr n0 L ∧ Keep h0 h [o1] ∧ Exa Z h o1 "java/lang/String"
theorem own_d11_0 : decode jdk_42_method_151_code 0 = .ok (.aload_n 0, 1) := by decide +kernel
theorem own_d11_1 : decode jdk_42_method_151_code 1 = .ok (.invokespecial 1, 3) := by decide +kernel
theorem own_d11_4 : decode jdk_42_method_151_code 4 = .ok (.aload_n 0, 1) := by decide +kernel
theorem own_d11_5 : decode jdk_42_method_151_code 5 = .ok (.aload_n 1, 1) := by decide +kernel
theorem own_d11_6 : decode jdk_42_method_151_code 6 = .ok (.putfield 9, 3) := by decide +kernel
theorem own_d11_9 : decode jdk_42_method_151_code 9 = .ok (.aload_n 0, 1) := by decide +kernel
theorem own_d11_10 : decode jdk_42_method_151_code 10 = .ok (.iload_n 2, 1) := by decide +kernel
theorem own_d11_11 : decode jdk_42_method_151_code 11 = .ok (.putfield 15, 3) := by decide +kernel
theorem own_d11_14 : decode jdk_42_method_151_code 14 = .ok (.return_, 1) := by decide +kernel
set_option maxRecDepth 65536 in
set_option maxHeartbeats 40000000 in
theorem own_sb (l : Launch) (Z : State) (a0 : Array Value) (hw : ∀ d ∈ tables_1, d.before a0 Z = true) (ws : List Jvm.Cond) (o1 o2 : Addr) (h0 : Heap) (n0 : Nat) (Z0 : n0 ≤ h0.size) (F1 : Fld Z h0 o1 "java/lang/String" "value" "[B" .null) (F2 : Fld Z h0 o1 "java/lang/String" "coder" "B" (.int (0 : Int32))) (E1 : Exa Z h0 o1 "java/lang/String") (g1 : n0 ≤ o1) :
    MetFree l (⟨"java/lang/String", "<init>", "([BB)V"⟩ : MethodName) (head1 (Jvm.Cond.code (⟨"java/lang/String", "<init>", "([BB)V"⟩ : MethodName) jdk_42_method_151_code 3 none :: ws) ({ frames := 1, cells := 0, slots := 0, locals := 12 } : Room)) (fun a U => a = #[(.ref o1), (.ref o2), (.int (0 : Int32))] ∧ Z.Warmed39 U.vm ∧ U.heap = h0) (fun _ _ _ _ _ => True) (fun _ U o U' => ∃ v L, o = .returned v ∧ Q_own_sb Z o1 o2 h0 n0 v U'.heap L ∧ FrameEnd U o U' L ({ frames := 1, cells := 0, slots := 0, locals := 12 } : Room).cells ({ frames := 1, cells := 0, slots := 0, locals := 12 } : Room).slots) := by
  refine MetFree.of_bodySF (plainFor_of_name own_pn_java_lang_String) hisR ?_
  intro p e s m args below meth c s₁ Bd hml0 hP hK
  obtain ⟨rfl, hZ, hh⟩ := hP
  have hx := Bd.exec
  have hby := Bd.bytes
  have hml : c.maxLocals = 3 := hml0
  have hown : s.vm.findClass "java/lang/String" = some m.cls := findClass_of_methodNamed Bd.named
  have hnm := (name_of_methodNamed Bd.named Bd.method).1
  have hlk : meth.locks = false := BodyLoose.notSynchronized Bd
  have X0 : Stand p l e ({ frames := 1, cells := 0, slots := 0, locals := 12 } : Room) s m #[(.ref o1), (.ref o2), (.int (0 : Int32))] below meth c s₁ [] 0 0 := Stand.of_body Bd
  have e0 : s₁.heap = h0 := by rw [← hh, Bd.state]; rfl
  have N0 := Fr.nil n0
  show own_Go p e below #[(.ref o1), (.ref o2), (.int (0 : Int32))] s (fun _ U o U' => ∃ v L, o = .returned v ∧ Q_own_sb Z o1 o2 h0 n0 v U'.heap L ∧ FrameEnd U o U' L ({ frames := 1, cells := 0, slots := 0, locals := 12 } : Room).cells ({ frames := 1, cells := 0, slots := 0, locals := 12 } : Room).slots) (s₁.setTop (entryFrame m #[(.ref o1), (.ref o2), (.int (0 : Int32))] 3))
  refine own_st (V := s₁.setTop (mkF m 0 #[.val (.ref o1), .val (.ref o2), .val (.int (0 : Int32))] [])) (fun t k => castTop (by first | (simp [entryFrame, mkF, argsToLocals, Value.category]; done) | rfl) k) ?_
  refine own_st (V := s₁.setTop (mkF m 1 #[.val (.ref o1), .val (.ref o2), .val (.int (0 : Int32))] [(.ref o1)])) (fun t k => XS.aloadN X0.here hx rfl (hb hby own_d11_0) rfl rfl k) ?_
  obtain ⟨T23, X23, e23, st23⟩ := initO X0 hx hZ hown (hw _ (List.mem_of_getElem? (i := 15) rfl)) (hw _ (List.mem_of_getElem? (i := 16) rfl)) (hw _ (List.mem_of_getElem? (i := 17) rfl)) e0 (g := (mkF m 1 #[.val (.ref o1), .val (.ref o2), .val (.int (0 : Int32))] [(.ref o1)])) rfl (by rw [hml]; rfl) rfl (hb hby own_d11_1) (by decide) (W := 0) (by show 2 * 0 + _ ≤ _; exact Nat.le_of_eq rfl) (by decide)
  refine own_st (V := T23.setTop (mkF m 4 #[.val (.ref o1), .val (.ref o2), .val (.int (0 : Int32))] [])) (fun t k => st23 _ k) ?_
  refine own_st (V := T23.setTop (mkF m 5 #[.val (.ref o1), .val (.ref o2), .val (.int (0 : Int32))] [(.ref o1)])) (fun t k => XS.aloadN X23.here hx rfl (hb hby own_d11_4) rfl rfl k) ?_
  refine own_st (V := T23.setTop (mkF m 6 #[.val (.ref o1), .val (.ref o2), .val (.int (0 : Int32))] [(.ref o2), (.ref o1)])) (fun t k => XS.aloadN X23.here hx rfl (hb hby own_d11_5) rfl rfl k) ?_
  obtain ⟨T24, h24, X24, e24, W24, st24⟩ := putF X23 hx hZ hown (host := "") (Or.inl (hw _ (List.mem_of_getElem? (i := 32) rfl))) Via.refl e23 F1 E1 (Or.inr ⟨(hw _ (List.mem_of_getElem? (i := 33) rfl)), rfl, hnm⟩) (hw _ (List.mem_of_getElem? (i := 6) rfl)) (ty := (.array .byte)) (by decide) rfl rfl (g := (mkF m 6 #[.val (.ref o1), .val (.ref o2), .val (.int (0 : Int32))] [(.ref o2), (.ref o1)])) rfl rfl (hb hby own_d11_6)
  have N24 := Fr.snoc X24 N0 g1
  have Z0_24 : n0 ≤ h24.size := by rw [W24.size]; exact Z0
  have F24_w := F1.same W24
  have Kc24 := (Keep.refl h0 [o1]).wr W24 (Or.inl (List.mem_of_getElem? (i := 0) rfl))
  have F24_o1_coder := F2.other W24 (Or.inr (slot_ne (Or.inr (hw _ (List.mem_of_getElem? (i := 31) rfl))) (Or.inr (hw _ (List.mem_of_getElem? (i := 33) rfl))) (by decide) (t := .byte) (t' := (.array .byte)) (by decide) (by decide)))
  have Ex24_o1 := E1.wr W24
  refine own_st (V := T24.setTop (mkF m 9 #[.val (.ref o1), .val (.ref o2), .val (.int (0 : Int32))] [])) (fun t k => st24 _ k) ?_
  refine own_st (V := T24.setTop (mkF m 10 #[.val (.ref o1), .val (.ref o2), .val (.int (0 : Int32))] [(.ref o1)])) (fun t k => XS.aloadN X24.here hx rfl (hb hby own_d11_9) rfl rfl k) ?_
  refine own_st (V := T24.setTop (mkF m 11 #[.val (.ref o1), .val (.ref o2), .val (.int (0 : Int32))] [(.int (0 : Int32)), (.ref o1)])) (fun t k => XS.iloadN X24.here hx rfl (hb hby own_d11_10) rfl k) ?_
  obtain ⟨T25, h25, X25, e25, W25, st25⟩ := putFN X24 hx hZ hown (hw _ (List.mem_of_getElem? (i := 30) rfl)) Via.refl e24 F24_o1_coder Ex24_o1 (Or.inr ⟨(hw _ (List.mem_of_getElem? (i := 31) rfl)), rfl, hnm⟩) (hw _ (List.mem_of_getElem? (i := 6) rfl)) (ty := .byte) (v' := (.int (0 : Int32))) (by decide) (by decide +kernel) (by decide +kernel) (g := (mkF m 11 #[.val (.ref o1), .val (.ref o2), .val (.int (0 : Int32))] [(.int (0 : Int32)), (.ref o1)])) rfl rfl (hb hby own_d11_11)
  have N25 := Fr.snoc X25 N24 g1
  have Z0_25 : n0 ≤ h25.size := by rw [W25.size]; exact Z0_24
  have F25_w := F24_o1_coder.same W25
  have Kc25 := Kc24.wr W25 (Or.inl (List.mem_of_getElem? (i := 0) rfl))
  have F25_o1_value := F24_w.other W25 (Or.inr (slot_ne (Or.inr (hw _ (List.mem_of_getElem? (i := 33) rfl))) (Or.inr (hw _ (List.mem_of_getElem? (i := 31) rfl))) (by decide) (t := (.array .byte)) (t' := .byte) (by decide) (by decide)))
  have Ex25_o1 := Ex24_o1.wr W25
  refine own_st (V := T25.setTop (mkF m 14 #[.val (.ref o1), .val (.ref o2), .val (.int (0 : Int32))] [])) (fun t k => st25 _ k) ?_
  exact own_ret0 X25 hx hlk Bd.returns (hb hby own_d11_14) (by decide) (by decide) (by show Q_own_sb Z o1 o2 h0 n0 _ T25.heap _; rw [e25]; exact ⟨rfl, N25, Kc25, Ex25_o1⟩)
def Q_own_sv (Z : State) (q1 cs : Int32) (h0 : Heap) (n0 : Nat) (v : Option Value) (h : Heap) (L : List Loc) : Prop := ∃ b, v = some (.ref b) ∧ Fr n0 L ∧ Keep h0 h []
theorem own_d8_0 : decode jdk_42_method_139_code 0 = .ok (.getstatic 38, 3) := by decide +kernel
theorem own_d8_3 : decode jdk_42_method_139_code 3 = .ok (.ifCond .eq 23, 3) := by decide +kernel
theorem own_d8_6 : decode jdk_42_method_139_code 6 = .ok (.iload_n 0, 1) := by decide +kernel
theorem own_d8_7 : decode jdk_42_method_139_code 7 = .ok (.invokestatic 1015, 3) := by decide +kernel
theorem own_pd4 : parseMethodDescriptor "(C)Z" = some ⟨[.char], some .boolean⟩ := by decide +kernel
theorem own_d8_10 : decode jdk_42_method_139_code 10 = .ok (.ifCond .eq 16, 3) := by decide +kernel
theorem own_d8_13 : decode jdk_42_method_139_code 13 = .ok (.new 10, 3) := by decide +kernel
theorem own_d8_16 : decode jdk_42_method_139_code 16 = .ok (.dup, 1) := by decide +kernel
theorem own_d8_17 : decode jdk_42_method_139_code 17 = .ok (.iload_n 0, 1) := by decide +kernel
theorem own_d8_18 : decode jdk_42_method_139_code 18 = .ok (.invokestatic 1018, 3) := by decide +kernel
theorem own_pd5 : parseMethodDescriptor "(C)[B" = some ⟨[.char], some (.array .byte)⟩ := by decide +kernel
theorem own_d8_21 : decode jdk_42_method_139_code 21 = .ok (.iconst 0, 1) := by decide +kernel
theorem own_d8_22 : decode jdk_42_method_139_code 22 = .ok (.invokespecial 209, 3) := by decide +kernel
theorem own_pd6 : parseMethodDescriptor "([BB)V" = some ⟨[(.array .byte), .byte], none⟩ := by decide +kernel
theorem own_d8_25 : decode jdk_42_method_139_code 25 = .ok (.areturn, 1) := by decide +kernel
set_option maxRecDepth 65536 in
set_option maxHeartbeats 40000000 in
theorem own_sv (l : Launch) (Z : State) (a0 : Array Value) (hw : ∀ d ∈ tables_1, d.before a0 Z = true) (ws : List Jvm.Cond) (q1 cs : Int32) (h0 : Heap) (n0 : Nat) (Z0 : n0 ≤ h0.size) (Od : Old Z n0 h0) (SC : Sta Z Z.heap "java/lang/String" "COMPACT_STRINGS" "Z" (.int cs)) (hcs : ¬ (cs = (0 : Int32))) (hq : ¬ ((255 : Int32) < q1)) :
    MetFree l (⟨"java/lang/String", "valueOf", "(C)Ljava/lang/String;"⟩ : MethodName) (head1 (Jvm.Cond.code (⟨"java/lang/String", "valueOf", "(C)Ljava/lang/String;"⟩ : MethodName) jdk_42_method_139_code 1 (some (.object "java/lang/String")) :: ws) ({ frames := 2, cells := 2, slots := 5, locals := 27 } : Room)) (fun a U => a = #[(.int q1)] ∧ Z.Warmed39 U.vm ∧ U.heap = h0) (fun _ _ _ _ _ => True) (fun _ U o U' => ∃ v L, o = .returned v ∧ Q_own_sv Z q1 cs h0 n0 v U'.heap L ∧ FrameEnd U o U' L ({ frames := 2, cells := 2, slots := 5, locals := 27 } : Room).cells ({ frames := 2, cells := 2, slots := 5, locals := 27 } : Room).slots) := by
  refine MetFree.of_bodySF (plainFor_of_name own_pn_java_lang_String) hisR ?_
  intro p e s m args below meth c s₁ Bd hml0 hP hK
  obtain ⟨rfl, hZ, hh⟩ := hP
  have hx := Bd.exec
  have hby := Bd.bytes
  have hml : c.maxLocals = 1 := hml0
  have hown : s.vm.findClass "java/lang/String" = some m.cls := findClass_of_methodNamed Bd.named
  have hnm := (name_of_methodNamed Bd.named Bd.method).1
  have hlk : meth.locks = false := BodyLoose.notSynchronized Bd
  have X0 : Stand p l e ({ frames := 2, cells := 2, slots := 5, locals := 27 } : Room) s m #[(.int q1)] below meth c s₁ [] 0 0 := Stand.of_body Bd
  have e0 : s₁.heap = h0 := by rw [← hh, Bd.state]; rfl
  have N0 := Fr.nil n0
  show own_Go p e below #[(.int q1)] s (fun _ U o U' => ∃ v L, o = .returned v ∧ Q_own_sv Z q1 cs h0 n0 v U'.heap L ∧ FrameEnd U o U' L ({ frames := 2, cells := 2, slots := 5, locals := 27 } : Room).cells ({ frames := 2, cells := 2, slots := 5, locals := 27 } : Room).slots) (s₁.setTop (entryFrame m #[(.int q1)] 1))
  refine own_st (V := s₁.setTop (mkF m 0 #[.val (.int q1)] [])) (fun t k => castTop (by first | (simp [entryFrame, mkF, argsToLocals, Value.category]; done) | rfl) k) ?_
  obtain ⟨T26, X26, e26, st26⟩ := getS2 X0 hx hZ hown (host := "") (Or.inl (hw _ (List.mem_of_getElem? (i := 18) rfl))) Via.refl e0 (own_so Od SC) (g := (mkF m 0 #[.val (.int q1)] [])) rfl (hb hby own_d8_0)
  refine own_st (V := T26.setTop (mkF m 3 #[.val (.int q1)] [(.int cs)])) (fun t k => st26 _ k) ?_
  refine own_st (V := T26.setTop (mkF m 6 #[.val (.int q1)] [])) (fun t k => XS.ifNo X26.here hx rfl (hb hby own_d8_3) rfl ((if0 _ _).trans (feq hcs).1) k) ?_
  refine own_st (V := T26.setTop (mkF m 7 #[.val (.int q1)] [(.int q1)])) (fun t k => XS.iloadN X26.here hx rfl (hb hby own_d8_6) rfl k) ?_
  obtain ⟨_, _, ⟨T27, L27, k27, n27⟩, -, X27, ⟨Lc27, hQ27, l27, y27, z27⟩, st27⟩ := Jvm.LawKit.callS X26 hx (y := (⟨"java/lang/StringLatin1", "canEncode", "(C)Z"⟩ : MethodName)) hown (mvT hZ (hw _ (List.mem_of_getElem? (i := 45) rfl))) (mvT hZ (hw _ (List.mem_of_getElem? (i := 46) rfl))) (mvT hZ (hw _ (List.mem_of_getElem? (i := 47) rfl))) (mvT hZ (hw _ (List.mem_of_getElem? (i := 48) rfl))) (by decide) (backOf (W := 0) (own_ce l Z a0 hw [] q1 h0 n0 Z0 hq) hZ (hw _ (List.mem_of_getElem? (i := 48) rfl)) (hw _ (List.mem_of_getElem? (i := 47) rfl)) (by decide) (by decide)) (g := (mkF m 7 #[.val (.int q1)] [(.int q1)])) rfl (by rw [hml]; rfl) (argsL := [(.int q1)]) (rest := []) (lenOf own_pd4 rfl) rfl (by show 2 * 0 + _ ≤ _; exact Nat.le_of_eq rfl) (hb hby own_d8_7) (fun _ _ => ⟨rfl, e26, (by decide : 0 + 0 ≤ _), (by decide : 0 + 0 ≤ _)⟩)
  dsimp only [Pt.U, Pt.locs, Pt.cells, Pt.slots] at X27 l27 y27 z27 st27 hQ27
  subst l27 y27 z27
  obtain ⟨rfl, N27q, e27⟩ := hQ27
  have N27 := Fr.app N0 N27q
  refine own_st (V := T27.setTop (mkF m 10 #[.val (.int q1)] [(.int (1 : Int32))])) (fun t k => st27 _ k) ?_
  refine own_st (V := T27.setTop (mkF m 13 #[.val (.int q1)] [])) (fun t k => XS.ifNo X27.here hx rfl (hb hby own_d8_10) rfl ((if0 _ _).trans (feq (by decide : ¬ ((1 : Int32) = (0 : Int32)))).1) k) ?_
  obtain ⟨T28, h28, X28, e28, E28, A28, D28, -, st28⟩ := newO X27 hx hZ hown (hw _ (List.mem_of_getElem? (i := 49) rfl)) (hw _ (List.mem_of_getElem? (i := 6) rfl)) (hw _ (List.mem_of_getElem? (i := 7) rfl)) e27 (g := (mkF m 13 #[.val (.int q1)] [])) rfl (hb hby own_d8_13) (by decide) (by decide)
  obtain ⟨b28, g28⟩ : ∃ z, z = h0.size := ⟨_, rfl⟩
  rw [← g28] at A28 D28 st28
  have gb_b28 : n0 ≤ b28 := Nat.le_trans Z0 (Nat.le_of_eq g28.symm)
  have Z0_28 : n0 ≤ h28.size := Nat.le_trans Z0 E28.1
  have sz_b28 : h0.size ≤ b28 := Nat.le_trans (Keep.refl h0 []).1 (Nat.le_of_eq g28.symm)
  have Kc28 := (Keep.refl h0 []).ext E28
  have Od28 := Od.ext E28
  have F28_b28_coder : Fld Z h28 b28 "java/lang/String" "coder" "B" (.int (0 : Int32)) := D28 (Or.inr (hw _ (List.mem_of_getElem? (i := 31) rfl))) (ty := .byte) (by decide)
  have F28_b28_value : Fld Z h28 b28 "java/lang/String" "value" "[B" .null := D28 (Or.inr (hw _ (List.mem_of_getElem? (i := 33) rfl))) (ty := (.array .byte)) (by decide)
  refine own_st (V := T28.setTop (mkF m 16 #[.val (.int q1)] [(.ref b28)])) (fun t k => st28 _ k) ?_
  refine own_st (V := T28.setTop (mkF m 17 #[.val (.int q1)] [(.ref b28), (.ref b28)])) (fun t k => XS.dup X28.here hx rfl (hb hby own_d8_16) rfl rfl k) ?_
  refine own_st (V := T28.setTop (mkF m 18 #[.val (.int q1)] [(.int q1), (.ref b28), (.ref b28)])) (fun t k => XS.iloadN X28.here hx rfl (hb hby own_d8_17) rfl k) ?_
  obtain ⟨_, _, ⟨T29, L29, k29, n29⟩, -, X29, ⟨Lc29, hQ29, l29, y29, z29⟩, st29⟩ := Jvm.LawKit.callS X28 hx (y := (⟨"java/lang/StringLatin1", "toBytes", "(C)[B"⟩ : MethodName)) hown (mvT hZ (hw _ (List.mem_of_getElem? (i := 50) rfl))) (mvT hZ (hw _ (List.mem_of_getElem? (i := 51) rfl))) (mvT hZ (hw _ (List.mem_of_getElem? (i := 47) rfl))) (mvT hZ (hw _ (List.mem_of_getElem? (i := 52) rfl))) (by decide) (backOf (W := 2) (own_tb l Z a0 hw [] q1 h28 n0 Z0_28 ) hZ (hw _ (List.mem_of_getElem? (i := 52) rfl)) (hw _ (List.mem_of_getElem? (i := 47) rfl)) (by decide) (by decide)) (g := (mkF m 18 #[.val (.int q1)] [(.int q1), (.ref b28), (.ref b28)])) rfl (by rw [hml]; rfl) (argsL := [(.int q1)]) (rest := [(.ref b28), (.ref b28)]) (lenOf own_pd5 rfl) rfl (by show 2 * 0 + _ ≤ _; exact Nat.le_of_eq rfl) (hb hby own_d8_18) (fun _ _ => ⟨rfl, e28, (by decide : 1 + 1 ≤ _), (by decide : 4 + 1 ≤ _)⟩)
  dsimp only [Pt.U, Pt.locs, Pt.cells, Pt.slots] at X29 l29 y29 z29 st29 hQ29
  subst l29 y29 z29
  obtain ⟨t29, rfl, N29q, K29⟩ := hQ29
  have N29 := Fr.app N27 N29q
  have Z0_29 : n0 ≤ T29.heap.size := Nat.le_trans Z0_28 K29.1
  have Kc29 := Kc28.trans K29 all0
  have F29_b28_coder := F28_b28_coder.keep K29 nin0
  have F29_b28_value := F28_b28_value.keep K29 nin0
  have Ex29_b28 := A28.keep K29
  have Od29 := Od28.keep K29 all0
  refine own_st (V := T29.setTop (mkF m 21 #[.val (.int q1)] [(.ref t29), (.ref b28), (.ref b28)])) (fun t k => st29 _ k) ?_
  refine own_st (V := T29.setTop (mkF m 22 #[.val (.int q1)] [(.int (0 : Int32)), (.ref t29), (.ref b28), (.ref b28)])) (fun t k => XS.iconst X29.here hx rfl (hb hby own_d8_21) k) ?_
  obtain ⟨_, _, ⟨T30, L30, k30, n30⟩, -, X30, ⟨Lc30, hQ30, l30, y30, z30⟩, st30⟩ := X29.specialBack hx (y := (⟨"java/lang/String", "<init>", "([BB)V"⟩ : MethodName)) rfl hown (mvT hZ (hw _ (List.mem_of_getElem? (i := 53) rfl))) (mvT hZ (hw _ (List.mem_of_getElem? (i := 54) rfl))) (mvT hZ (hw _ (List.mem_of_getElem? (i := 55) rfl))) (by decide) (backOf (W := 1) (own_sb l Z a0 hw [] b28 t29 T29.heap n0 Z0_29 F29_b28_value F29_b28_coder Ex29_b28 gb_b28) hZ (hw _ (List.mem_of_getElem? (i := 55) rfl)) (hw _ (List.mem_of_getElem? (i := 7) rfl)) (by decide) (by decide)) (g := (mkF m 22 #[.val (.int q1)] [(.int (0 : Int32)), (.ref t29), (.ref b28), (.ref b28)])) rfl (by rw [hml]; rfl) (Steps.refl _) (a := b28) (argsL := [(.ref t29), (.int (0 : Int32))]) (rest := [(.ref b28)]) (lenOf own_pd6 rfl) rfl (by show 2 * 0 + _ ≤ _; exact Nat.le_of_eq rfl) (hb hby own_d8_22) (fun _ _ => ⟨rfl, rfl, (by decide : 2 + 0 ≤ _), (by decide : 5 + 0 ≤ _)⟩)
  dsimp only [Pt.U, Pt.locs, Pt.cells, Pt.slots] at X30 l30 y30 z30 st30 hQ30
  subst l30 y30 z30
  obtain ⟨rfl, N30q, K30, Ex30_q⟩ := hQ30
  have N30 := Fr.app N29 N30q
  have Z0_30 : n0 ≤ T30.heap.size := Nat.le_trans Z0_29 K30.1
  have Kc30 := Kc29.trans K30 (fun x hx => Or.inr (by cases List.mem_singleton.mp hx; exact sz_b28))
  have Ex30_b28 := Ex29_b28.keep K30
  have Od30 := Od29.keep K30 (allS gb_b28 all0)
  refine own_st (V := T30.setTop (mkF m 25 #[.val (.int q1)] [(.ref b28)])) (fun t k => st30.trans k) ?_
  exact own_ret X30 hx hlk Bd.returns rfl (Or.inr (Or.inr (Or.inr (Or.inr ⟨rfl, rfl, rfl⟩)))) (hb hby own_d8_25) (by decide) (by decide) (by show Q_own_sv Z q1 cs h0 n0 _ T30.heap _; exact ⟨_, rfl, N30, Kc30⟩)
theorem own_ch (x : Int32) : ¬ ((255 : Int32) < ((x &&& (255 : Int32)).toUInt32.toUInt16.toUInt32.toInt32)) := by
  rw [i2c_mask]
  have h := c_mask x 255 8 (by decide) (by decide)
  have e : (255 : Int32).toInt = 255 := by decide
  rw [Int32.lt_iff_toInt_lt, e]; omega
theorem own_ch2 (x : Int32) : ¬ ((255 : Int32) < (nar .char ((x &&& (255 : Int32)).toUInt32.toUInt16.toUInt32.toInt32))) := by
  show ¬ ((255 : Int32) < ((((x &&& (255 : Int32)).toUInt32.toUInt16.toUInt32.toInt32)).toUInt32.toUInt16.toUInt32.toInt32))
  rw [i2c_mask, i2c_mask]
  have h := c_mask x 255 8 (by decide) (by decide)
  have e : (255 : Int32).toInt = 255 := by decide
  rw [Int32.lt_iff_toInt_lt, e]; omega
theorem own_lg {a b : Int32} (h : b < a) : (0 : Int32) < lcmpW (a.toInt64 - b.toInt64) (0 : Int64) := by
  rw [lw_gt, Int64.lt_iff_toInt_lt]
  rw [Int32.lt_iff_toInt_lt] at h
  have q := c_lsub a.toInt64 b.toInt64
  rw [c_i2l, c_i2l] at q
  have r := rng64 (a.toInt64 - b.toInt64)
  have ra := rng32 a
  have rb := rng32 b
  have e : (0 : Int64).toInt = 0 := by decide
  rw [e]; omega
theorem own_lgn {a b : Int32} (h : ¬ (b < a)) : ¬ ((0 : Int32) < lcmpW (a.toInt64 - b.toInt64) (0 : Int64)) := by
  rw [lw_gt, Int64.lt_iff_toInt_lt]
  rw [Int32.lt_iff_toInt_lt] at h
  have q := c_lsub a.toInt64 b.toInt64
  rw [c_i2l, c_i2l] at q
  have r := rng64 (a.toInt64 - b.toInt64)
  have ra := rng32 a
  have rb := rng32 b
  have e : (0 : Int64).toInt = 0 := by decide
  rw [e]; omega
theorem own_ll {a b : Int32} (h : a < b) : lcmpW (a.toInt64 - b.toInt64) (0 : Int64) < (0 : Int32) := by
  rw [lw_lt, Int64.lt_iff_toInt_lt]
  rw [Int32.lt_iff_toInt_lt] at h
  have q := c_lsub a.toInt64 b.toInt64
  rw [c_i2l, c_i2l] at q
  have r := rng64 (a.toInt64 - b.toInt64)
  have ra := rng32 a
  have rb := rng32 b
  have e : (0 : Int64).toInt = 0 := by decide
  rw [e]; omega
theorem own_lln {a b : Int32} (h : ¬ (a < b)) : ¬ (lcmpW (a.toInt64 - b.toInt64) (0 : Int64) < (0 : Int32)) := by
  rw [lw_lt, Int64.lt_iff_toInt_lt]
  rw [Int32.lt_iff_toInt_lt] at h
  have q := c_lsub a.toInt64 b.toInt64
  rw [c_i2l, c_i2l] at q
  have r := rng64 (a.toInt64 - b.toInt64)
  have ra := rng32 a
  have rb := rng32 b
  have e : (0 : Int64).toInt = 0 := by decide
  rw [e]; omega
theorem own_tri (a b : Int32) : (b < a ∧ ¬ (a < b)) ∨ (¬ (b < a) ∧ a < b) ∨ (¬ (b < a) ∧ ¬ (a < b)) := by
  rw [Int32.lt_iff_toInt_lt, Int32.lt_iff_toInt_lt]; omega
theorem own_irr (a : Int32) : ¬ (a < a) := by rw [Int32.lt_iff_toInt_lt]; omega
def own_Q0 (Z : State) (p1 p2 p3 p4 cs : Int32) (h0 : Heap) (n0 : Nat) (v : Option Value) (h : Heap) (L : List Loc) : Prop := v = some (.int (1 : Int32)) ∧ Fr n0 L
theorem own_pd7 : parseMethodDescriptor "([C)V" = some ⟨[(.array .char)], none⟩ := by decide +kernel
theorem own_pd8 : parseMethodDescriptor "(Ljava/lang/String;I)V" = some ⟨[(.object "java/lang/String"), .int], none⟩ := by decide +kernel
theorem own_pd9 : parseMethodDescriptor "(C)Ljava/lang/String;" = some ⟨[.char], some (.object "java/lang/String")⟩ := by decide +kernel
theorem own_pd10 : parseMethodDescriptor "(Lcom/example/trust_grade/trustgrade/network/Level;)Z" = some ⟨[(.object "com/example/trust_grade/trustgrade/network/Level")], some .boolean⟩ := by decide +kernel
theorem own_pn_com_example_trust_grade_trustgrade_network_LevelIsAbovePinLaw : plainName "com/example/trust_grade/trustgrade/network/LevelIsAbovePinLaw" = true := by first | (simp [plainName, overriddenIn]; done) | decide +kernel
set_option maxRecDepth 65536 in
set_option maxHeartbeats 40000000 in
theorem own_law (l : Launch) (Z : State) (a0 : Array Value) (hw : ∀ d ∈ tables_1, d.before a0 Z = true) (ws : List Jvm.Cond) (p1 p2 p3 p4 cs : Int32) (h0 : Heap) (n0 : Nat) (Z0 : n0 ≤ h0.size) (Od : Old Z n0 h0) (SC : Sta Z Z.heap "java/lang/String" "COMPACT_STRINGS" "Z" (.int cs)) (hcs : ¬ (cs = (0 : Int32))) :
    MetFree l x (head1 (Jvm.Cond.code x code maxLocals ret :: ws) room_1) (fun a U => a = #[(.int p1), (.int p2), (.int p3), (.int p4)] ∧ Z.Warmed39 U.vm ∧ U.heap = h0) (fun _ _ _ _ _ => True) (fun _ U o U' => ∃ v L, o = .returned v ∧ own_Q0 Z p1 p2 p3 p4 cs h0 n0 v U'.heap L ∧ FrameEnd U o U' L room_1.cells room_1.slots) := by
  refine MetFree.of_bodySF (plainFor_of_name own_pn_com_example_trust_grade_trustgrade_network_LevelIsAbovePinLaw) hisR ?_
  intro p e s m args below meth c s₁ Bd hml0 hP hK
  obtain ⟨rfl, hZ, hh⟩ := hP
  have hx := Bd.exec
  have hby := Bd.bytes
  have hml : c.maxLocals = 14 := hml0
  have hown : s.vm.findClass "com/example/trust_grade/trustgrade/network/LevelIsAbovePinLaw" = some m.cls := findClass_of_methodNamed Bd.named
  have hnm := (name_of_methodNamed Bd.named Bd.method).1
  have hlk : meth.locks = false := BodyLoose.notSynchronized Bd
  have X0 : Stand p l e room_1 s m #[(.int p1), (.int p2), (.int p3), (.int p4)] below meth c s₁ [] 0 0 := Stand.of_body Bd
  have e0 : s₁.heap = h0 := by rw [← hh, Bd.state]; rfl
  have N0 := Fr.nil n0
  show own_Go p e below #[(.int p1), (.int p2), (.int p3), (.int p4)] s (fun _ U o U' => ∃ v L, o = .returned v ∧ own_Q0 Z p1 p2 p3 p4 cs h0 n0 v U'.heap L ∧ FrameEnd U o U' L room_1.cells room_1.slots) (s₁.setTop (entryFrame m #[(.int p1), (.int p2), (.int p3), (.int p4)] maxLocals))
  refine own_st (V := s₁.setTop (mkF m 0 #[.val (.int p1), .val (.int p2), .val (.int p3), .val (.int p4), .unset, .unset, .unset, .unset, .unset, .unset, .unset, .unset, .unset, .unset] [])) (fun t k => castTop (by first | (simp [entryFrame, mkF, argsToLocals, Value.category, maxLocals]; done) | rfl) k) ?_
  refine own_st (V := s₁.setTop (mkF m 1 #[.val (.int p1), .val (.int p2), .val (.int p3), .val (.int p4), .unset, .unset, .unset, .unset, .unset, .unset, .unset, .unset, .unset, .unset] [(.int p1)])) (fun t k => XS.iloadN X0.here hx rfl (hb hby at_0) rfl k) ?_
  refine own_st (V := s₁.setTop (mkF m 3 #[.val (.int p1), .val (.int p2), .val (.int p3), .val (.int p4), .unset, .unset, .unset, .unset, .unset, .unset, .unset, .unset, .unset, .unset] [(.int (2147483647 : Int32)), (.int p1)])) (fun t k => X0.ldcInt hx hown (mvT hZ (hw _ (List.mem_of_getElem? (i := 0) rfl))) (g := (mkF m 1 #[.val (.int p1), .val (.int p2), .val (.int p3), .val (.int p4), .unset, .unset, .unset, .unset, .unset, .unset, .unset, .unset, .unset, .unset] [(.int p1)])) rfl (hb hby at_1) t k) ?_
  refine own_st (V := s₁.setTop (mkF m 4 #[.val (.int p1), .val (.int p2), .val (.int p3), .val (.int p4), .unset, .unset, .unset, .unset, .unset, .unset, .unset, .unset, .unset, .unset] [(.int (p1 &&& (2147483647 : Int32)))])) (fun t k => XS.iand X0.here hx rfl (hb hby at_3) rfl k) ?_
  refine own_st (V := s₁.setTop (mkF m 6 #[.val (.int p1), .val (.int p2), .val (.int p3), .val (.int p4), .val (.int (p1 &&& (2147483647 : Int32))), .unset, .unset, .unset, .unset, .unset, .unset, .unset, .unset, .unset] [])) (fun t k => XS.istore X0.here hx rfl (hb hby at_4) rfl (l' := #[.val (.int p1), .val (.int p2), .val (.int p3), .val (.int p4), .val (.int (p1 &&& (2147483647 : Int32))), .unset, .unset, .unset, .unset, .unset, .unset, .unset, .unset, .unset]) rfl k) ?_
  refine own_st (V := s₁.setTop (mkF m 7 #[.val (.int p1), .val (.int p2), .val (.int p3), .val (.int p4), .val (.int (p1 &&& (2147483647 : Int32))), .unset, .unset, .unset, .unset, .unset, .unset, .unset, .unset, .unset] [(.int p2)])) (fun t k => XS.iloadN X0.here hx rfl (hb hby at_6) rfl k) ?_
  refine own_st (V := s₁.setTop (mkF m 9 #[.val (.int p1), .val (.int p2), .val (.int p3), .val (.int p4), .val (.int (p1 &&& (2147483647 : Int32))), .unset, .unset, .unset, .unset, .unset, .unset, .unset, .unset, .unset] [(.int (2147483647 : Int32)), (.int p2)])) (fun t k => X0.ldcInt hx hown (mvT hZ (hw _ (List.mem_of_getElem? (i := 0) rfl))) (g := (mkF m 7 #[.val (.int p1), .val (.int p2), .val (.int p3), .val (.int p4), .val (.int (p1 &&& (2147483647 : Int32))), .unset, .unset, .unset, .unset, .unset, .unset, .unset, .unset, .unset] [(.int p2)])) rfl (hb hby at_7) t k) ?_
  refine own_st (V := s₁.setTop (mkF m 10 #[.val (.int p1), .val (.int p2), .val (.int p3), .val (.int p4), .val (.int (p1 &&& (2147483647 : Int32))), .unset, .unset, .unset, .unset, .unset, .unset, .unset, .unset, .unset] [(.int (p2 &&& (2147483647 : Int32)))])) (fun t k => XS.iand X0.here hx rfl (hb hby at_9) rfl k) ?_
  refine own_st (V := s₁.setTop (mkF m 12 #[.val (.int p1), .val (.int p2), .val (.int p3), .val (.int p4), .val (.int (p1 &&& (2147483647 : Int32))), .val (.int (p2 &&& (2147483647 : Int32))), .unset, .unset, .unset, .unset, .unset, .unset, .unset, .unset] [])) (fun t k => XS.istore X0.here hx rfl (hb hby at_10) rfl (l' := #[.val (.int p1), .val (.int p2), .val (.int p3), .val (.int p4), .val (.int (p1 &&& (2147483647 : Int32))), .val (.int (p2 &&& (2147483647 : Int32))), .unset, .unset, .unset, .unset, .unset, .unset, .unset, .unset]) rfl k) ?_
  refine own_st (V := s₁.setTop (mkF m 13 #[.val (.int p1), .val (.int p2), .val (.int p3), .val (.int p4), .val (.int (p1 &&& (2147483647 : Int32))), .val (.int (p2 &&& (2147483647 : Int32))), .unset, .unset, .unset, .unset, .unset, .unset, .unset, .unset] [(.int p4)])) (fun t k => XS.iloadN X0.here hx rfl (hb hby at_12) rfl k) ?_
  refine own_st (V := s₁.setTop (mkF m 16 #[.val (.int p1), .val (.int p2), .val (.int p3), .val (.int p4), .val (.int (p1 &&& (2147483647 : Int32))), .val (.int (p2 &&& (2147483647 : Int32))), .unset, .unset, .unset, .unset, .unset, .unset, .unset, .unset] [(.int (256 : Int32)), (.int p4)])) (fun t k => XS.sipush X0.here hx rfl (hb hby at_13) k) ?_
  refine own_st (V := s₁.setTop (mkF m 17 #[.val (.int p1), .val (.int p2), .val (.int p3), .val (.int p4), .val (.int (p1 &&& (2147483647 : Int32))), .val (.int (p2 &&& (2147483647 : Int32))), .unset, .unset, .unset, .unset, .unset, .unset, .unset, .unset] [(.int (p4 &&& (256 : Int32)))])) (fun t k => XS.iand X0.here hx rfl (hb hby at_16) rfl k) ?_
  by_cases hs17 : (p4 &&& (256 : Int32)) = (0 : Int32)
  · refine own_st (V := s₁.setTop (mkF m 24 #[.val (.int p1), .val (.int p2), .val (.int p3), .val (.int p4), .val (.int (p1 &&& (2147483647 : Int32))), .val (.int (p2 &&& (2147483647 : Int32))), .unset, .unset, .unset, .unset, .unset, .unset, .unset, .unset] [])) (fun t k => XS.ifYes X0.here hx rfl (pc0 := 17) (pc' := 24) rfl (hb hby at_17) rfl ((if0 _ _).trans (teq hs17).1) (by decide) (by decide) k) ?_
    rcases own_tri (p1 &&& (2147483647 : Int32)) (p2 &&& (2147483647 : Int32)) with ⟨hg, hl⟩ | ⟨hg, hl⟩ | ⟨hg, hl⟩
    · refine own_st (V := s₁.setTop (mkF m 25 #[.val (.int p1), .val (.int p2), .val (.int p3), .val (.int p4), .val (.int (p1 &&& (2147483647 : Int32))), .val (.int (p2 &&& (2147483647 : Int32))), .unset, .unset, .unset, .unset, .unset, .unset, .unset, .unset] [(.int (1 : Int32))])) (fun t k => XS.iconst X0.here hx rfl (hb hby at_24) k) ?_
      obtain ⟨T31, h31, k31, X31, e31, E31, A31, st31⟩ := newP X0 hx hZ (hw _ (List.mem_of_getElem? (i := 1) rfl)) e0 (g := (mkF m 25 #[.val (.int p1), .val (.int p2), .val (.int p3), .val (.int p4), .val (.int (p1 &&& (2147483647 : Int32))), .val (.int (p2 &&& (2147483647 : Int32))), .unset, .unset, .unset, .unset, .unset, .unset, .unset, .unset] [(.int (1 : Int32))])) rfl (hb hby at_25) rfl (by decide) (cap := 1) (by decide) (by decide) (by decide) (by decide)
      obtain ⟨b31, g31⟩ : ∃ z, z = h0.size := ⟨_, rfl⟩
      rw [← g31] at A31 st31
      have gb_b31 : n0 ≤ b31 := Nat.le_trans Z0 (Nat.le_of_eq g31.symm)
      have Z0_31 : n0 ≤ h31.size := Nat.le_trans Z0 E31.1
      have Od31 := Od.ext E31
      have V31_b31 : Arv Z h31 b31 k31 .char (1 : Int32) [(.int (0 : Int32))] (.int (0 : Int32)) := (Arv.new A31 (by decide)).pad (pad_rep [] (.int (0 : Int32)) 1)
      refine own_st (V := T31.setTop (mkF m 27 #[.val (.int p1), .val (.int p2), .val (.int p3), .val (.int p4), .val (.int (p1 &&& (2147483647 : Int32))), .val (.int (p2 &&& (2147483647 : Int32))), .unset, .unset, .unset, .unset, .unset, .unset, .unset, .unset] [(.ref b31)])) (fun t k => st31 _ k) ?_
      refine own_st (V := T31.setTop (mkF m 28 #[.val (.int p1), .val (.int p2), .val (.int p3), .val (.int p4), .val (.int (p1 &&& (2147483647 : Int32))), .val (.int (p2 &&& (2147483647 : Int32))), .unset, .unset, .unset, .unset, .unset, .unset, .unset, .unset] [(.ref b31), (.ref b31)])) (fun t k => XS.dup X31.here hx rfl (hb hby at_27) rfl rfl k) ?_
      refine own_st (V := T31.setTop (mkF m 29 #[.val (.int p1), .val (.int p2), .val (.int p3), .val (.int p4), .val (.int (p1 &&& (2147483647 : Int32))), .val (.int (p2 &&& (2147483647 : Int32))), .unset, .unset, .unset, .unset, .unset, .unset, .unset, .unset] [(.int (0 : Int32)), (.ref b31), (.ref b31)])) (fun t k => XS.iconst X31.here hx rfl (hb hby at_28) k) ?_
      refine own_st (V := T31.setTop (mkF m 30 #[.val (.int p1), .val (.int p2), .val (.int p3), .val (.int p4), .val (.int (p1 &&& (2147483647 : Int32))), .val (.int (p2 &&& (2147483647 : Int32))), .unset, .unset, .unset, .unset, .unset, .unset, .unset, .unset] [(.int p3), (.int (0 : Int32)), (.ref b31), (.ref b31)])) (fun t k => XS.iloadN X31.here hx rfl (hb hby at_29) rfl k) ?_
      refine own_st (V := T31.setTop (mkF m 33 #[.val (.int p1), .val (.int p2), .val (.int p3), .val (.int p4), .val (.int (p1 &&& (2147483647 : Int32))), .val (.int (p2 &&& (2147483647 : Int32))), .unset, .unset, .unset, .unset, .unset, .unset, .unset, .unset] [(.int (255 : Int32)), (.int p3), (.int (0 : Int32)), (.ref b31), (.ref b31)])) (fun t k => XS.sipush X31.here hx rfl (hb hby at_30) k) ?_
      refine own_st (V := T31.setTop (mkF m 34 #[.val (.int p1), .val (.int p2), .val (.int p3), .val (.int p4), .val (.int (p1 &&& (2147483647 : Int32))), .val (.int (p2 &&& (2147483647 : Int32))), .unset, .unset, .unset, .unset, .unset, .unset, .unset, .unset] [(.int (p3 &&& (255 : Int32))), (.int (0 : Int32)), (.ref b31), (.ref b31)])) (fun t k => XS.iand X31.here hx rfl (hb hby at_33) rfl k) ?_
      refine own_st (V := T31.setTop (mkF m 35 #[.val (.int p1), .val (.int p2), .val (.int p3), .val (.int p4), .val (.int (p1 &&& (2147483647 : Int32))), .val (.int (p2 &&& (2147483647 : Int32))), .unset, .unset, .unset, .unset, .unset, .unset, .unset, .unset] [(.int ((p3 &&& (255 : Int32)).toUInt32.toUInt16.toUInt32.toInt32)), (.int (0 : Int32)), (.ref b31), (.ref b31)])) (fun t k => XS.i2c X31.here hx rfl (hb hby at_34) rfl k) ?_
      have Vk32 := V31_b31
      obtain ⟨cl32, Ar32, qk32, sz32, nn32, hs32, fs32⟩ := Vk32
      have hin32 : ¬ ((0 : Int32) < 0 ∨ cl32.slots.size ≤ ((0 : Int32)).toNatClampNeg) := inb_of sz32 ⟨by decide, by decide⟩
      obtain ⟨T32, h32, X32, e32, W32, st32⟩ := stC X31 hx hZ e31 Ar32 (j := (0 : Int32)) hin32 (g := (mkF m 35 #[.val (.int p1), .val (.int p2), .val (.int p3), .val (.int p4), .val (.int (p1 &&& (2147483647 : Int32))), .val (.int (p2 &&& (2147483647 : Int32))), .unset, .unset, .unset, .unset, .unset, .unset, .unset, .unset] [(.int ((p3 &&& (255 : Int32)).toUInt32.toUInt16.toUInt32.toInt32)), (.int (0 : Int32)), (.ref b31), (.ref b31)])) rfl rfl (hb hby at_35)
      have V32_b31 := Arv.set Ar32 qk32 sz32 nn32 hs32 fs32 (fits_nar_char _) W32 0 rfl (Nat.le_of_ble_eq_true rfl)
      have N32 := Fr.snoc X32 N0 gb_b31
      have Z0_32 : n0 ≤ h32.size := by rw [W32.size]; exact Z0_31
      have Od32 := Od31.wr W32 gb_b31
      refine own_st (V := T32.setTop (mkF m 36 #[.val (.int p1), .val (.int p2), .val (.int p3), .val (.int p4), .val (.int (p1 &&& (2147483647 : Int32))), .val (.int (p2 &&& (2147483647 : Int32))), .unset, .unset, .unset, .unset, .unset, .unset, .unset, .unset] [(.ref b31)])) (fun t k => st32 _ k) ?_
      refine own_st (V := T32.setTop (mkF m 38 #[.val (.int p1), .val (.int p2), .val (.int p3), .val (.int p4), .val (.int (p1 &&& (2147483647 : Int32))), .val (.int (p2 &&& (2147483647 : Int32))), .val (.ref b31), .unset, .unset, .unset, .unset, .unset, .unset, .unset] [])) (fun t k => XS.astore X32.here hx rfl (hb hby at_36) rfl rfl (l' := #[.val (.int p1), .val (.int p2), .val (.int p3), .val (.int p4), .val (.int (p1 &&& (2147483647 : Int32))), .val (.int (p2 &&& (2147483647 : Int32))), .val (.ref b31), .unset, .unset, .unset, .unset, .unset, .unset, .unset]) rfl k) ?_
      obtain ⟨T33, h33, X33, e33, E33, A33, D33, -, st33⟩ := newO X32 hx hZ hown (hw _ (List.mem_of_getElem? (i := 2) rfl)) (hw _ (List.mem_of_getElem? (i := 3) rfl)) (hw _ (List.mem_of_getElem? (i := 4) rfl)) e32 (g := (mkF m 38 #[.val (.int p1), .val (.int p2), .val (.int p3), .val (.int p4), .val (.int (p1 &&& (2147483647 : Int32))), .val (.int (p2 &&& (2147483647 : Int32))), .val (.ref b31), .unset, .unset, .unset, .unset, .unset, .unset, .unset] [])) rfl (hb hby at_38) (by decide) (by decide)
      obtain ⟨b33, g33⟩ : ∃ z, z = h32.size := ⟨_, rfl⟩
      rw [← g33] at A33 D33 st33
      have gb_b33 : n0 ≤ b33 := Nat.le_trans Z0_32 (Nat.le_of_eq g33.symm)
      have Z0_33 : n0 ≤ h33.size := Nat.le_trans Z0_32 E33.1
      have ne_b31_b33 : b31 ≠ b33 := Nat.ne_of_lt (Nat.lt_of_lt_of_le V32_b31.lt (Nat.le_of_eq g33.symm))
      have V33_b31 := V32_b31.ext E33
      have Od33 := Od32.ext E33
      have F33_b33_name : Fld Z h33 b33 "com/example/trust_grade/trustgrade/network/Level" "name" "Ljava/lang/String;" .null := D33 (Or.inr (hw _ (List.mem_of_getElem? (i := 39) rfl))) (ty := (.object "java/lang/String")) (by decide)
      have F33_b33_rank : Fld Z h33 b33 "com/example/trust_grade/trustgrade/network/Level" "rank" "I" (.int (0 : Int32)) := D33 (Or.inr (hw _ (List.mem_of_getElem? (i := 41) rfl))) (ty := .int) (by decide)
      refine own_st (V := T33.setTop (mkF m 41 #[.val (.int p1), .val (.int p2), .val (.int p3), .val (.int p4), .val (.int (p1 &&& (2147483647 : Int32))), .val (.int (p2 &&& (2147483647 : Int32))), .val (.ref b31), .unset, .unset, .unset, .unset, .unset, .unset, .unset] [(.ref b33)])) (fun t k => st33 _ k) ?_
      refine own_st (V := T33.setTop (mkF m 42 #[.val (.int p1), .val (.int p2), .val (.int p3), .val (.int p4), .val (.int (p1 &&& (2147483647 : Int32))), .val (.int (p2 &&& (2147483647 : Int32))), .val (.ref b31), .unset, .unset, .unset, .unset, .unset, .unset, .unset] [(.ref b33), (.ref b33)])) (fun t k => XS.dup X33.here hx rfl (hb hby at_41) rfl rfl k) ?_
      obtain ⟨T34, h34, X34, e34, E34, A34, D34, -, st34⟩ := newO X33 hx hZ hown (hw _ (List.mem_of_getElem? (i := 5) rfl)) (hw _ (List.mem_of_getElem? (i := 6) rfl)) (hw _ (List.mem_of_getElem? (i := 7) rfl)) e33 (g := (mkF m 42 #[.val (.int p1), .val (.int p2), .val (.int p3), .val (.int p4), .val (.int (p1 &&& (2147483647 : Int32))), .val (.int (p2 &&& (2147483647 : Int32))), .val (.ref b31), .unset, .unset, .unset, .unset, .unset, .unset, .unset] [(.ref b33), (.ref b33)])) rfl (hb hby at_42) (by decide) (by decide)
      obtain ⟨b34, g34⟩ : ∃ z, z = h33.size := ⟨_, rfl⟩
      rw [← g34] at A34 D34 st34
      have gb_b34 : n0 ≤ b34 := Nat.le_trans Z0_33 (Nat.le_of_eq g34.symm)
      have Z0_34 : n0 ≤ h34.size := Nat.le_trans Z0_33 E34.1
      have ne_b31_b34 : b31 ≠ b34 := Nat.ne_of_lt (Nat.lt_of_lt_of_le V33_b31.lt (Nat.le_of_eq g34.symm))
      have ne_b33_b34 : b33 ≠ b34 := Nat.ne_of_lt (Nat.lt_of_lt_of_le A33.lt (Nat.le_of_eq g34.symm))
      have F34_b33_name := F33_b33_name.ext E34
      have F34_b33_rank := F33_b33_rank.ext E34
      have Ex34_b33 := A33.ext E34
      have V34_b31 := V33_b31.ext E34
      have Od34 := Od33.ext E34
      have F34_b34_coder : Fld Z h34 b34 "java/lang/String" "coder" "B" (.int (0 : Int32)) := D34 (Or.inr (hw _ (List.mem_of_getElem? (i := 31) rfl))) (ty := .byte) (by decide)
      have F34_b34_value : Fld Z h34 b34 "java/lang/String" "value" "[B" .null := D34 (Or.inr (hw _ (List.mem_of_getElem? (i := 33) rfl))) (ty := (.array .byte)) (by decide)
      refine own_st (V := T34.setTop (mkF m 45 #[.val (.int p1), .val (.int p2), .val (.int p3), .val (.int p4), .val (.int (p1 &&& (2147483647 : Int32))), .val (.int (p2 &&& (2147483647 : Int32))), .val (.ref b31), .unset, .unset, .unset, .unset, .unset, .unset, .unset] [(.ref b34), (.ref b33), (.ref b33)])) (fun t k => st34 _ k) ?_
      refine own_st (V := T34.setTop (mkF m 46 #[.val (.int p1), .val (.int p2), .val (.int p3), .val (.int p4), .val (.int (p1 &&& (2147483647 : Int32))), .val (.int (p2 &&& (2147483647 : Int32))), .val (.ref b31), .unset, .unset, .unset, .unset, .unset, .unset, .unset] [(.ref b34), (.ref b34), (.ref b33), (.ref b33)])) (fun t k => XS.dup X34.here hx rfl (hb hby at_45) rfl rfl k) ?_
      refine own_st (V := T34.setTop (mkF m 48 #[.val (.int p1), .val (.int p2), .val (.int p3), .val (.int p4), .val (.int (p1 &&& (2147483647 : Int32))), .val (.int (p2 &&& (2147483647 : Int32))), .val (.ref b31), .unset, .unset, .unset, .unset, .unset, .unset, .unset] [(.ref b31), (.ref b34), (.ref b34), (.ref b33), (.ref b33)])) (fun t k => XS.aload X34.here hx rfl (hb hby at_46) rfl rfl k) ?_
      obtain ⟨_, _, ⟨T35, L35, k35, n35⟩, -, X35, ⟨Lc35, hQ35, l35, y35, z35⟩, st35⟩ := X34.specialBack hx (y := (⟨"java/lang/String", "<init>", "([C)V"⟩ : MethodName)) rfl hown (mvT hZ (hw _ (List.mem_of_getElem? (i := 8) rfl))) (mvT hZ (hw _ (List.mem_of_getElem? (i := 9) rfl))) (mvT hZ (hw _ (List.mem_of_getElem? (i := 10) rfl))) (by decide) (backOf (W := 3) (own_s1_1 l Z a0 hw [] b34 b31 k31 cs (nar .char ((p3 &&& (255 : Int32)).toUInt32.toUInt16.toUInt32.toInt32)) h34 n0 Z0_34 Od34 SC hcs A34 gb_b34 F34_b34_value F34_b34_coder V34_b31 ne_b31_b34 (own_ch2 p3)) hZ (hw _ (List.mem_of_getElem? (i := 10) rfl)) (hw _ (List.mem_of_getElem? (i := 7) rfl)) (by decide) (by decide)) (g := (mkF m 48 #[.val (.int p1), .val (.int p2), .val (.int p3), .val (.int p4), .val (.int (p1 &&& (2147483647 : Int32))), .val (.int (p2 &&& (2147483647 : Int32))), .val (.ref b31), .unset, .unset, .unset, .unset, .unset, .unset, .unset] [(.ref b31), (.ref b34), (.ref b34), (.ref b33), (.ref b33)])) rfl (by rw [hml]; rfl) (Steps.refl _) (a := b34) (argsL := [(.ref b31)]) (rest := [(.ref b34), (.ref b33), (.ref b33)]) (lenOf own_pd7 rfl) rfl (by show 2 * 0 + _ ≤ _; exact Nat.le_of_eq rfl) (hb hby at_48) (fun _ _ => ⟨rfl, e34, (by decide : 3 + 1 ≤ _), (by decide : 7 + 1 ≤ _)⟩)
      dsimp only [Pt.U, Pt.locs, Pt.cells, Pt.slots] at X35 l35 y35 z35 st35 hQ35
      subst l35 y35 z35
      obtain ⟨rfl, N35q, K35, Ex35_q, t35, kbt35, vst35, szt35', Fq35_0, Vq35⟩ := hQ35
      have N35 := Fr.app N32 N35q
      have Z0_35 : n0 ≤ T35.heap.size := Nat.le_trans Z0_34 K35.1
      have ne_b33_t35 : b33 ≠ t35 := Nat.ne_of_lt (Nat.lt_of_lt_of_le Ex34_b33.lt szt35')
      have ne_b34_t35 : b34 ≠ t35 := Nat.ne_of_lt (Nat.lt_of_lt_of_le A34.lt szt35')
      have ne_b31_t35 : b31 ≠ t35 := Nat.ne_of_lt (Nat.lt_of_lt_of_le V34_b31.lt szt35')
      have F35_b33_name := F34_b33_name.keep K35 (ninS ne_b33_b34 nin0)
      have F35_b33_rank := F34_b33_rank.keep K35 (ninS ne_b33_b34 nin0)
      have Ex35_b33 := Ex34_b33.keep K35
      have Ex35_b34 := A34.keep K35
      have V35_b31 := V34_b31.keep K35 (ninS ne_b31_b34 nin0)
      have Od35 := Od34.keep K35 (allS gb_b34 all0)
      refine own_st (V := T35.setTop (mkF m 51 #[.val (.int p1), .val (.int p2), .val (.int p3), .val (.int p4), .val (.int (p1 &&& (2147483647 : Int32))), .val (.int (p2 &&& (2147483647 : Int32))), .val (.ref b31), .unset, .unset, .unset, .unset, .unset, .unset, .unset] [(.ref b34), (.ref b33), (.ref b33)])) (fun t k => st35.trans k) ?_
      refine own_st (V := T35.setTop (mkF m 53 #[.val (.int p1), .val (.int p2), .val (.int p3), .val (.int p4), .val (.int (p1 &&& (2147483647 : Int32))), .val (.int (p2 &&& (2147483647 : Int32))), .val (.ref b31), .unset, .unset, .unset, .unset, .unset, .unset, .unset] [(.int (p1 &&& (2147483647 : Int32))), (.ref b34), (.ref b33), (.ref b33)])) (fun t k => XS.iload X35.here hx rfl (hb hby at_51) rfl k) ?_
      obtain ⟨_, _, ⟨T36, L36, k36, n36⟩, -, X36, ⟨Lc36, hQ36, l36, y36, z36⟩, st36⟩ := X35.specialBack hx (y := (⟨"com/example/trust_grade/trustgrade/network/Level", "<init>", "(Ljava/lang/String;I)V"⟩ : MethodName)) rfl hown (mvT hZ (hw _ (List.mem_of_getElem? (i := 34) rfl))) (mvT hZ (hw _ (List.mem_of_getElem? (i := 35) rfl))) (mvT hZ (hw _ (List.mem_of_getElem? (i := 36) rfl))) (by decide) (backOf (W := 1) (own_li l Z a0 hw [] b33 b34 (p1 &&& (2147483647 : Int32)) T35.heap n0 Z0_35 F35_b33_name F35_b33_rank Ex35_b33 gb_b33) hZ (hw _ (List.mem_of_getElem? (i := 36) rfl)) (hw _ (List.mem_of_getElem? (i := 4) rfl)) (by decide) (by decide)) (g := (mkF m 53 #[.val (.int p1), .val (.int p2), .val (.int p3), .val (.int p4), .val (.int (p1 &&& (2147483647 : Int32))), .val (.int (p2 &&& (2147483647 : Int32))), .val (.ref b31), .unset, .unset, .unset, .unset, .unset, .unset, .unset] [(.int (p1 &&& (2147483647 : Int32))), (.ref b34), (.ref b33), (.ref b33)])) rfl (by rw [hml]; rfl) (Steps.refl _) (a := b33) (argsL := [(.ref b34), (.int (p1 &&& (2147483647 : Int32)))]) (rest := [(.ref b33)]) (lenOf own_pd8 rfl) rfl (by show 2 * 0 + _ ≤ _; exact Nat.le_of_eq rfl) (hb hby at_53) (fun _ _ => ⟨rfl, rfl, (by decide : 4 + 0 ≤ _), (by decide : 8 + 0 ≤ _)⟩)
      dsimp only [Pt.U, Pt.locs, Pt.cells, Pt.slots] at X36 l36 y36 z36 st36 hQ36
      subst l36 y36 z36
      obtain ⟨rfl, N36q, K36, Ex36_q, Fq36_0⟩ := hQ36
      have N36 := Fr.app N35 N36q
      have Z0_36 : n0 ≤ T36.heap.size := Nat.le_trans Z0_35 K36.1
      have F36_b34_value := Fq35_0.keep K36 (ninS (Ne.symm ne_b33_b34) nin0)
      have Ex36_b33 := Ex35_b33.keep K36
      have Ex36_b34 := Ex35_q.keep K36
      have V36_b31 := V35_b31.keep K36 (ninS ne_b31_b33 nin0)
      have V36_t35 := Vq35.keep K36 (ninS (Ne.symm ne_b33_t35) nin0)
      have Od36 := Od35.keep K36 (allS gb_b33 all0)
      refine own_st (V := T36.setTop (mkF m 56 #[.val (.int p1), .val (.int p2), .val (.int p3), .val (.int p4), .val (.int (p1 &&& (2147483647 : Int32))), .val (.int (p2 &&& (2147483647 : Int32))), .val (.ref b31), .unset, .unset, .unset, .unset, .unset, .unset, .unset] [(.ref b33)])) (fun t k => st36.trans k) ?_
      refine own_st (V := T36.setTop (mkF m 58 #[.val (.int p1), .val (.int p2), .val (.int p3), .val (.int p4), .val (.int (p1 &&& (2147483647 : Int32))), .val (.int (p2 &&& (2147483647 : Int32))), .val (.ref b31), .val (.ref b33), .unset, .unset, .unset, .unset, .unset, .unset] [])) (fun t k => XS.astore X36.here hx rfl (hb hby at_56) rfl rfl (l' := #[.val (.int p1), .val (.int p2), .val (.int p3), .val (.int p4), .val (.int (p1 &&& (2147483647 : Int32))), .val (.int (p2 &&& (2147483647 : Int32))), .val (.ref b31), .val (.ref b33), .unset, .unset, .unset, .unset, .unset, .unset]) rfl k) ?_
      obtain ⟨T37, h37, X37, e37, E37, A37, D37, -, st37⟩ := newO X36 hx hZ hown (hw _ (List.mem_of_getElem? (i := 2) rfl)) (hw _ (List.mem_of_getElem? (i := 3) rfl)) (hw _ (List.mem_of_getElem? (i := 4) rfl)) rfl (g := (mkF m 58 #[.val (.int p1), .val (.int p2), .val (.int p3), .val (.int p4), .val (.int (p1 &&& (2147483647 : Int32))), .val (.int (p2 &&& (2147483647 : Int32))), .val (.ref b31), .val (.ref b33), .unset, .unset, .unset, .unset, .unset, .unset] [])) rfl (hb hby at_58) (by decide) (by decide)
      obtain ⟨b37, g37⟩ : ∃ z, z = T36.heap.size := ⟨_, rfl⟩
      rw [← g37] at A37 D37 st37
      have gb_b37 : n0 ≤ b37 := Nat.le_trans Z0_36 (Nat.le_of_eq g37.symm)
      have Z0_37 : n0 ≤ h37.size := Nat.le_trans Z0_36 E37.1
      have ne_b31_b37 : b31 ≠ b37 := Nat.ne_of_lt (Nat.lt_of_lt_of_le V36_b31.lt (Nat.le_of_eq g37.symm))
      have ne_t35_b37 : t35 ≠ b37 := Nat.ne_of_lt (Nat.lt_of_lt_of_le V36_t35.lt (Nat.le_of_eq g37.symm))
      have ne_b33_b37 : b33 ≠ b37 := Nat.ne_of_lt (Nat.lt_of_lt_of_le Ex36_q.lt (Nat.le_of_eq g37.symm))
      have ne_b34_b37 : b34 ≠ b37 := Nat.ne_of_lt (Nat.lt_of_lt_of_le Ex36_b34.lt (Nat.le_of_eq g37.symm))
      have F37_b34_value := F36_b34_value.ext E37
      have F37_b33_rank := Fq36_0.ext E37
      have Ex37_b33 := Ex36_q.ext E37
      have Ex37_b34 := Ex36_b34.ext E37
      have V37_b31 := V36_b31.ext E37
      have V37_t35 := V36_t35.ext E37
      have Od37 := Od36.ext E37
      have F37_b37_name : Fld Z h37 b37 "com/example/trust_grade/trustgrade/network/Level" "name" "Ljava/lang/String;" .null := D37 (Or.inr (hw _ (List.mem_of_getElem? (i := 39) rfl))) (ty := (.object "java/lang/String")) (by decide)
      have F37_b37_rank : Fld Z h37 b37 "com/example/trust_grade/trustgrade/network/Level" "rank" "I" (.int (0 : Int32)) := D37 (Or.inr (hw _ (List.mem_of_getElem? (i := 41) rfl))) (ty := .int) (by decide)
      refine own_st (V := T37.setTop (mkF m 61 #[.val (.int p1), .val (.int p2), .val (.int p3), .val (.int p4), .val (.int (p1 &&& (2147483647 : Int32))), .val (.int (p2 &&& (2147483647 : Int32))), .val (.ref b31), .val (.ref b33), .unset, .unset, .unset, .unset, .unset, .unset] [(.ref b37)])) (fun t k => st37 _ k) ?_
      refine own_st (V := T37.setTop (mkF m 62 #[.val (.int p1), .val (.int p2), .val (.int p3), .val (.int p4), .val (.int (p1 &&& (2147483647 : Int32))), .val (.int (p2 &&& (2147483647 : Int32))), .val (.ref b31), .val (.ref b33), .unset, .unset, .unset, .unset, .unset, .unset] [(.ref b37), (.ref b37)])) (fun t k => XS.dup X37.here hx rfl (hb hby at_61) rfl rfl k) ?_
      refine own_st (V := T37.setTop (mkF m 63 #[.val (.int p1), .val (.int p2), .val (.int p3), .val (.int p4), .val (.int (p1 &&& (2147483647 : Int32))), .val (.int (p2 &&& (2147483647 : Int32))), .val (.ref b31), .val (.ref b33), .unset, .unset, .unset, .unset, .unset, .unset] [(.int p4), (.ref b37), (.ref b37)])) (fun t k => XS.iloadN X37.here hx rfl (hb hby at_62) rfl k) ?_
      refine own_st (V := T37.setTop (mkF m 66 #[.val (.int p1), .val (.int p2), .val (.int p3), .val (.int p4), .val (.int (p1 &&& (2147483647 : Int32))), .val (.int (p2 &&& (2147483647 : Int32))), .val (.ref b31), .val (.ref b33), .unset, .unset, .unset, .unset, .unset, .unset] [(.int (255 : Int32)), (.int p4), (.ref b37), (.ref b37)])) (fun t k => XS.sipush X37.here hx rfl (hb hby at_63) k) ?_
      refine own_st (V := T37.setTop (mkF m 67 #[.val (.int p1), .val (.int p2), .val (.int p3), .val (.int p4), .val (.int (p1 &&& (2147483647 : Int32))), .val (.int (p2 &&& (2147483647 : Int32))), .val (.ref b31), .val (.ref b33), .unset, .unset, .unset, .unset, .unset, .unset] [(.int (p4 &&& (255 : Int32))), (.ref b37), (.ref b37)])) (fun t k => XS.iand X37.here hx rfl (hb hby at_66) rfl k) ?_
      refine own_st (V := T37.setTop (mkF m 68 #[.val (.int p1), .val (.int p2), .val (.int p3), .val (.int p4), .val (.int (p1 &&& (2147483647 : Int32))), .val (.int (p2 &&& (2147483647 : Int32))), .val (.ref b31), .val (.ref b33), .unset, .unset, .unset, .unset, .unset, .unset] [(.int ((p4 &&& (255 : Int32)).toUInt32.toUInt16.toUInt32.toInt32)), (.ref b37), (.ref b37)])) (fun t k => XS.i2c X37.here hx rfl (hb hby at_67) rfl k) ?_
      obtain ⟨_, _, ⟨T38, L38, k38, n38⟩, -, X38, ⟨Lc38, hQ38, l38, y38, z38⟩, st38⟩ := Jvm.LawKit.callS X37 hx (y := (⟨"java/lang/String", "valueOf", "(C)Ljava/lang/String;"⟩ : MethodName)) hown (mvT hZ (hw _ (List.mem_of_getElem? (i := 42) rfl))) (mvT hZ (hw _ (List.mem_of_getElem? (i := 43) rfl))) (mvT hZ (hw _ (List.mem_of_getElem? (i := 7) rfl))) (mvT hZ (hw _ (List.mem_of_getElem? (i := 44) rfl))) (by decide) (backOf (W := 2) (own_sv l Z a0 hw [] ((p4 &&& (255 : Int32)).toUInt32.toUInt16.toUInt32.toInt32) cs h37 n0 Z0_37 Od37 SC hcs (own_ch p4)) hZ (hw _ (List.mem_of_getElem? (i := 44) rfl)) (hw _ (List.mem_of_getElem? (i := 7) rfl)) (by decide) (by decide)) (g := (mkF m 68 #[.val (.int p1), .val (.int p2), .val (.int p3), .val (.int p4), .val (.int (p1 &&& (2147483647 : Int32))), .val (.int (p2 &&& (2147483647 : Int32))), .val (.ref b31), .val (.ref b33), .unset, .unset, .unset, .unset, .unset, .unset] [(.int ((p4 &&& (255 : Int32)).toUInt32.toUInt16.toUInt32.toInt32)), (.ref b37), (.ref b37)])) rfl (by rw [hml]; rfl) (argsL := [(.int ((p4 &&& (255 : Int32)).toUInt32.toUInt16.toUInt32.toInt32))]) (rest := [(.ref b37), (.ref b37)]) (lenOf own_pd9 rfl) rfl (by show 2 * 0 + _ ≤ _; exact Nat.le_of_eq rfl) (hb hby at_68) (fun _ _ => ⟨rfl, e37, (by decide : 5 + 2 ≤ _), (by decide : 10 + 5 ≤ _)⟩)
      dsimp only [Pt.U, Pt.locs, Pt.cells, Pt.slots] at X38 l38 y38 z38 st38 hQ38
      subst l38 y38 z38
      obtain ⟨t38, rfl, N38q, K38⟩ := hQ38
      have N38 := Fr.app N36 N38q
      have Z0_38 : n0 ≤ T38.heap.size := Nat.le_trans Z0_37 K38.1
      have F38_b34_value := F37_b34_value.keep K38 nin0
      have F38_b33_rank := F37_b33_rank.keep K38 nin0
      have F38_b37_name := F37_b37_name.keep K38 nin0
      have F38_b37_rank := F37_b37_rank.keep K38 nin0
      have Ex38_b33 := Ex37_b33.keep K38
      have Ex38_b34 := Ex37_b34.keep K38
      have Ex38_b37 := A37.keep K38
      have V38_b31 := V37_b31.keep K38 nin0
      have V38_t35 := V37_t35.keep K38 nin0
      have Od38 := Od37.keep K38 all0
      refine own_st (V := T38.setTop (mkF m 71 #[.val (.int p1), .val (.int p2), .val (.int p3), .val (.int p4), .val (.int (p1 &&& (2147483647 : Int32))), .val (.int (p2 &&& (2147483647 : Int32))), .val (.ref b31), .val (.ref b33), .unset, .unset, .unset, .unset, .unset, .unset] [(.ref t38), (.ref b37), (.ref b37)])) (fun t k => st38 _ k) ?_
      refine own_st (V := T38.setTop (mkF m 73 #[.val (.int p1), .val (.int p2), .val (.int p3), .val (.int p4), .val (.int (p1 &&& (2147483647 : Int32))), .val (.int (p2 &&& (2147483647 : Int32))), .val (.ref b31), .val (.ref b33), .unset, .unset, .unset, .unset, .unset, .unset] [(.int (p2 &&& (2147483647 : Int32))), (.ref t38), (.ref b37), (.ref b37)])) (fun t k => XS.iload X38.here hx rfl (hb hby at_71) rfl k) ?_
      obtain ⟨_, _, ⟨T39, L39, k39, n39⟩, -, X39, ⟨Lc39, hQ39, l39, y39, z39⟩, st39⟩ := X38.specialBack hx (y := (⟨"com/example/trust_grade/trustgrade/network/Level", "<init>", "(Ljava/lang/String;I)V"⟩ : MethodName)) rfl hown (mvT hZ (hw _ (List.mem_of_getElem? (i := 34) rfl))) (mvT hZ (hw _ (List.mem_of_getElem? (i := 35) rfl))) (mvT hZ (hw _ (List.mem_of_getElem? (i := 36) rfl))) (by decide) (backOf (W := 1) (own_li l Z a0 hw [] b37 t38 (p2 &&& (2147483647 : Int32)) T38.heap n0 Z0_38 F38_b37_name F38_b37_rank Ex38_b37 gb_b37) hZ (hw _ (List.mem_of_getElem? (i := 36) rfl)) (hw _ (List.mem_of_getElem? (i := 4) rfl)) (by decide) (by decide)) (g := (mkF m 73 #[.val (.int p1), .val (.int p2), .val (.int p3), .val (.int p4), .val (.int (p1 &&& (2147483647 : Int32))), .val (.int (p2 &&& (2147483647 : Int32))), .val (.ref b31), .val (.ref b33), .unset, .unset, .unset, .unset, .unset, .unset] [(.int (p2 &&& (2147483647 : Int32))), (.ref t38), (.ref b37), (.ref b37)])) rfl (by rw [hml]; rfl) (Steps.refl _) (a := b37) (argsL := [(.ref t38), (.int (p2 &&& (2147483647 : Int32)))]) (rest := [(.ref b37)]) (lenOf own_pd8 rfl) rfl (by show 2 * 0 + _ ≤ _; exact Nat.le_of_eq rfl) (hb hby at_73) (fun _ _ => ⟨rfl, rfl, (by decide : 7 + 0 ≤ _), (by decide : 15 + 0 ≤ _)⟩)
      dsimp only [Pt.U, Pt.locs, Pt.cells, Pt.slots] at X39 l39 y39 z39 st39 hQ39
      subst l39 y39 z39
      obtain ⟨rfl, N39q, K39, Ex39_q, Fq39_0⟩ := hQ39
      have N39 := Fr.app N38 N39q
      have Z0_39 : n0 ≤ T39.heap.size := Nat.le_trans Z0_38 K39.1
      have F39_b34_value := F38_b34_value.keep K39 (ninS ne_b34_b37 nin0)
      have F39_b33_rank := F38_b33_rank.keep K39 (ninS ne_b33_b37 nin0)
      have Ex39_b33 := Ex38_b33.keep K39
      have Ex39_b34 := Ex38_b34.keep K39
      have Ex39_b37 := Ex38_b37.keep K39
      have V39_b31 := V38_b31.keep K39 (ninS ne_b31_b37 nin0)
      have V39_t35 := V38_t35.keep K39 (ninS ne_t35_b37 nin0)
      have Od39 := Od38.keep K39 (allS gb_b37 all0)
      refine own_st (V := T39.setTop (mkF m 76 #[.val (.int p1), .val (.int p2), .val (.int p3), .val (.int p4), .val (.int (p1 &&& (2147483647 : Int32))), .val (.int (p2 &&& (2147483647 : Int32))), .val (.ref b31), .val (.ref b33), .unset, .unset, .unset, .unset, .unset, .unset] [(.ref b37)])) (fun t k => st39.trans k) ?_
      refine own_st (V := T39.setTop (mkF m 78 #[.val (.int p1), .val (.int p2), .val (.int p3), .val (.int p4), .val (.int (p1 &&& (2147483647 : Int32))), .val (.int (p2 &&& (2147483647 : Int32))), .val (.ref b31), .val (.ref b33), .val (.ref b37), .unset, .unset, .unset, .unset, .unset] [])) (fun t k => XS.astore X39.here hx rfl (hb hby at_76) rfl rfl (l' := #[.val (.int p1), .val (.int p2), .val (.int p3), .val (.int p4), .val (.int (p1 &&& (2147483647 : Int32))), .val (.int (p2 &&& (2147483647 : Int32))), .val (.ref b31), .val (.ref b33), .val (.ref b37), .unset, .unset, .unset, .unset, .unset]) rfl k) ?_
      refine own_st (V := T39.setTop (mkF m 80 #[.val (.int p1), .val (.int p2), .val (.int p3), .val (.int p4), .val (.int (p1 &&& (2147483647 : Int32))), .val (.int (p2 &&& (2147483647 : Int32))), .val (.ref b31), .val (.ref b33), .val (.ref b37), .unset, .unset, .unset, .unset, .unset] [(.int (p1 &&& (2147483647 : Int32)))])) (fun t k => XS.iload X39.here hx rfl (hb hby at_78) rfl k) ?_
      refine own_st (V := T39.setTop (mkF m 81 #[.val (.int p1), .val (.int p2), .val (.int p3), .val (.int p4), .val (.int (p1 &&& (2147483647 : Int32))), .val (.int (p2 &&& (2147483647 : Int32))), .val (.ref b31), .val (.ref b33), .val (.ref b37), .unset, .unset, .unset, .unset, .unset] [(.long ((p1 &&& (2147483647 : Int32)).toInt64))])) (fun t k => XS.i2l X39.here hx rfl (hb hby at_80) rfl k) ?_
      refine own_st (V := T39.setTop (mkF m 83 #[.val (.int p1), .val (.int p2), .val (.int p3), .val (.int p4), .val (.int (p1 &&& (2147483647 : Int32))), .val (.int (p2 &&& (2147483647 : Int32))), .val (.ref b31), .val (.ref b33), .val (.ref b37), .unset, .unset, .unset, .unset, .unset] [(.int (p2 &&& (2147483647 : Int32))), (.long ((p1 &&& (2147483647 : Int32)).toInt64))])) (fun t k => XS.iload X39.here hx rfl (hb hby at_81) rfl k) ?_
      refine own_st (V := T39.setTop (mkF m 84 #[.val (.int p1), .val (.int p2), .val (.int p3), .val (.int p4), .val (.int (p1 &&& (2147483647 : Int32))), .val (.int (p2 &&& (2147483647 : Int32))), .val (.ref b31), .val (.ref b33), .val (.ref b37), .unset, .unset, .unset, .unset, .unset] [(.long ((p2 &&& (2147483647 : Int32)).toInt64)), (.long ((p1 &&& (2147483647 : Int32)).toInt64))])) (fun t k => XS.i2l X39.here hx rfl (hb hby at_83) rfl k) ?_
      refine own_st (V := T39.setTop (mkF m 85 #[.val (.int p1), .val (.int p2), .val (.int p3), .val (.int p4), .val (.int (p1 &&& (2147483647 : Int32))), .val (.int (p2 &&& (2147483647 : Int32))), .val (.ref b31), .val (.ref b33), .val (.ref b37), .unset, .unset, .unset, .unset, .unset] [(.long (((p1 &&& (2147483647 : Int32)).toInt64) - ((p2 &&& (2147483647 : Int32)).toInt64)))])) (fun t k => XS.lsub X39.here hx rfl (hb hby at_84) rfl k) ?_
      refine own_st (V := T39.setTop (mkF m 87 #[.val (.int p1), .val (.int p2), .val (.int p3), .val (.int p4), .val (.int (p1 &&& (2147483647 : Int32))), .val (.int (p2 &&& (2147483647 : Int32))), .val (.ref b31), .val (.ref b33), .val (.ref b37), .val (.long (((p1 &&& (2147483647 : Int32)).toInt64) - ((p2 &&& (2147483647 : Int32)).toInt64))), .second, .unset, .unset, .unset] [])) (fun t k => XS.lstore X39.here hx rfl (hb hby at_85) rfl (l' := #[.val (.int p1), .val (.int p2), .val (.int p3), .val (.int p4), .val (.int (p1 &&& (2147483647 : Int32))), .val (.int (p2 &&& (2147483647 : Int32))), .val (.ref b31), .val (.ref b33), .val (.ref b37), .val (.long (((p1 &&& (2147483647 : Int32)).toInt64) - ((p2 &&& (2147483647 : Int32)).toInt64))), .second, .unset, .unset, .unset]) rfl k) ?_
      refine own_st (V := T39.setTop (mkF m 89 #[.val (.int p1), .val (.int p2), .val (.int p3), .val (.int p4), .val (.int (p1 &&& (2147483647 : Int32))), .val (.int (p2 &&& (2147483647 : Int32))), .val (.ref b31), .val (.ref b33), .val (.ref b37), .val (.long (((p1 &&& (2147483647 : Int32)).toInt64) - ((p2 &&& (2147483647 : Int32)).toInt64))), .second, .unset, .unset, .unset] [(.ref b33)])) (fun t k => XS.aload X39.here hx rfl (hb hby at_87) rfl rfl k) ?_
      refine own_st (V := T39.setTop (mkF m 91 #[.val (.int p1), .val (.int p2), .val (.int p3), .val (.int p4), .val (.int (p1 &&& (2147483647 : Int32))), .val (.int (p2 &&& (2147483647 : Int32))), .val (.ref b31), .val (.ref b33), .val (.ref b37), .val (.long (((p1 &&& (2147483647 : Int32)).toInt64) - ((p2 &&& (2147483647 : Int32)).toInt64))), .second, .unset, .unset, .unset] [(.ref b37), (.ref b33)])) (fun t k => XS.aload X39.here hx rfl (hb hby at_89) rfl rfl k) ?_
      obtain ⟨cq40, kq40, q40a, q40b, q40c⟩ := isOf hZ rfl Ex39_b33
      obtain ⟨_, _, ⟨T40, L40, k40, n40⟩, -, X40, ⟨Lc40, hQ40, l40, y40, z40⟩, st40⟩ := X39.virtualBack hx (y := (⟨"com/example/trust_grade/trustgrade/network/Level", "isAbove", "(Lcom/example/trust_grade/trustgrade/network/Level;)Z"⟩ : MethodName)) (z := (⟨"com/example/trust_grade/trustgrade/network/Level", "isAbove", "(Lcom/example/trust_grade/trustgrade/network/Level;)Z"⟩ : MethodName)) hown (mvT hZ (hw _ (List.mem_of_getElem? (i := 56) rfl))) (mvT hZ (hw _ (List.mem_of_getElem? (i := 57) rfl))) (notFace_of_selects (args := #[]) (mvT hZ (hw _ (List.mem_of_getElem? (i := 59) rfl)))) (mvT hZ (hw _ (List.mem_of_getElem? (i := 59) rfl))) (mvT hZ (hw _ (List.mem_of_getElem? (i := 58) rfl))) (by decide) (backOf (W := 0) (own_ab1 l Z a0 hw [] b33 b37 (p1 &&& (2147483647 : Int32)) (p2 &&& (2147483647 : Int32)) T39.heap n0 Z0_39 F39_b33_rank Fq39_0 hg) hZ (hw _ (List.mem_of_getElem? (i := 60) rfl)) (hw _ (List.mem_of_getElem? (i := 4) rfl)) (by decide) (by decide)) q40a q40c (g := (mkF m 91 #[.val (.int p1), .val (.int p2), .val (.int p3), .val (.int p4), .val (.int (p1 &&& (2147483647 : Int32))), .val (.int (p2 &&& (2147483647 : Int32))), .val (.ref b31), .val (.ref b33), .val (.ref b37), .val (.long (((p1 &&& (2147483647 : Int32)).toInt64) - ((p2 &&& (2147483647 : Int32)).toInt64))), .second, .unset, .unset, .unset] [(.ref b37), (.ref b33)])) rfl (by rw [hml]; rfl) (Steps.refl _) (argsL := [(.ref b37)]) (rest := []) (lenOf own_pd10 rfl) rfl (by show 2 * 0 + _ ≤ _; exact Nat.le_of_eq rfl) (hb hby at_91) (fun _ _ => ⟨rfl, rfl, (by decide : 7 + 0 ≤ _), (by decide : 15 + 0 ≤ _)⟩)
      dsimp only [Pt.U, Pt.locs, Pt.cells, Pt.slots] at X40 l40 y40 z40 st40 hQ40
      subst l40 y40 z40
      obtain ⟨rfl, N40q, e40⟩ := hQ40
      have N40 := Fr.app N39 N40q
      refine own_st (V := T40.setTop (mkF m 94 #[.val (.int p1), .val (.int p2), .val (.int p3), .val (.int p4), .val (.int (p1 &&& (2147483647 : Int32))), .val (.int (p2 &&& (2147483647 : Int32))), .val (.ref b31), .val (.ref b33), .val (.ref b37), .val (.long (((p1 &&& (2147483647 : Int32)).toInt64) - ((p2 &&& (2147483647 : Int32)).toInt64))), .second, .unset, .unset, .unset] [(.int (1 : Int32))])) (fun t k => st40.trans k) ?_
      refine own_st (V := T40.setTop (mkF m 96 #[.val (.int p1), .val (.int p2), .val (.int p3), .val (.int p4), .val (.int (p1 &&& (2147483647 : Int32))), .val (.int (p2 &&& (2147483647 : Int32))), .val (.ref b31), .val (.ref b33), .val (.ref b37), .val (.long (((p1 &&& (2147483647 : Int32)).toInt64) - ((p2 &&& (2147483647 : Int32)).toInt64))), .second, .val (.int (1 : Int32)), .unset, .unset] [])) (fun t k => XS.istore X40.here hx rfl (hb hby at_94) rfl (l' := #[.val (.int p1), .val (.int p2), .val (.int p3), .val (.int p4), .val (.int (p1 &&& (2147483647 : Int32))), .val (.int (p2 &&& (2147483647 : Int32))), .val (.ref b31), .val (.ref b33), .val (.ref b37), .val (.long (((p1 &&& (2147483647 : Int32)).toInt64) - ((p2 &&& (2147483647 : Int32)).toInt64))), .second, .val (.int (1 : Int32)), .unset, .unset]) rfl k) ?_
      refine own_st (V := T40.setTop (mkF m 98 #[.val (.int p1), .val (.int p2), .val (.int p3), .val (.int p4), .val (.int (p1 &&& (2147483647 : Int32))), .val (.int (p2 &&& (2147483647 : Int32))), .val (.ref b31), .val (.ref b33), .val (.ref b37), .val (.long (((p1 &&& (2147483647 : Int32)).toInt64) - ((p2 &&& (2147483647 : Int32)).toInt64))), .second, .val (.int (1 : Int32)), .unset, .unset] [(.ref b37)])) (fun t k => XS.aload X40.here hx rfl (hb hby at_96) rfl rfl k) ?_
      refine own_st (V := T40.setTop (mkF m 100 #[.val (.int p1), .val (.int p2), .val (.int p3), .val (.int p4), .val (.int (p1 &&& (2147483647 : Int32))), .val (.int (p2 &&& (2147483647 : Int32))), .val (.ref b31), .val (.ref b33), .val (.ref b37), .val (.long (((p1 &&& (2147483647 : Int32)).toInt64) - ((p2 &&& (2147483647 : Int32)).toInt64))), .second, .val (.int (1 : Int32)), .unset, .unset] [(.ref b33), (.ref b37)])) (fun t k => XS.aload X40.here hx rfl (hb hby at_98) rfl rfl k) ?_
      obtain ⟨cq41, kq41, q41a, q41b, q41c⟩ := isOf hZ e40 Ex39_q
      obtain ⟨_, _, ⟨T41, L41, k41, n41⟩, -, X41, ⟨Lc41, hQ41, l41, y41, z41⟩, st41⟩ := X40.virtualBack hx (y := (⟨"com/example/trust_grade/trustgrade/network/Level", "isAbove", "(Lcom/example/trust_grade/trustgrade/network/Level;)Z"⟩ : MethodName)) (z := (⟨"com/example/trust_grade/trustgrade/network/Level", "isAbove", "(Lcom/example/trust_grade/trustgrade/network/Level;)Z"⟩ : MethodName)) hown (mvT hZ (hw _ (List.mem_of_getElem? (i := 56) rfl))) (mvT hZ (hw _ (List.mem_of_getElem? (i := 57) rfl))) (notFace_of_selects (args := #[]) (mvT hZ (hw _ (List.mem_of_getElem? (i := 59) rfl)))) (mvT hZ (hw _ (List.mem_of_getElem? (i := 59) rfl))) (mvT hZ (hw _ (List.mem_of_getElem? (i := 58) rfl))) (by decide) (backOf (W := 0) (own_ab0 l Z a0 hw [] b37 b33 (p2 &&& (2147483647 : Int32)) (p1 &&& (2147483647 : Int32)) T39.heap n0 Z0_39 Fq39_0 F39_b33_rank hl) hZ (hw _ (List.mem_of_getElem? (i := 60) rfl)) (hw _ (List.mem_of_getElem? (i := 4) rfl)) (by decide) (by decide)) q41a q41c (g := (mkF m 100 #[.val (.int p1), .val (.int p2), .val (.int p3), .val (.int p4), .val (.int (p1 &&& (2147483647 : Int32))), .val (.int (p2 &&& (2147483647 : Int32))), .val (.ref b31), .val (.ref b33), .val (.ref b37), .val (.long (((p1 &&& (2147483647 : Int32)).toInt64) - ((p2 &&& (2147483647 : Int32)).toInt64))), .second, .val (.int (1 : Int32)), .unset, .unset] [(.ref b33), (.ref b37)])) rfl (by rw [hml]; rfl) (Steps.refl _) (argsL := [(.ref b33)]) (rest := []) (lenOf own_pd10 rfl) rfl (by show 2 * 0 + _ ≤ _; exact Nat.le_of_eq rfl) (hb hby at_100) (fun _ _ => ⟨rfl, e40, (by decide : 7 + 0 ≤ _), (by decide : 15 + 0 ≤ _)⟩)
      dsimp only [Pt.U, Pt.locs, Pt.cells, Pt.slots] at X41 l41 y41 z41 st41 hQ41
      subst l41 y41 z41
      obtain ⟨rfl, N41q, e41⟩ := hQ41
      have N41 := Fr.app N40 N41q
      refine own_st (V := T41.setTop (mkF m 103 #[.val (.int p1), .val (.int p2), .val (.int p3), .val (.int p4), .val (.int (p1 &&& (2147483647 : Int32))), .val (.int (p2 &&& (2147483647 : Int32))), .val (.ref b31), .val (.ref b33), .val (.ref b37), .val (.long (((p1 &&& (2147483647 : Int32)).toInt64) - ((p2 &&& (2147483647 : Int32)).toInt64))), .second, .val (.int (1 : Int32)), .unset, .unset] [(.int (0 : Int32))])) (fun t k => st41.trans k) ?_
      refine own_st (V := T41.setTop (mkF m 105 #[.val (.int p1), .val (.int p2), .val (.int p3), .val (.int p4), .val (.int (p1 &&& (2147483647 : Int32))), .val (.int (p2 &&& (2147483647 : Int32))), .val (.ref b31), .val (.ref b33), .val (.ref b37), .val (.long (((p1 &&& (2147483647 : Int32)).toInt64) - ((p2 &&& (2147483647 : Int32)).toInt64))), .second, .val (.int (1 : Int32)), .val (.int (0 : Int32)), .unset] [])) (fun t k => XS.istore X41.here hx rfl (hb hby at_103) rfl (l' := #[.val (.int p1), .val (.int p2), .val (.int p3), .val (.int p4), .val (.int (p1 &&& (2147483647 : Int32))), .val (.int (p2 &&& (2147483647 : Int32))), .val (.ref b31), .val (.ref b33), .val (.ref b37), .val (.long (((p1 &&& (2147483647 : Int32)).toInt64) - ((p2 &&& (2147483647 : Int32)).toInt64))), .second, .val (.int (1 : Int32)), .val (.int (0 : Int32)), .unset]) rfl k) ?_
      refine own_st (V := T41.setTop (mkF m 107 #[.val (.int p1), .val (.int p2), .val (.int p3), .val (.int p4), .val (.int (p1 &&& (2147483647 : Int32))), .val (.int (p2 &&& (2147483647 : Int32))), .val (.ref b31), .val (.ref b33), .val (.ref b37), .val (.long (((p1 &&& (2147483647 : Int32)).toInt64) - ((p2 &&& (2147483647 : Int32)).toInt64))), .second, .val (.int (1 : Int32)), .val (.int (0 : Int32)), .unset] [(.ref b33)])) (fun t k => XS.aload X41.here hx rfl (hb hby at_105) rfl rfl k) ?_
      refine own_st (V := T41.setTop (mkF m 109 #[.val (.int p1), .val (.int p2), .val (.int p3), .val (.int p4), .val (.int (p1 &&& (2147483647 : Int32))), .val (.int (p2 &&& (2147483647 : Int32))), .val (.ref b31), .val (.ref b33), .val (.ref b37), .val (.long (((p1 &&& (2147483647 : Int32)).toInt64) - ((p2 &&& (2147483647 : Int32)).toInt64))), .second, .val (.int (1 : Int32)), .val (.int (0 : Int32)), .unset] [(.ref b33), (.ref b33)])) (fun t k => XS.aload X41.here hx rfl (hb hby at_107) rfl rfl k) ?_
      obtain ⟨cq42, kq42, q42a, q42b, q42c⟩ := isOf hZ e41 Ex39_b33
      obtain ⟨_, _, ⟨T42, L42, k42, n42⟩, -, X42, ⟨Lc42, hQ42, l42, y42, z42⟩, st42⟩ := X41.virtualBack hx (y := (⟨"com/example/trust_grade/trustgrade/network/Level", "isAbove", "(Lcom/example/trust_grade/trustgrade/network/Level;)Z"⟩ : MethodName)) (z := (⟨"com/example/trust_grade/trustgrade/network/Level", "isAbove", "(Lcom/example/trust_grade/trustgrade/network/Level;)Z"⟩ : MethodName)) hown (mvT hZ (hw _ (List.mem_of_getElem? (i := 56) rfl))) (mvT hZ (hw _ (List.mem_of_getElem? (i := 57) rfl))) (notFace_of_selects (args := #[]) (mvT hZ (hw _ (List.mem_of_getElem? (i := 59) rfl)))) (mvT hZ (hw _ (List.mem_of_getElem? (i := 59) rfl))) (mvT hZ (hw _ (List.mem_of_getElem? (i := 58) rfl))) (by decide) (backOf (W := 0) (own_ab0 l Z a0 hw [] b33 b33 (p1 &&& (2147483647 : Int32)) (p1 &&& (2147483647 : Int32)) T39.heap n0 Z0_39 F39_b33_rank F39_b33_rank (own_irr _)) hZ (hw _ (List.mem_of_getElem? (i := 60) rfl)) (hw _ (List.mem_of_getElem? (i := 4) rfl)) (by decide) (by decide)) q42a q42c (g := (mkF m 109 #[.val (.int p1), .val (.int p2), .val (.int p3), .val (.int p4), .val (.int (p1 &&& (2147483647 : Int32))), .val (.int (p2 &&& (2147483647 : Int32))), .val (.ref b31), .val (.ref b33), .val (.ref b37), .val (.long (((p1 &&& (2147483647 : Int32)).toInt64) - ((p2 &&& (2147483647 : Int32)).toInt64))), .second, .val (.int (1 : Int32)), .val (.int (0 : Int32)), .unset] [(.ref b33), (.ref b33)])) rfl (by rw [hml]; rfl) (Steps.refl _) (argsL := [(.ref b33)]) (rest := []) (lenOf own_pd10 rfl) rfl (by show 2 * 0 + _ ≤ _; exact Nat.le_of_eq rfl) (hb hby at_109) (fun _ _ => ⟨rfl, e41, (by decide : 7 + 0 ≤ _), (by decide : 15 + 0 ≤ _)⟩)
      dsimp only [Pt.U, Pt.locs, Pt.cells, Pt.slots] at X42 l42 y42 z42 st42 hQ42
      subst l42 y42 z42
      obtain ⟨rfl, N42q, e42⟩ := hQ42
      have N42 := Fr.app N41 N42q
      refine own_st (V := T42.setTop (mkF m 112 #[.val (.int p1), .val (.int p2), .val (.int p3), .val (.int p4), .val (.int (p1 &&& (2147483647 : Int32))), .val (.int (p2 &&& (2147483647 : Int32))), .val (.ref b31), .val (.ref b33), .val (.ref b37), .val (.long (((p1 &&& (2147483647 : Int32)).toInt64) - ((p2 &&& (2147483647 : Int32)).toInt64))), .second, .val (.int (1 : Int32)), .val (.int (0 : Int32)), .unset] [(.int (0 : Int32))])) (fun t k => st42.trans k) ?_
      refine own_st (V := T42.setTop (mkF m 114 #[.val (.int p1), .val (.int p2), .val (.int p3), .val (.int p4), .val (.int (p1 &&& (2147483647 : Int32))), .val (.int (p2 &&& (2147483647 : Int32))), .val (.ref b31), .val (.ref b33), .val (.ref b37), .val (.long (((p1 &&& (2147483647 : Int32)).toInt64) - ((p2 &&& (2147483647 : Int32)).toInt64))), .second, .val (.int (1 : Int32)), .val (.int (0 : Int32)), .val (.int (0 : Int32))] [])) (fun t k => XS.istore X42.here hx rfl (hb hby at_112) rfl (l' := #[.val (.int p1), .val (.int p2), .val (.int p3), .val (.int p4), .val (.int (p1 &&& (2147483647 : Int32))), .val (.int (p2 &&& (2147483647 : Int32))), .val (.ref b31), .val (.ref b33), .val (.ref b37), .val (.long (((p1 &&& (2147483647 : Int32)).toInt64) - ((p2 &&& (2147483647 : Int32)).toInt64))), .second, .val (.int (1 : Int32)), .val (.int (0 : Int32)), .val (.int (0 : Int32))]) rfl k) ?_
      refine own_st (V := T42.setTop (mkF m 116 #[.val (.int p1), .val (.int p2), .val (.int p3), .val (.int p4), .val (.int (p1 &&& (2147483647 : Int32))), .val (.int (p2 &&& (2147483647 : Int32))), .val (.ref b31), .val (.ref b33), .val (.ref b37), .val (.long (((p1 &&& (2147483647 : Int32)).toInt64) - ((p2 &&& (2147483647 : Int32)).toInt64))), .second, .val (.int (1 : Int32)), .val (.int (0 : Int32)), .val (.int (0 : Int32))] [(.int (1 : Int32))])) (fun t k => XS.iload X42.here hx rfl (hb hby at_114) rfl k) ?_
      refine own_st (V := T42.setTop (mkF m 118 #[.val (.int p1), .val (.int p2), .val (.int p3), .val (.int p4), .val (.int (p1 &&& (2147483647 : Int32))), .val (.int (p2 &&& (2147483647 : Int32))), .val (.ref b31), .val (.ref b33), .val (.ref b37), .val (.long (((p1 &&& (2147483647 : Int32)).toInt64) - ((p2 &&& (2147483647 : Int32)).toInt64))), .second, .val (.int (1 : Int32)), .val (.int (0 : Int32)), .val (.int (0 : Int32))] [(.long (((p1 &&& (2147483647 : Int32)).toInt64) - ((p2 &&& (2147483647 : Int32)).toInt64))), (.int (1 : Int32))])) (fun t k => XS.lload X42.here hx rfl (hb hby at_116) rfl k) ?_
      refine own_st (V := T42.setTop (mkF m 119 #[.val (.int p1), .val (.int p2), .val (.int p3), .val (.int p4), .val (.int (p1 &&& (2147483647 : Int32))), .val (.int (p2 &&& (2147483647 : Int32))), .val (.ref b31), .val (.ref b33), .val (.ref b37), .val (.long (((p1 &&& (2147483647 : Int32)).toInt64) - ((p2 &&& (2147483647 : Int32)).toInt64))), .second, .val (.int (1 : Int32)), .val (.int (0 : Int32)), .val (.int (0 : Int32))] [(.long (0 : Int64)), (.long (((p1 &&& (2147483647 : Int32)).toInt64) - ((p2 &&& (2147483647 : Int32)).toInt64))), (.int (1 : Int32))])) (fun t k => XS.lconst X42.here hx rfl (hb hby at_118) k) ?_
      refine own_st (V := T42.setTop (mkF m 120 #[.val (.int p1), .val (.int p2), .val (.int p3), .val (.int p4), .val (.int (p1 &&& (2147483647 : Int32))), .val (.int (p2 &&& (2147483647 : Int32))), .val (.ref b31), .val (.ref b33), .val (.ref b37), .val (.long (((p1 &&& (2147483647 : Int32)).toInt64) - ((p2 &&& (2147483647 : Int32)).toInt64))), .second, .val (.int (1 : Int32)), .val (.int (0 : Int32)), .val (.int (0 : Int32))] [(.int (lcmpW (((p1 &&& (2147483647 : Int32)).toInt64) - ((p2 &&& (2147483647 : Int32)).toInt64)) (0 : Int64))), (.int (1 : Int32))])) (fun t k => XS.lcmp X42.here hx rfl (hb hby at_119) rfl k) ?_
      refine own_st (V := T42.setTop (mkF m 123 #[.val (.int p1), .val (.int p2), .val (.int p3), .val (.int p4), .val (.int (p1 &&& (2147483647 : Int32))), .val (.int (p2 &&& (2147483647 : Int32))), .val (.ref b31), .val (.ref b33), .val (.ref b37), .val (.long (((p1 &&& (2147483647 : Int32)).toInt64) - ((p2 &&& (2147483647 : Int32)).toInt64))), .second, .val (.int (1 : Int32)), .val (.int (0 : Int32)), .val (.int (0 : Int32))] [(.int (1 : Int32))])) (fun t k => XS.ifNo X42.here hx rfl (hb hby at_120) rfl ((if0 _ _).trans (tlt (own_lg hg)).2.2.2) k) ?_
      refine own_st (V := T42.setTop (mkF m 124 #[.val (.int p1), .val (.int p2), .val (.int p3), .val (.int p4), .val (.int (p1 &&& (2147483647 : Int32))), .val (.int (p2 &&& (2147483647 : Int32))), .val (.ref b31), .val (.ref b33), .val (.ref b37), .val (.long (((p1 &&& (2147483647 : Int32)).toInt64) - ((p2 &&& (2147483647 : Int32)).toInt64))), .second, .val (.int (1 : Int32)), .val (.int (0 : Int32)), .val (.int (0 : Int32))] [(.int (1 : Int32)), (.int (1 : Int32))])) (fun t k => XS.iconst X42.here hx rfl (hb hby at_123) k) ?_
      refine own_st (V := T42.setTop (mkF m 128 #[.val (.int p1), .val (.int p2), .val (.int p3), .val (.int p4), .val (.int (p1 &&& (2147483647 : Int32))), .val (.int (p2 &&& (2147483647 : Int32))), .val (.ref b31), .val (.ref b33), .val (.ref b37), .val (.long (((p1 &&& (2147483647 : Int32)).toInt64) - ((p2 &&& (2147483647 : Int32)).toInt64))), .second, .val (.int (1 : Int32)), .val (.int (0 : Int32)), .val (.int (0 : Int32))] [(.int (1 : Int32)), (.int (1 : Int32))])) (fun t k => XS.goto X42.here hx rfl (pc0 := 124) (pc' := 128) rfl (hb hby at_124) (by decide) (by decide) k) ?_
      refine own_st (V := T42.setTop (mkF m 131 #[.val (.int p1), .val (.int p2), .val (.int p3), .val (.int p4), .val (.int (p1 &&& (2147483647 : Int32))), .val (.int (p2 &&& (2147483647 : Int32))), .val (.ref b31), .val (.ref b33), .val (.ref b37), .val (.long (((p1 &&& (2147483647 : Int32)).toInt64) - ((p2 &&& (2147483647 : Int32)).toInt64))), .second, .val (.int (1 : Int32)), .val (.int (0 : Int32)), .val (.int (0 : Int32))] [])) (fun t k => XS.icmpNo X42.here hx rfl (hb hby at_128) rfl (teq (by decide : (1 : Int32) = (1 : Int32))).2 k) ?_
      refine own_st (V := T42.setTop (mkF m 133 #[.val (.int p1), .val (.int p2), .val (.int p3), .val (.int p4), .val (.int (p1 &&& (2147483647 : Int32))), .val (.int (p2 &&& (2147483647 : Int32))), .val (.ref b31), .val (.ref b33), .val (.ref b37), .val (.long (((p1 &&& (2147483647 : Int32)).toInt64) - ((p2 &&& (2147483647 : Int32)).toInt64))), .second, .val (.int (1 : Int32)), .val (.int (0 : Int32)), .val (.int (0 : Int32))] [(.int (0 : Int32))])) (fun t k => XS.iload X42.here hx rfl (hb hby at_131) rfl k) ?_
      refine own_st (V := T42.setTop (mkF m 135 #[.val (.int p1), .val (.int p2), .val (.int p3), .val (.int p4), .val (.int (p1 &&& (2147483647 : Int32))), .val (.int (p2 &&& (2147483647 : Int32))), .val (.ref b31), .val (.ref b33), .val (.ref b37), .val (.long (((p1 &&& (2147483647 : Int32)).toInt64) - ((p2 &&& (2147483647 : Int32)).toInt64))), .second, .val (.int (1 : Int32)), .val (.int (0 : Int32)), .val (.int (0 : Int32))] [(.long (((p1 &&& (2147483647 : Int32)).toInt64) - ((p2 &&& (2147483647 : Int32)).toInt64))), (.int (0 : Int32))])) (fun t k => XS.lload X42.here hx rfl (hb hby at_133) rfl k) ?_
      refine own_st (V := T42.setTop (mkF m 136 #[.val (.int p1), .val (.int p2), .val (.int p3), .val (.int p4), .val (.int (p1 &&& (2147483647 : Int32))), .val (.int (p2 &&& (2147483647 : Int32))), .val (.ref b31), .val (.ref b33), .val (.ref b37), .val (.long (((p1 &&& (2147483647 : Int32)).toInt64) - ((p2 &&& (2147483647 : Int32)).toInt64))), .second, .val (.int (1 : Int32)), .val (.int (0 : Int32)), .val (.int (0 : Int32))] [(.long (0 : Int64)), (.long (((p1 &&& (2147483647 : Int32)).toInt64) - ((p2 &&& (2147483647 : Int32)).toInt64))), (.int (0 : Int32))])) (fun t k => XS.lconst X42.here hx rfl (hb hby at_135) k) ?_
      refine own_st (V := T42.setTop (mkF m 137 #[.val (.int p1), .val (.int p2), .val (.int p3), .val (.int p4), .val (.int (p1 &&& (2147483647 : Int32))), .val (.int (p2 &&& (2147483647 : Int32))), .val (.ref b31), .val (.ref b33), .val (.ref b37), .val (.long (((p1 &&& (2147483647 : Int32)).toInt64) - ((p2 &&& (2147483647 : Int32)).toInt64))), .second, .val (.int (1 : Int32)), .val (.int (0 : Int32)), .val (.int (0 : Int32))] [(.int (lcmpW (((p1 &&& (2147483647 : Int32)).toInt64) - ((p2 &&& (2147483647 : Int32)).toInt64)) (0 : Int64))), (.int (0 : Int32))])) (fun t k => XS.lcmp X42.here hx rfl (hb hby at_136) rfl k) ?_
      refine own_st (V := T42.setTop (mkF m 144 #[.val (.int p1), .val (.int p2), .val (.int p3), .val (.int p4), .val (.int (p1 &&& (2147483647 : Int32))), .val (.int (p2 &&& (2147483647 : Int32))), .val (.ref b31), .val (.ref b33), .val (.ref b37), .val (.long (((p1 &&& (2147483647 : Int32)).toInt64) - ((p2 &&& (2147483647 : Int32)).toInt64))), .second, .val (.int (1 : Int32)), .val (.int (0 : Int32)), .val (.int (0 : Int32))] [(.int (0 : Int32))])) (fun t k => XS.ifYes X42.here hx rfl (pc0 := 137) (pc' := 144) rfl (hb hby at_137) rfl ((if0 _ _).trans (flt (own_lln hl)).2.1) (by decide) (by decide) k) ?_
      refine own_st (V := T42.setTop (mkF m 145 #[.val (.int p1), .val (.int p2), .val (.int p3), .val (.int p4), .val (.int (p1 &&& (2147483647 : Int32))), .val (.int (p2 &&& (2147483647 : Int32))), .val (.ref b31), .val (.ref b33), .val (.ref b37), .val (.long (((p1 &&& (2147483647 : Int32)).toInt64) - ((p2 &&& (2147483647 : Int32)).toInt64))), .second, .val (.int (1 : Int32)), .val (.int (0 : Int32)), .val (.int (0 : Int32))] [(.int (0 : Int32)), (.int (0 : Int32))])) (fun t k => XS.iconst X42.here hx rfl (hb hby at_144) k) ?_
      refine own_st (V := T42.setTop (mkF m 148 #[.val (.int p1), .val (.int p2), .val (.int p3), .val (.int p4), .val (.int (p1 &&& (2147483647 : Int32))), .val (.int (p2 &&& (2147483647 : Int32))), .val (.ref b31), .val (.ref b33), .val (.ref b37), .val (.long (((p1 &&& (2147483647 : Int32)).toInt64) - ((p2 &&& (2147483647 : Int32)).toInt64))), .second, .val (.int (1 : Int32)), .val (.int (0 : Int32)), .val (.int (0 : Int32))] [])) (fun t k => XS.icmpNo X42.here hx rfl (hb hby at_145) rfl (teq (by decide : (0 : Int32) = (0 : Int32))).2 k) ?_
      refine own_st (V := T42.setTop (mkF m 150 #[.val (.int p1), .val (.int p2), .val (.int p3), .val (.int p4), .val (.int (p1 &&& (2147483647 : Int32))), .val (.int (p2 &&& (2147483647 : Int32))), .val (.ref b31), .val (.ref b33), .val (.ref b37), .val (.long (((p1 &&& (2147483647 : Int32)).toInt64) - ((p2 &&& (2147483647 : Int32)).toInt64))), .second, .val (.int (1 : Int32)), .val (.int (0 : Int32)), .val (.int (0 : Int32))] [(.int (0 : Int32))])) (fun t k => XS.iload X42.here hx rfl (hb hby at_148) rfl k) ?_
      refine own_st (V := T42.setTop (mkF m 153 #[.val (.int p1), .val (.int p2), .val (.int p3), .val (.int p4), .val (.int (p1 &&& (2147483647 : Int32))), .val (.int (p2 &&& (2147483647 : Int32))), .val (.ref b31), .val (.ref b33), .val (.ref b37), .val (.long (((p1 &&& (2147483647 : Int32)).toInt64) - ((p2 &&& (2147483647 : Int32)).toInt64))), .second, .val (.int (1 : Int32)), .val (.int (0 : Int32)), .val (.int (0 : Int32))] [])) (fun t k => XS.ifNo X42.here hx rfl (hb hby at_150) rfl ((if0 _ _).trans (teq (by decide : (0 : Int32) = (0 : Int32))).2) k) ?_
      refine own_st (V := T42.setTop (mkF m 154 #[.val (.int p1), .val (.int p2), .val (.int p3), .val (.int p4), .val (.int (p1 &&& (2147483647 : Int32))), .val (.int (p2 &&& (2147483647 : Int32))), .val (.ref b31), .val (.ref b33), .val (.ref b37), .val (.long (((p1 &&& (2147483647 : Int32)).toInt64) - ((p2 &&& (2147483647 : Int32)).toInt64))), .second, .val (.int (1 : Int32)), .val (.int (0 : Int32)), .val (.int (0 : Int32))] [(.int (1 : Int32))])) (fun t k => XS.iconst X42.here hx rfl (hb hby at_153) k) ?_
      refine own_st (V := T42.setTop (mkF m 158 #[.val (.int p1), .val (.int p2), .val (.int p3), .val (.int p4), .val (.int (p1 &&& (2147483647 : Int32))), .val (.int (p2 &&& (2147483647 : Int32))), .val (.ref b31), .val (.ref b33), .val (.ref b37), .val (.long (((p1 &&& (2147483647 : Int32)).toInt64) - ((p2 &&& (2147483647 : Int32)).toInt64))), .second, .val (.int (1 : Int32)), .val (.int (0 : Int32)), .val (.int (0 : Int32))] [(.int (1 : Int32))])) (fun t k => XS.goto X42.here hx rfl (pc0 := 154) (pc' := 158) rfl (hb hby at_154) (by decide) (by decide) k) ?_
      exact own_ret X42 hx hlk Bd.returns (by decide +kernel) (Or.inl ⟨rfl, by simp, _, rfl⟩) (hb hby at_158) (by decide) (by decide) ⟨rfl, N42⟩
    · refine own_st (V := s₁.setTop (mkF m 25 #[.val (.int p1), .val (.int p2), .val (.int p3), .val (.int p4), .val (.int (p1 &&& (2147483647 : Int32))), .val (.int (p2 &&& (2147483647 : Int32))), .unset, .unset, .unset, .unset, .unset, .unset, .unset, .unset] [(.int (1 : Int32))])) (fun t k => XS.iconst X0.here hx rfl (hb hby at_24) k) ?_
      obtain ⟨T43, h43, k43, X43, e43, E43, A43, st43⟩ := newP X0 hx hZ (hw _ (List.mem_of_getElem? (i := 1) rfl)) e0 (g := (mkF m 25 #[.val (.int p1), .val (.int p2), .val (.int p3), .val (.int p4), .val (.int (p1 &&& (2147483647 : Int32))), .val (.int (p2 &&& (2147483647 : Int32))), .unset, .unset, .unset, .unset, .unset, .unset, .unset, .unset] [(.int (1 : Int32))])) rfl (hb hby at_25) rfl (by decide) (cap := 1) (by decide) (by decide) (by decide) (by decide)
      obtain ⟨b43, g43⟩ : ∃ z, z = h0.size := ⟨_, rfl⟩
      rw [← g43] at A43 st43
      have gb_b43 : n0 ≤ b43 := Nat.le_trans Z0 (Nat.le_of_eq g43.symm)
      have Z0_43 : n0 ≤ h43.size := Nat.le_trans Z0 E43.1
      have Od43 := Od.ext E43
      have V43_b43 : Arv Z h43 b43 k43 .char (1 : Int32) [(.int (0 : Int32))] (.int (0 : Int32)) := (Arv.new A43 (by decide)).pad (pad_rep [] (.int (0 : Int32)) 1)
      refine own_st (V := T43.setTop (mkF m 27 #[.val (.int p1), .val (.int p2), .val (.int p3), .val (.int p4), .val (.int (p1 &&& (2147483647 : Int32))), .val (.int (p2 &&& (2147483647 : Int32))), .unset, .unset, .unset, .unset, .unset, .unset, .unset, .unset] [(.ref b43)])) (fun t k => st43 _ k) ?_
      refine own_st (V := T43.setTop (mkF m 28 #[.val (.int p1), .val (.int p2), .val (.int p3), .val (.int p4), .val (.int (p1 &&& (2147483647 : Int32))), .val (.int (p2 &&& (2147483647 : Int32))), .unset, .unset, .unset, .unset, .unset, .unset, .unset, .unset] [(.ref b43), (.ref b43)])) (fun t k => XS.dup X43.here hx rfl (hb hby at_27) rfl rfl k) ?_
      refine own_st (V := T43.setTop (mkF m 29 #[.val (.int p1), .val (.int p2), .val (.int p3), .val (.int p4), .val (.int (p1 &&& (2147483647 : Int32))), .val (.int (p2 &&& (2147483647 : Int32))), .unset, .unset, .unset, .unset, .unset, .unset, .unset, .unset] [(.int (0 : Int32)), (.ref b43), (.ref b43)])) (fun t k => XS.iconst X43.here hx rfl (hb hby at_28) k) ?_
      refine own_st (V := T43.setTop (mkF m 30 #[.val (.int p1), .val (.int p2), .val (.int p3), .val (.int p4), .val (.int (p1 &&& (2147483647 : Int32))), .val (.int (p2 &&& (2147483647 : Int32))), .unset, .unset, .unset, .unset, .unset, .unset, .unset, .unset] [(.int p3), (.int (0 : Int32)), (.ref b43), (.ref b43)])) (fun t k => XS.iloadN X43.here hx rfl (hb hby at_29) rfl k) ?_
      refine own_st (V := T43.setTop (mkF m 33 #[.val (.int p1), .val (.int p2), .val (.int p3), .val (.int p4), .val (.int (p1 &&& (2147483647 : Int32))), .val (.int (p2 &&& (2147483647 : Int32))), .unset, .unset, .unset, .unset, .unset, .unset, .unset, .unset] [(.int (255 : Int32)), (.int p3), (.int (0 : Int32)), (.ref b43), (.ref b43)])) (fun t k => XS.sipush X43.here hx rfl (hb hby at_30) k) ?_
      refine own_st (V := T43.setTop (mkF m 34 #[.val (.int p1), .val (.int p2), .val (.int p3), .val (.int p4), .val (.int (p1 &&& (2147483647 : Int32))), .val (.int (p2 &&& (2147483647 : Int32))), .unset, .unset, .unset, .unset, .unset, .unset, .unset, .unset] [(.int (p3 &&& (255 : Int32))), (.int (0 : Int32)), (.ref b43), (.ref b43)])) (fun t k => XS.iand X43.here hx rfl (hb hby at_33) rfl k) ?_
      refine own_st (V := T43.setTop (mkF m 35 #[.val (.int p1), .val (.int p2), .val (.int p3), .val (.int p4), .val (.int (p1 &&& (2147483647 : Int32))), .val (.int (p2 &&& (2147483647 : Int32))), .unset, .unset, .unset, .unset, .unset, .unset, .unset, .unset] [(.int ((p3 &&& (255 : Int32)).toUInt32.toUInt16.toUInt32.toInt32)), (.int (0 : Int32)), (.ref b43), (.ref b43)])) (fun t k => XS.i2c X43.here hx rfl (hb hby at_34) rfl k) ?_
      have Vk44 := V43_b43
      obtain ⟨cl44, Ar44, qk44, sz44, nn44, hs44, fs44⟩ := Vk44
      have hin44 : ¬ ((0 : Int32) < 0 ∨ cl44.slots.size ≤ ((0 : Int32)).toNatClampNeg) := inb_of sz44 ⟨by decide, by decide⟩
      obtain ⟨T44, h44, X44, e44, W44, st44⟩ := stC X43 hx hZ e43 Ar44 (j := (0 : Int32)) hin44 (g := (mkF m 35 #[.val (.int p1), .val (.int p2), .val (.int p3), .val (.int p4), .val (.int (p1 &&& (2147483647 : Int32))), .val (.int (p2 &&& (2147483647 : Int32))), .unset, .unset, .unset, .unset, .unset, .unset, .unset, .unset] [(.int ((p3 &&& (255 : Int32)).toUInt32.toUInt16.toUInt32.toInt32)), (.int (0 : Int32)), (.ref b43), (.ref b43)])) rfl rfl (hb hby at_35)
      have V44_b43 := Arv.set Ar44 qk44 sz44 nn44 hs44 fs44 (fits_nar_char _) W44 0 rfl (Nat.le_of_ble_eq_true rfl)
      have N44 := Fr.snoc X44 N0 gb_b43
      have Z0_44 : n0 ≤ h44.size := by rw [W44.size]; exact Z0_43
      have Od44 := Od43.wr W44 gb_b43
      refine own_st (V := T44.setTop (mkF m 36 #[.val (.int p1), .val (.int p2), .val (.int p3), .val (.int p4), .val (.int (p1 &&& (2147483647 : Int32))), .val (.int (p2 &&& (2147483647 : Int32))), .unset, .unset, .unset, .unset, .unset, .unset, .unset, .unset] [(.ref b43)])) (fun t k => st44 _ k) ?_
      refine own_st (V := T44.setTop (mkF m 38 #[.val (.int p1), .val (.int p2), .val (.int p3), .val (.int p4), .val (.int (p1 &&& (2147483647 : Int32))), .val (.int (p2 &&& (2147483647 : Int32))), .val (.ref b43), .unset, .unset, .unset, .unset, .unset, .unset, .unset] [])) (fun t k => XS.astore X44.here hx rfl (hb hby at_36) rfl rfl (l' := #[.val (.int p1), .val (.int p2), .val (.int p3), .val (.int p4), .val (.int (p1 &&& (2147483647 : Int32))), .val (.int (p2 &&& (2147483647 : Int32))), .val (.ref b43), .unset, .unset, .unset, .unset, .unset, .unset, .unset]) rfl k) ?_
      obtain ⟨T45, h45, X45, e45, E45, A45, D45, -, st45⟩ := newO X44 hx hZ hown (hw _ (List.mem_of_getElem? (i := 2) rfl)) (hw _ (List.mem_of_getElem? (i := 3) rfl)) (hw _ (List.mem_of_getElem? (i := 4) rfl)) e44 (g := (mkF m 38 #[.val (.int p1), .val (.int p2), .val (.int p3), .val (.int p4), .val (.int (p1 &&& (2147483647 : Int32))), .val (.int (p2 &&& (2147483647 : Int32))), .val (.ref b43), .unset, .unset, .unset, .unset, .unset, .unset, .unset] [])) rfl (hb hby at_38) (by decide) (by decide)
      obtain ⟨b45, g45⟩ : ∃ z, z = h44.size := ⟨_, rfl⟩
      rw [← g45] at A45 D45 st45
      have gb_b45 : n0 ≤ b45 := Nat.le_trans Z0_44 (Nat.le_of_eq g45.symm)
      have Z0_45 : n0 ≤ h45.size := Nat.le_trans Z0_44 E45.1
      have ne_b43_b45 : b43 ≠ b45 := Nat.ne_of_lt (Nat.lt_of_lt_of_le V44_b43.lt (Nat.le_of_eq g45.symm))
      have V45_b43 := V44_b43.ext E45
      have Od45 := Od44.ext E45
      have F45_b45_name : Fld Z h45 b45 "com/example/trust_grade/trustgrade/network/Level" "name" "Ljava/lang/String;" .null := D45 (Or.inr (hw _ (List.mem_of_getElem? (i := 39) rfl))) (ty := (.object "java/lang/String")) (by decide)
      have F45_b45_rank : Fld Z h45 b45 "com/example/trust_grade/trustgrade/network/Level" "rank" "I" (.int (0 : Int32)) := D45 (Or.inr (hw _ (List.mem_of_getElem? (i := 41) rfl))) (ty := .int) (by decide)
      refine own_st (V := T45.setTop (mkF m 41 #[.val (.int p1), .val (.int p2), .val (.int p3), .val (.int p4), .val (.int (p1 &&& (2147483647 : Int32))), .val (.int (p2 &&& (2147483647 : Int32))), .val (.ref b43), .unset, .unset, .unset, .unset, .unset, .unset, .unset] [(.ref b45)])) (fun t k => st45 _ k) ?_
      refine own_st (V := T45.setTop (mkF m 42 #[.val (.int p1), .val (.int p2), .val (.int p3), .val (.int p4), .val (.int (p1 &&& (2147483647 : Int32))), .val (.int (p2 &&& (2147483647 : Int32))), .val (.ref b43), .unset, .unset, .unset, .unset, .unset, .unset, .unset] [(.ref b45), (.ref b45)])) (fun t k => XS.dup X45.here hx rfl (hb hby at_41) rfl rfl k) ?_
      obtain ⟨T46, h46, X46, e46, E46, A46, D46, -, st46⟩ := newO X45 hx hZ hown (hw _ (List.mem_of_getElem? (i := 5) rfl)) (hw _ (List.mem_of_getElem? (i := 6) rfl)) (hw _ (List.mem_of_getElem? (i := 7) rfl)) e45 (g := (mkF m 42 #[.val (.int p1), .val (.int p2), .val (.int p3), .val (.int p4), .val (.int (p1 &&& (2147483647 : Int32))), .val (.int (p2 &&& (2147483647 : Int32))), .val (.ref b43), .unset, .unset, .unset, .unset, .unset, .unset, .unset] [(.ref b45), (.ref b45)])) rfl (hb hby at_42) (by decide) (by decide)
      obtain ⟨b46, g46⟩ : ∃ z, z = h45.size := ⟨_, rfl⟩
      rw [← g46] at A46 D46 st46
      have gb_b46 : n0 ≤ b46 := Nat.le_trans Z0_45 (Nat.le_of_eq g46.symm)
      have Z0_46 : n0 ≤ h46.size := Nat.le_trans Z0_45 E46.1
      have ne_b43_b46 : b43 ≠ b46 := Nat.ne_of_lt (Nat.lt_of_lt_of_le V45_b43.lt (Nat.le_of_eq g46.symm))
      have ne_b45_b46 : b45 ≠ b46 := Nat.ne_of_lt (Nat.lt_of_lt_of_le A45.lt (Nat.le_of_eq g46.symm))
      have F46_b45_name := F45_b45_name.ext E46
      have F46_b45_rank := F45_b45_rank.ext E46
      have Ex46_b45 := A45.ext E46
      have V46_b43 := V45_b43.ext E46
      have Od46 := Od45.ext E46
      have F46_b46_coder : Fld Z h46 b46 "java/lang/String" "coder" "B" (.int (0 : Int32)) := D46 (Or.inr (hw _ (List.mem_of_getElem? (i := 31) rfl))) (ty := .byte) (by decide)
      have F46_b46_value : Fld Z h46 b46 "java/lang/String" "value" "[B" .null := D46 (Or.inr (hw _ (List.mem_of_getElem? (i := 33) rfl))) (ty := (.array .byte)) (by decide)
      refine own_st (V := T46.setTop (mkF m 45 #[.val (.int p1), .val (.int p2), .val (.int p3), .val (.int p4), .val (.int (p1 &&& (2147483647 : Int32))), .val (.int (p2 &&& (2147483647 : Int32))), .val (.ref b43), .unset, .unset, .unset, .unset, .unset, .unset, .unset] [(.ref b46), (.ref b45), (.ref b45)])) (fun t k => st46 _ k) ?_
      refine own_st (V := T46.setTop (mkF m 46 #[.val (.int p1), .val (.int p2), .val (.int p3), .val (.int p4), .val (.int (p1 &&& (2147483647 : Int32))), .val (.int (p2 &&& (2147483647 : Int32))), .val (.ref b43), .unset, .unset, .unset, .unset, .unset, .unset, .unset] [(.ref b46), (.ref b46), (.ref b45), (.ref b45)])) (fun t k => XS.dup X46.here hx rfl (hb hby at_45) rfl rfl k) ?_
      refine own_st (V := T46.setTop (mkF m 48 #[.val (.int p1), .val (.int p2), .val (.int p3), .val (.int p4), .val (.int (p1 &&& (2147483647 : Int32))), .val (.int (p2 &&& (2147483647 : Int32))), .val (.ref b43), .unset, .unset, .unset, .unset, .unset, .unset, .unset] [(.ref b43), (.ref b46), (.ref b46), (.ref b45), (.ref b45)])) (fun t k => XS.aload X46.here hx rfl (hb hby at_46) rfl rfl k) ?_
      obtain ⟨_, _, ⟨T47, L47, k47, n47⟩, -, X47, ⟨Lc47, hQ47, l47, y47, z47⟩, st47⟩ := X46.specialBack hx (y := (⟨"java/lang/String", "<init>", "([C)V"⟩ : MethodName)) rfl hown (mvT hZ (hw _ (List.mem_of_getElem? (i := 8) rfl))) (mvT hZ (hw _ (List.mem_of_getElem? (i := 9) rfl))) (mvT hZ (hw _ (List.mem_of_getElem? (i := 10) rfl))) (by decide) (backOf (W := 3) (own_s1_1 l Z a0 hw [] b46 b43 k43 cs (nar .char ((p3 &&& (255 : Int32)).toUInt32.toUInt16.toUInt32.toInt32)) h46 n0 Z0_46 Od46 SC hcs A46 gb_b46 F46_b46_value F46_b46_coder V46_b43 ne_b43_b46 (own_ch2 p3)) hZ (hw _ (List.mem_of_getElem? (i := 10) rfl)) (hw _ (List.mem_of_getElem? (i := 7) rfl)) (by decide) (by decide)) (g := (mkF m 48 #[.val (.int p1), .val (.int p2), .val (.int p3), .val (.int p4), .val (.int (p1 &&& (2147483647 : Int32))), .val (.int (p2 &&& (2147483647 : Int32))), .val (.ref b43), .unset, .unset, .unset, .unset, .unset, .unset, .unset] [(.ref b43), (.ref b46), (.ref b46), (.ref b45), (.ref b45)])) rfl (by rw [hml]; rfl) (Steps.refl _) (a := b46) (argsL := [(.ref b43)]) (rest := [(.ref b46), (.ref b45), (.ref b45)]) (lenOf own_pd7 rfl) rfl (by show 2 * 0 + _ ≤ _; exact Nat.le_of_eq rfl) (hb hby at_48) (fun _ _ => ⟨rfl, e46, (by decide : 3 + 1 ≤ _), (by decide : 7 + 1 ≤ _)⟩)
      dsimp only [Pt.U, Pt.locs, Pt.cells, Pt.slots] at X47 l47 y47 z47 st47 hQ47
      subst l47 y47 z47
      obtain ⟨rfl, N47q, K47, Ex47_q, t47, kbt47, vst47, szt47', Fq47_0, Vq47⟩ := hQ47
      have N47 := Fr.app N44 N47q
      have Z0_47 : n0 ≤ T47.heap.size := Nat.le_trans Z0_46 K47.1
      have ne_b45_t47 : b45 ≠ t47 := Nat.ne_of_lt (Nat.lt_of_lt_of_le Ex46_b45.lt szt47')
      have ne_b46_t47 : b46 ≠ t47 := Nat.ne_of_lt (Nat.lt_of_lt_of_le A46.lt szt47')
      have ne_b43_t47 : b43 ≠ t47 := Nat.ne_of_lt (Nat.lt_of_lt_of_le V46_b43.lt szt47')
      have F47_b45_name := F46_b45_name.keep K47 (ninS ne_b45_b46 nin0)
      have F47_b45_rank := F46_b45_rank.keep K47 (ninS ne_b45_b46 nin0)
      have Ex47_b45 := Ex46_b45.keep K47
      have Ex47_b46 := A46.keep K47
      have V47_b43 := V46_b43.keep K47 (ninS ne_b43_b46 nin0)
      have Od47 := Od46.keep K47 (allS gb_b46 all0)
      refine own_st (V := T47.setTop (mkF m 51 #[.val (.int p1), .val (.int p2), .val (.int p3), .val (.int p4), .val (.int (p1 &&& (2147483647 : Int32))), .val (.int (p2 &&& (2147483647 : Int32))), .val (.ref b43), .unset, .unset, .unset, .unset, .unset, .unset, .unset] [(.ref b46), (.ref b45), (.ref b45)])) (fun t k => st47.trans k) ?_
      refine own_st (V := T47.setTop (mkF m 53 #[.val (.int p1), .val (.int p2), .val (.int p3), .val (.int p4), .val (.int (p1 &&& (2147483647 : Int32))), .val (.int (p2 &&& (2147483647 : Int32))), .val (.ref b43), .unset, .unset, .unset, .unset, .unset, .unset, .unset] [(.int (p1 &&& (2147483647 : Int32))), (.ref b46), (.ref b45), (.ref b45)])) (fun t k => XS.iload X47.here hx rfl (hb hby at_51) rfl k) ?_
      obtain ⟨_, _, ⟨T48, L48, k48, n48⟩, -, X48, ⟨Lc48, hQ48, l48, y48, z48⟩, st48⟩ := X47.specialBack hx (y := (⟨"com/example/trust_grade/trustgrade/network/Level", "<init>", "(Ljava/lang/String;I)V"⟩ : MethodName)) rfl hown (mvT hZ (hw _ (List.mem_of_getElem? (i := 34) rfl))) (mvT hZ (hw _ (List.mem_of_getElem? (i := 35) rfl))) (mvT hZ (hw _ (List.mem_of_getElem? (i := 36) rfl))) (by decide) (backOf (W := 1) (own_li l Z a0 hw [] b45 b46 (p1 &&& (2147483647 : Int32)) T47.heap n0 Z0_47 F47_b45_name F47_b45_rank Ex47_b45 gb_b45) hZ (hw _ (List.mem_of_getElem? (i := 36) rfl)) (hw _ (List.mem_of_getElem? (i := 4) rfl)) (by decide) (by decide)) (g := (mkF m 53 #[.val (.int p1), .val (.int p2), .val (.int p3), .val (.int p4), .val (.int (p1 &&& (2147483647 : Int32))), .val (.int (p2 &&& (2147483647 : Int32))), .val (.ref b43), .unset, .unset, .unset, .unset, .unset, .unset, .unset] [(.int (p1 &&& (2147483647 : Int32))), (.ref b46), (.ref b45), (.ref b45)])) rfl (by rw [hml]; rfl) (Steps.refl _) (a := b45) (argsL := [(.ref b46), (.int (p1 &&& (2147483647 : Int32)))]) (rest := [(.ref b45)]) (lenOf own_pd8 rfl) rfl (by show 2 * 0 + _ ≤ _; exact Nat.le_of_eq rfl) (hb hby at_53) (fun _ _ => ⟨rfl, rfl, (by decide : 4 + 0 ≤ _), (by decide : 8 + 0 ≤ _)⟩)
      dsimp only [Pt.U, Pt.locs, Pt.cells, Pt.slots] at X48 l48 y48 z48 st48 hQ48
      subst l48 y48 z48
      obtain ⟨rfl, N48q, K48, Ex48_q, Fq48_0⟩ := hQ48
      have N48 := Fr.app N47 N48q
      have Z0_48 : n0 ≤ T48.heap.size := Nat.le_trans Z0_47 K48.1
      have F48_b46_value := Fq47_0.keep K48 (ninS (Ne.symm ne_b45_b46) nin0)
      have Ex48_b45 := Ex47_b45.keep K48
      have Ex48_b46 := Ex47_q.keep K48
      have V48_b43 := V47_b43.keep K48 (ninS ne_b43_b45 nin0)
      have V48_t47 := Vq47.keep K48 (ninS (Ne.symm ne_b45_t47) nin0)
      have Od48 := Od47.keep K48 (allS gb_b45 all0)
      refine own_st (V := T48.setTop (mkF m 56 #[.val (.int p1), .val (.int p2), .val (.int p3), .val (.int p4), .val (.int (p1 &&& (2147483647 : Int32))), .val (.int (p2 &&& (2147483647 : Int32))), .val (.ref b43), .unset, .unset, .unset, .unset, .unset, .unset, .unset] [(.ref b45)])) (fun t k => st48.trans k) ?_
      refine own_st (V := T48.setTop (mkF m 58 #[.val (.int p1), .val (.int p2), .val (.int p3), .val (.int p4), .val (.int (p1 &&& (2147483647 : Int32))), .val (.int (p2 &&& (2147483647 : Int32))), .val (.ref b43), .val (.ref b45), .unset, .unset, .unset, .unset, .unset, .unset] [])) (fun t k => XS.astore X48.here hx rfl (hb hby at_56) rfl rfl (l' := #[.val (.int p1), .val (.int p2), .val (.int p3), .val (.int p4), .val (.int (p1 &&& (2147483647 : Int32))), .val (.int (p2 &&& (2147483647 : Int32))), .val (.ref b43), .val (.ref b45), .unset, .unset, .unset, .unset, .unset, .unset]) rfl k) ?_
      obtain ⟨T49, h49, X49, e49, E49, A49, D49, -, st49⟩ := newO X48 hx hZ hown (hw _ (List.mem_of_getElem? (i := 2) rfl)) (hw _ (List.mem_of_getElem? (i := 3) rfl)) (hw _ (List.mem_of_getElem? (i := 4) rfl)) rfl (g := (mkF m 58 #[.val (.int p1), .val (.int p2), .val (.int p3), .val (.int p4), .val (.int (p1 &&& (2147483647 : Int32))), .val (.int (p2 &&& (2147483647 : Int32))), .val (.ref b43), .val (.ref b45), .unset, .unset, .unset, .unset, .unset, .unset] [])) rfl (hb hby at_58) (by decide) (by decide)
      obtain ⟨b49, g49⟩ : ∃ z, z = T48.heap.size := ⟨_, rfl⟩
      rw [← g49] at A49 D49 st49
      have gb_b49 : n0 ≤ b49 := Nat.le_trans Z0_48 (Nat.le_of_eq g49.symm)
      have Z0_49 : n0 ≤ h49.size := Nat.le_trans Z0_48 E49.1
      have ne_b43_b49 : b43 ≠ b49 := Nat.ne_of_lt (Nat.lt_of_lt_of_le V48_b43.lt (Nat.le_of_eq g49.symm))
      have ne_t47_b49 : t47 ≠ b49 := Nat.ne_of_lt (Nat.lt_of_lt_of_le V48_t47.lt (Nat.le_of_eq g49.symm))
      have ne_b45_b49 : b45 ≠ b49 := Nat.ne_of_lt (Nat.lt_of_lt_of_le Ex48_q.lt (Nat.le_of_eq g49.symm))
      have ne_b46_b49 : b46 ≠ b49 := Nat.ne_of_lt (Nat.lt_of_lt_of_le Ex48_b46.lt (Nat.le_of_eq g49.symm))
      have F49_b46_value := F48_b46_value.ext E49
      have F49_b45_rank := Fq48_0.ext E49
      have Ex49_b45 := Ex48_q.ext E49
      have Ex49_b46 := Ex48_b46.ext E49
      have V49_b43 := V48_b43.ext E49
      have V49_t47 := V48_t47.ext E49
      have Od49 := Od48.ext E49
      have F49_b49_name : Fld Z h49 b49 "com/example/trust_grade/trustgrade/network/Level" "name" "Ljava/lang/String;" .null := D49 (Or.inr (hw _ (List.mem_of_getElem? (i := 39) rfl))) (ty := (.object "java/lang/String")) (by decide)
      have F49_b49_rank : Fld Z h49 b49 "com/example/trust_grade/trustgrade/network/Level" "rank" "I" (.int (0 : Int32)) := D49 (Or.inr (hw _ (List.mem_of_getElem? (i := 41) rfl))) (ty := .int) (by decide)
      refine own_st (V := T49.setTop (mkF m 61 #[.val (.int p1), .val (.int p2), .val (.int p3), .val (.int p4), .val (.int (p1 &&& (2147483647 : Int32))), .val (.int (p2 &&& (2147483647 : Int32))), .val (.ref b43), .val (.ref b45), .unset, .unset, .unset, .unset, .unset, .unset] [(.ref b49)])) (fun t k => st49 _ k) ?_
      refine own_st (V := T49.setTop (mkF m 62 #[.val (.int p1), .val (.int p2), .val (.int p3), .val (.int p4), .val (.int (p1 &&& (2147483647 : Int32))), .val (.int (p2 &&& (2147483647 : Int32))), .val (.ref b43), .val (.ref b45), .unset, .unset, .unset, .unset, .unset, .unset] [(.ref b49), (.ref b49)])) (fun t k => XS.dup X49.here hx rfl (hb hby at_61) rfl rfl k) ?_
      refine own_st (V := T49.setTop (mkF m 63 #[.val (.int p1), .val (.int p2), .val (.int p3), .val (.int p4), .val (.int (p1 &&& (2147483647 : Int32))), .val (.int (p2 &&& (2147483647 : Int32))), .val (.ref b43), .val (.ref b45), .unset, .unset, .unset, .unset, .unset, .unset] [(.int p4), (.ref b49), (.ref b49)])) (fun t k => XS.iloadN X49.here hx rfl (hb hby at_62) rfl k) ?_
      refine own_st (V := T49.setTop (mkF m 66 #[.val (.int p1), .val (.int p2), .val (.int p3), .val (.int p4), .val (.int (p1 &&& (2147483647 : Int32))), .val (.int (p2 &&& (2147483647 : Int32))), .val (.ref b43), .val (.ref b45), .unset, .unset, .unset, .unset, .unset, .unset] [(.int (255 : Int32)), (.int p4), (.ref b49), (.ref b49)])) (fun t k => XS.sipush X49.here hx rfl (hb hby at_63) k) ?_
      refine own_st (V := T49.setTop (mkF m 67 #[.val (.int p1), .val (.int p2), .val (.int p3), .val (.int p4), .val (.int (p1 &&& (2147483647 : Int32))), .val (.int (p2 &&& (2147483647 : Int32))), .val (.ref b43), .val (.ref b45), .unset, .unset, .unset, .unset, .unset, .unset] [(.int (p4 &&& (255 : Int32))), (.ref b49), (.ref b49)])) (fun t k => XS.iand X49.here hx rfl (hb hby at_66) rfl k) ?_
      refine own_st (V := T49.setTop (mkF m 68 #[.val (.int p1), .val (.int p2), .val (.int p3), .val (.int p4), .val (.int (p1 &&& (2147483647 : Int32))), .val (.int (p2 &&& (2147483647 : Int32))), .val (.ref b43), .val (.ref b45), .unset, .unset, .unset, .unset, .unset, .unset] [(.int ((p4 &&& (255 : Int32)).toUInt32.toUInt16.toUInt32.toInt32)), (.ref b49), (.ref b49)])) (fun t k => XS.i2c X49.here hx rfl (hb hby at_67) rfl k) ?_
      obtain ⟨_, _, ⟨T50, L50, k50, n50⟩, -, X50, ⟨Lc50, hQ50, l50, y50, z50⟩, st50⟩ := Jvm.LawKit.callS X49 hx (y := (⟨"java/lang/String", "valueOf", "(C)Ljava/lang/String;"⟩ : MethodName)) hown (mvT hZ (hw _ (List.mem_of_getElem? (i := 42) rfl))) (mvT hZ (hw _ (List.mem_of_getElem? (i := 43) rfl))) (mvT hZ (hw _ (List.mem_of_getElem? (i := 7) rfl))) (mvT hZ (hw _ (List.mem_of_getElem? (i := 44) rfl))) (by decide) (backOf (W := 2) (own_sv l Z a0 hw [] ((p4 &&& (255 : Int32)).toUInt32.toUInt16.toUInt32.toInt32) cs h49 n0 Z0_49 Od49 SC hcs (own_ch p4)) hZ (hw _ (List.mem_of_getElem? (i := 44) rfl)) (hw _ (List.mem_of_getElem? (i := 7) rfl)) (by decide) (by decide)) (g := (mkF m 68 #[.val (.int p1), .val (.int p2), .val (.int p3), .val (.int p4), .val (.int (p1 &&& (2147483647 : Int32))), .val (.int (p2 &&& (2147483647 : Int32))), .val (.ref b43), .val (.ref b45), .unset, .unset, .unset, .unset, .unset, .unset] [(.int ((p4 &&& (255 : Int32)).toUInt32.toUInt16.toUInt32.toInt32)), (.ref b49), (.ref b49)])) rfl (by rw [hml]; rfl) (argsL := [(.int ((p4 &&& (255 : Int32)).toUInt32.toUInt16.toUInt32.toInt32))]) (rest := [(.ref b49), (.ref b49)]) (lenOf own_pd9 rfl) rfl (by show 2 * 0 + _ ≤ _; exact Nat.le_of_eq rfl) (hb hby at_68) (fun _ _ => ⟨rfl, e49, (by decide : 5 + 2 ≤ _), (by decide : 10 + 5 ≤ _)⟩)
      dsimp only [Pt.U, Pt.locs, Pt.cells, Pt.slots] at X50 l50 y50 z50 st50 hQ50
      subst l50 y50 z50
      obtain ⟨t50, rfl, N50q, K50⟩ := hQ50
      have N50 := Fr.app N48 N50q
      have Z0_50 : n0 ≤ T50.heap.size := Nat.le_trans Z0_49 K50.1
      have F50_b46_value := F49_b46_value.keep K50 nin0
      have F50_b45_rank := F49_b45_rank.keep K50 nin0
      have F50_b49_name := F49_b49_name.keep K50 nin0
      have F50_b49_rank := F49_b49_rank.keep K50 nin0
      have Ex50_b45 := Ex49_b45.keep K50
      have Ex50_b46 := Ex49_b46.keep K50
      have Ex50_b49 := A49.keep K50
      have V50_b43 := V49_b43.keep K50 nin0
      have V50_t47 := V49_t47.keep K50 nin0
      have Od50 := Od49.keep K50 all0
      refine own_st (V := T50.setTop (mkF m 71 #[.val (.int p1), .val (.int p2), .val (.int p3), .val (.int p4), .val (.int (p1 &&& (2147483647 : Int32))), .val (.int (p2 &&& (2147483647 : Int32))), .val (.ref b43), .val (.ref b45), .unset, .unset, .unset, .unset, .unset, .unset] [(.ref t50), (.ref b49), (.ref b49)])) (fun t k => st50 _ k) ?_
      refine own_st (V := T50.setTop (mkF m 73 #[.val (.int p1), .val (.int p2), .val (.int p3), .val (.int p4), .val (.int (p1 &&& (2147483647 : Int32))), .val (.int (p2 &&& (2147483647 : Int32))), .val (.ref b43), .val (.ref b45), .unset, .unset, .unset, .unset, .unset, .unset] [(.int (p2 &&& (2147483647 : Int32))), (.ref t50), (.ref b49), (.ref b49)])) (fun t k => XS.iload X50.here hx rfl (hb hby at_71) rfl k) ?_
      obtain ⟨_, _, ⟨T51, L51, k51, n51⟩, -, X51, ⟨Lc51, hQ51, l51, y51, z51⟩, st51⟩ := X50.specialBack hx (y := (⟨"com/example/trust_grade/trustgrade/network/Level", "<init>", "(Ljava/lang/String;I)V"⟩ : MethodName)) rfl hown (mvT hZ (hw _ (List.mem_of_getElem? (i := 34) rfl))) (mvT hZ (hw _ (List.mem_of_getElem? (i := 35) rfl))) (mvT hZ (hw _ (List.mem_of_getElem? (i := 36) rfl))) (by decide) (backOf (W := 1) (own_li l Z a0 hw [] b49 t50 (p2 &&& (2147483647 : Int32)) T50.heap n0 Z0_50 F50_b49_name F50_b49_rank Ex50_b49 gb_b49) hZ (hw _ (List.mem_of_getElem? (i := 36) rfl)) (hw _ (List.mem_of_getElem? (i := 4) rfl)) (by decide) (by decide)) (g := (mkF m 73 #[.val (.int p1), .val (.int p2), .val (.int p3), .val (.int p4), .val (.int (p1 &&& (2147483647 : Int32))), .val (.int (p2 &&& (2147483647 : Int32))), .val (.ref b43), .val (.ref b45), .unset, .unset, .unset, .unset, .unset, .unset] [(.int (p2 &&& (2147483647 : Int32))), (.ref t50), (.ref b49), (.ref b49)])) rfl (by rw [hml]; rfl) (Steps.refl _) (a := b49) (argsL := [(.ref t50), (.int (p2 &&& (2147483647 : Int32)))]) (rest := [(.ref b49)]) (lenOf own_pd8 rfl) rfl (by show 2 * 0 + _ ≤ _; exact Nat.le_of_eq rfl) (hb hby at_73) (fun _ _ => ⟨rfl, rfl, (by decide : 7 + 0 ≤ _), (by decide : 15 + 0 ≤ _)⟩)
      dsimp only [Pt.U, Pt.locs, Pt.cells, Pt.slots] at X51 l51 y51 z51 st51 hQ51
      subst l51 y51 z51
      obtain ⟨rfl, N51q, K51, Ex51_q, Fq51_0⟩ := hQ51
      have N51 := Fr.app N50 N51q
      have Z0_51 : n0 ≤ T51.heap.size := Nat.le_trans Z0_50 K51.1
      have F51_b46_value := F50_b46_value.keep K51 (ninS ne_b46_b49 nin0)
      have F51_b45_rank := F50_b45_rank.keep K51 (ninS ne_b45_b49 nin0)
      have Ex51_b45 := Ex50_b45.keep K51
      have Ex51_b46 := Ex50_b46.keep K51
      have Ex51_b49 := Ex50_b49.keep K51
      have V51_b43 := V50_b43.keep K51 (ninS ne_b43_b49 nin0)
      have V51_t47 := V50_t47.keep K51 (ninS ne_t47_b49 nin0)
      have Od51 := Od50.keep K51 (allS gb_b49 all0)
      refine own_st (V := T51.setTop (mkF m 76 #[.val (.int p1), .val (.int p2), .val (.int p3), .val (.int p4), .val (.int (p1 &&& (2147483647 : Int32))), .val (.int (p2 &&& (2147483647 : Int32))), .val (.ref b43), .val (.ref b45), .unset, .unset, .unset, .unset, .unset, .unset] [(.ref b49)])) (fun t k => st51.trans k) ?_
      refine own_st (V := T51.setTop (mkF m 78 #[.val (.int p1), .val (.int p2), .val (.int p3), .val (.int p4), .val (.int (p1 &&& (2147483647 : Int32))), .val (.int (p2 &&& (2147483647 : Int32))), .val (.ref b43), .val (.ref b45), .val (.ref b49), .unset, .unset, .unset, .unset, .unset] [])) (fun t k => XS.astore X51.here hx rfl (hb hby at_76) rfl rfl (l' := #[.val (.int p1), .val (.int p2), .val (.int p3), .val (.int p4), .val (.int (p1 &&& (2147483647 : Int32))), .val (.int (p2 &&& (2147483647 : Int32))), .val (.ref b43), .val (.ref b45), .val (.ref b49), .unset, .unset, .unset, .unset, .unset]) rfl k) ?_
      refine own_st (V := T51.setTop (mkF m 80 #[.val (.int p1), .val (.int p2), .val (.int p3), .val (.int p4), .val (.int (p1 &&& (2147483647 : Int32))), .val (.int (p2 &&& (2147483647 : Int32))), .val (.ref b43), .val (.ref b45), .val (.ref b49), .unset, .unset, .unset, .unset, .unset] [(.int (p1 &&& (2147483647 : Int32)))])) (fun t k => XS.iload X51.here hx rfl (hb hby at_78) rfl k) ?_
      refine own_st (V := T51.setTop (mkF m 81 #[.val (.int p1), .val (.int p2), .val (.int p3), .val (.int p4), .val (.int (p1 &&& (2147483647 : Int32))), .val (.int (p2 &&& (2147483647 : Int32))), .val (.ref b43), .val (.ref b45), .val (.ref b49), .unset, .unset, .unset, .unset, .unset] [(.long ((p1 &&& (2147483647 : Int32)).toInt64))])) (fun t k => XS.i2l X51.here hx rfl (hb hby at_80) rfl k) ?_
      refine own_st (V := T51.setTop (mkF m 83 #[.val (.int p1), .val (.int p2), .val (.int p3), .val (.int p4), .val (.int (p1 &&& (2147483647 : Int32))), .val (.int (p2 &&& (2147483647 : Int32))), .val (.ref b43), .val (.ref b45), .val (.ref b49), .unset, .unset, .unset, .unset, .unset] [(.int (p2 &&& (2147483647 : Int32))), (.long ((p1 &&& (2147483647 : Int32)).toInt64))])) (fun t k => XS.iload X51.here hx rfl (hb hby at_81) rfl k) ?_
      refine own_st (V := T51.setTop (mkF m 84 #[.val (.int p1), .val (.int p2), .val (.int p3), .val (.int p4), .val (.int (p1 &&& (2147483647 : Int32))), .val (.int (p2 &&& (2147483647 : Int32))), .val (.ref b43), .val (.ref b45), .val (.ref b49), .unset, .unset, .unset, .unset, .unset] [(.long ((p2 &&& (2147483647 : Int32)).toInt64)), (.long ((p1 &&& (2147483647 : Int32)).toInt64))])) (fun t k => XS.i2l X51.here hx rfl (hb hby at_83) rfl k) ?_
      refine own_st (V := T51.setTop (mkF m 85 #[.val (.int p1), .val (.int p2), .val (.int p3), .val (.int p4), .val (.int (p1 &&& (2147483647 : Int32))), .val (.int (p2 &&& (2147483647 : Int32))), .val (.ref b43), .val (.ref b45), .val (.ref b49), .unset, .unset, .unset, .unset, .unset] [(.long (((p1 &&& (2147483647 : Int32)).toInt64) - ((p2 &&& (2147483647 : Int32)).toInt64)))])) (fun t k => XS.lsub X51.here hx rfl (hb hby at_84) rfl k) ?_
      refine own_st (V := T51.setTop (mkF m 87 #[.val (.int p1), .val (.int p2), .val (.int p3), .val (.int p4), .val (.int (p1 &&& (2147483647 : Int32))), .val (.int (p2 &&& (2147483647 : Int32))), .val (.ref b43), .val (.ref b45), .val (.ref b49), .val (.long (((p1 &&& (2147483647 : Int32)).toInt64) - ((p2 &&& (2147483647 : Int32)).toInt64))), .second, .unset, .unset, .unset] [])) (fun t k => XS.lstore X51.here hx rfl (hb hby at_85) rfl (l' := #[.val (.int p1), .val (.int p2), .val (.int p3), .val (.int p4), .val (.int (p1 &&& (2147483647 : Int32))), .val (.int (p2 &&& (2147483647 : Int32))), .val (.ref b43), .val (.ref b45), .val (.ref b49), .val (.long (((p1 &&& (2147483647 : Int32)).toInt64) - ((p2 &&& (2147483647 : Int32)).toInt64))), .second, .unset, .unset, .unset]) rfl k) ?_
      refine own_st (V := T51.setTop (mkF m 89 #[.val (.int p1), .val (.int p2), .val (.int p3), .val (.int p4), .val (.int (p1 &&& (2147483647 : Int32))), .val (.int (p2 &&& (2147483647 : Int32))), .val (.ref b43), .val (.ref b45), .val (.ref b49), .val (.long (((p1 &&& (2147483647 : Int32)).toInt64) - ((p2 &&& (2147483647 : Int32)).toInt64))), .second, .unset, .unset, .unset] [(.ref b45)])) (fun t k => XS.aload X51.here hx rfl (hb hby at_87) rfl rfl k) ?_
      refine own_st (V := T51.setTop (mkF m 91 #[.val (.int p1), .val (.int p2), .val (.int p3), .val (.int p4), .val (.int (p1 &&& (2147483647 : Int32))), .val (.int (p2 &&& (2147483647 : Int32))), .val (.ref b43), .val (.ref b45), .val (.ref b49), .val (.long (((p1 &&& (2147483647 : Int32)).toInt64) - ((p2 &&& (2147483647 : Int32)).toInt64))), .second, .unset, .unset, .unset] [(.ref b49), (.ref b45)])) (fun t k => XS.aload X51.here hx rfl (hb hby at_89) rfl rfl k) ?_
      obtain ⟨cq52, kq52, q52a, q52b, q52c⟩ := isOf hZ rfl Ex51_b45
      obtain ⟨_, _, ⟨T52, L52, k52, n52⟩, -, X52, ⟨Lc52, hQ52, l52, y52, z52⟩, st52⟩ := X51.virtualBack hx (y := (⟨"com/example/trust_grade/trustgrade/network/Level", "isAbove", "(Lcom/example/trust_grade/trustgrade/network/Level;)Z"⟩ : MethodName)) (z := (⟨"com/example/trust_grade/trustgrade/network/Level", "isAbove", "(Lcom/example/trust_grade/trustgrade/network/Level;)Z"⟩ : MethodName)) hown (mvT hZ (hw _ (List.mem_of_getElem? (i := 56) rfl))) (mvT hZ (hw _ (List.mem_of_getElem? (i := 57) rfl))) (notFace_of_selects (args := #[]) (mvT hZ (hw _ (List.mem_of_getElem? (i := 59) rfl)))) (mvT hZ (hw _ (List.mem_of_getElem? (i := 59) rfl))) (mvT hZ (hw _ (List.mem_of_getElem? (i := 58) rfl))) (by decide) (backOf (W := 0) (own_ab0 l Z a0 hw [] b45 b49 (p1 &&& (2147483647 : Int32)) (p2 &&& (2147483647 : Int32)) T51.heap n0 Z0_51 F51_b45_rank Fq51_0 hg) hZ (hw _ (List.mem_of_getElem? (i := 60) rfl)) (hw _ (List.mem_of_getElem? (i := 4) rfl)) (by decide) (by decide)) q52a q52c (g := (mkF m 91 #[.val (.int p1), .val (.int p2), .val (.int p3), .val (.int p4), .val (.int (p1 &&& (2147483647 : Int32))), .val (.int (p2 &&& (2147483647 : Int32))), .val (.ref b43), .val (.ref b45), .val (.ref b49), .val (.long (((p1 &&& (2147483647 : Int32)).toInt64) - ((p2 &&& (2147483647 : Int32)).toInt64))), .second, .unset, .unset, .unset] [(.ref b49), (.ref b45)])) rfl (by rw [hml]; rfl) (Steps.refl _) (argsL := [(.ref b49)]) (rest := []) (lenOf own_pd10 rfl) rfl (by show 2 * 0 + _ ≤ _; exact Nat.le_of_eq rfl) (hb hby at_91) (fun _ _ => ⟨rfl, rfl, (by decide : 7 + 0 ≤ _), (by decide : 15 + 0 ≤ _)⟩)
      dsimp only [Pt.U, Pt.locs, Pt.cells, Pt.slots] at X52 l52 y52 z52 st52 hQ52
      subst l52 y52 z52
      obtain ⟨rfl, N52q, e52⟩ := hQ52
      have N52 := Fr.app N51 N52q
      refine own_st (V := T52.setTop (mkF m 94 #[.val (.int p1), .val (.int p2), .val (.int p3), .val (.int p4), .val (.int (p1 &&& (2147483647 : Int32))), .val (.int (p2 &&& (2147483647 : Int32))), .val (.ref b43), .val (.ref b45), .val (.ref b49), .val (.long (((p1 &&& (2147483647 : Int32)).toInt64) - ((p2 &&& (2147483647 : Int32)).toInt64))), .second, .unset, .unset, .unset] [(.int (0 : Int32))])) (fun t k => st52.trans k) ?_
      refine own_st (V := T52.setTop (mkF m 96 #[.val (.int p1), .val (.int p2), .val (.int p3), .val (.int p4), .val (.int (p1 &&& (2147483647 : Int32))), .val (.int (p2 &&& (2147483647 : Int32))), .val (.ref b43), .val (.ref b45), .val (.ref b49), .val (.long (((p1 &&& (2147483647 : Int32)).toInt64) - ((p2 &&& (2147483647 : Int32)).toInt64))), .second, .val (.int (0 : Int32)), .unset, .unset] [])) (fun t k => XS.istore X52.here hx rfl (hb hby at_94) rfl (l' := #[.val (.int p1), .val (.int p2), .val (.int p3), .val (.int p4), .val (.int (p1 &&& (2147483647 : Int32))), .val (.int (p2 &&& (2147483647 : Int32))), .val (.ref b43), .val (.ref b45), .val (.ref b49), .val (.long (((p1 &&& (2147483647 : Int32)).toInt64) - ((p2 &&& (2147483647 : Int32)).toInt64))), .second, .val (.int (0 : Int32)), .unset, .unset]) rfl k) ?_
      refine own_st (V := T52.setTop (mkF m 98 #[.val (.int p1), .val (.int p2), .val (.int p3), .val (.int p4), .val (.int (p1 &&& (2147483647 : Int32))), .val (.int (p2 &&& (2147483647 : Int32))), .val (.ref b43), .val (.ref b45), .val (.ref b49), .val (.long (((p1 &&& (2147483647 : Int32)).toInt64) - ((p2 &&& (2147483647 : Int32)).toInt64))), .second, .val (.int (0 : Int32)), .unset, .unset] [(.ref b49)])) (fun t k => XS.aload X52.here hx rfl (hb hby at_96) rfl rfl k) ?_
      refine own_st (V := T52.setTop (mkF m 100 #[.val (.int p1), .val (.int p2), .val (.int p3), .val (.int p4), .val (.int (p1 &&& (2147483647 : Int32))), .val (.int (p2 &&& (2147483647 : Int32))), .val (.ref b43), .val (.ref b45), .val (.ref b49), .val (.long (((p1 &&& (2147483647 : Int32)).toInt64) - ((p2 &&& (2147483647 : Int32)).toInt64))), .second, .val (.int (0 : Int32)), .unset, .unset] [(.ref b45), (.ref b49)])) (fun t k => XS.aload X52.here hx rfl (hb hby at_98) rfl rfl k) ?_
      obtain ⟨cq53, kq53, q53a, q53b, q53c⟩ := isOf hZ e52 Ex51_q
      obtain ⟨_, _, ⟨T53, L53, k53, n53⟩, -, X53, ⟨Lc53, hQ53, l53, y53, z53⟩, st53⟩ := X52.virtualBack hx (y := (⟨"com/example/trust_grade/trustgrade/network/Level", "isAbove", "(Lcom/example/trust_grade/trustgrade/network/Level;)Z"⟩ : MethodName)) (z := (⟨"com/example/trust_grade/trustgrade/network/Level", "isAbove", "(Lcom/example/trust_grade/trustgrade/network/Level;)Z"⟩ : MethodName)) hown (mvT hZ (hw _ (List.mem_of_getElem? (i := 56) rfl))) (mvT hZ (hw _ (List.mem_of_getElem? (i := 57) rfl))) (notFace_of_selects (args := #[]) (mvT hZ (hw _ (List.mem_of_getElem? (i := 59) rfl)))) (mvT hZ (hw _ (List.mem_of_getElem? (i := 59) rfl))) (mvT hZ (hw _ (List.mem_of_getElem? (i := 58) rfl))) (by decide) (backOf (W := 0) (own_ab1 l Z a0 hw [] b49 b45 (p2 &&& (2147483647 : Int32)) (p1 &&& (2147483647 : Int32)) T51.heap n0 Z0_51 Fq51_0 F51_b45_rank hl) hZ (hw _ (List.mem_of_getElem? (i := 60) rfl)) (hw _ (List.mem_of_getElem? (i := 4) rfl)) (by decide) (by decide)) q53a q53c (g := (mkF m 100 #[.val (.int p1), .val (.int p2), .val (.int p3), .val (.int p4), .val (.int (p1 &&& (2147483647 : Int32))), .val (.int (p2 &&& (2147483647 : Int32))), .val (.ref b43), .val (.ref b45), .val (.ref b49), .val (.long (((p1 &&& (2147483647 : Int32)).toInt64) - ((p2 &&& (2147483647 : Int32)).toInt64))), .second, .val (.int (0 : Int32)), .unset, .unset] [(.ref b45), (.ref b49)])) rfl (by rw [hml]; rfl) (Steps.refl _) (argsL := [(.ref b45)]) (rest := []) (lenOf own_pd10 rfl) rfl (by show 2 * 0 + _ ≤ _; exact Nat.le_of_eq rfl) (hb hby at_100) (fun _ _ => ⟨rfl, e52, (by decide : 7 + 0 ≤ _), (by decide : 15 + 0 ≤ _)⟩)
      dsimp only [Pt.U, Pt.locs, Pt.cells, Pt.slots] at X53 l53 y53 z53 st53 hQ53
      subst l53 y53 z53
      obtain ⟨rfl, N53q, e53⟩ := hQ53
      have N53 := Fr.app N52 N53q
      refine own_st (V := T53.setTop (mkF m 103 #[.val (.int p1), .val (.int p2), .val (.int p3), .val (.int p4), .val (.int (p1 &&& (2147483647 : Int32))), .val (.int (p2 &&& (2147483647 : Int32))), .val (.ref b43), .val (.ref b45), .val (.ref b49), .val (.long (((p1 &&& (2147483647 : Int32)).toInt64) - ((p2 &&& (2147483647 : Int32)).toInt64))), .second, .val (.int (0 : Int32)), .unset, .unset] [(.int (1 : Int32))])) (fun t k => st53.trans k) ?_
      refine own_st (V := T53.setTop (mkF m 105 #[.val (.int p1), .val (.int p2), .val (.int p3), .val (.int p4), .val (.int (p1 &&& (2147483647 : Int32))), .val (.int (p2 &&& (2147483647 : Int32))), .val (.ref b43), .val (.ref b45), .val (.ref b49), .val (.long (((p1 &&& (2147483647 : Int32)).toInt64) - ((p2 &&& (2147483647 : Int32)).toInt64))), .second, .val (.int (0 : Int32)), .val (.int (1 : Int32)), .unset] [])) (fun t k => XS.istore X53.here hx rfl (hb hby at_103) rfl (l' := #[.val (.int p1), .val (.int p2), .val (.int p3), .val (.int p4), .val (.int (p1 &&& (2147483647 : Int32))), .val (.int (p2 &&& (2147483647 : Int32))), .val (.ref b43), .val (.ref b45), .val (.ref b49), .val (.long (((p1 &&& (2147483647 : Int32)).toInt64) - ((p2 &&& (2147483647 : Int32)).toInt64))), .second, .val (.int (0 : Int32)), .val (.int (1 : Int32)), .unset]) rfl k) ?_
      refine own_st (V := T53.setTop (mkF m 107 #[.val (.int p1), .val (.int p2), .val (.int p3), .val (.int p4), .val (.int (p1 &&& (2147483647 : Int32))), .val (.int (p2 &&& (2147483647 : Int32))), .val (.ref b43), .val (.ref b45), .val (.ref b49), .val (.long (((p1 &&& (2147483647 : Int32)).toInt64) - ((p2 &&& (2147483647 : Int32)).toInt64))), .second, .val (.int (0 : Int32)), .val (.int (1 : Int32)), .unset] [(.ref b45)])) (fun t k => XS.aload X53.here hx rfl (hb hby at_105) rfl rfl k) ?_
      refine own_st (V := T53.setTop (mkF m 109 #[.val (.int p1), .val (.int p2), .val (.int p3), .val (.int p4), .val (.int (p1 &&& (2147483647 : Int32))), .val (.int (p2 &&& (2147483647 : Int32))), .val (.ref b43), .val (.ref b45), .val (.ref b49), .val (.long (((p1 &&& (2147483647 : Int32)).toInt64) - ((p2 &&& (2147483647 : Int32)).toInt64))), .second, .val (.int (0 : Int32)), .val (.int (1 : Int32)), .unset] [(.ref b45), (.ref b45)])) (fun t k => XS.aload X53.here hx rfl (hb hby at_107) rfl rfl k) ?_
      obtain ⟨cq54, kq54, q54a, q54b, q54c⟩ := isOf hZ e53 Ex51_b45
      obtain ⟨_, _, ⟨T54, L54, k54, n54⟩, -, X54, ⟨Lc54, hQ54, l54, y54, z54⟩, st54⟩ := X53.virtualBack hx (y := (⟨"com/example/trust_grade/trustgrade/network/Level", "isAbove", "(Lcom/example/trust_grade/trustgrade/network/Level;)Z"⟩ : MethodName)) (z := (⟨"com/example/trust_grade/trustgrade/network/Level", "isAbove", "(Lcom/example/trust_grade/trustgrade/network/Level;)Z"⟩ : MethodName)) hown (mvT hZ (hw _ (List.mem_of_getElem? (i := 56) rfl))) (mvT hZ (hw _ (List.mem_of_getElem? (i := 57) rfl))) (notFace_of_selects (args := #[]) (mvT hZ (hw _ (List.mem_of_getElem? (i := 59) rfl)))) (mvT hZ (hw _ (List.mem_of_getElem? (i := 59) rfl))) (mvT hZ (hw _ (List.mem_of_getElem? (i := 58) rfl))) (by decide) (backOf (W := 0) (own_ab0 l Z a0 hw [] b45 b45 (p1 &&& (2147483647 : Int32)) (p1 &&& (2147483647 : Int32)) T51.heap n0 Z0_51 F51_b45_rank F51_b45_rank (own_irr _)) hZ (hw _ (List.mem_of_getElem? (i := 60) rfl)) (hw _ (List.mem_of_getElem? (i := 4) rfl)) (by decide) (by decide)) q54a q54c (g := (mkF m 109 #[.val (.int p1), .val (.int p2), .val (.int p3), .val (.int p4), .val (.int (p1 &&& (2147483647 : Int32))), .val (.int (p2 &&& (2147483647 : Int32))), .val (.ref b43), .val (.ref b45), .val (.ref b49), .val (.long (((p1 &&& (2147483647 : Int32)).toInt64) - ((p2 &&& (2147483647 : Int32)).toInt64))), .second, .val (.int (0 : Int32)), .val (.int (1 : Int32)), .unset] [(.ref b45), (.ref b45)])) rfl (by rw [hml]; rfl) (Steps.refl _) (argsL := [(.ref b45)]) (rest := []) (lenOf own_pd10 rfl) rfl (by show 2 * 0 + _ ≤ _; exact Nat.le_of_eq rfl) (hb hby at_109) (fun _ _ => ⟨rfl, e53, (by decide : 7 + 0 ≤ _), (by decide : 15 + 0 ≤ _)⟩)
      dsimp only [Pt.U, Pt.locs, Pt.cells, Pt.slots] at X54 l54 y54 z54 st54 hQ54
      subst l54 y54 z54
      obtain ⟨rfl, N54q, e54⟩ := hQ54
      have N54 := Fr.app N53 N54q
      refine own_st (V := T54.setTop (mkF m 112 #[.val (.int p1), .val (.int p2), .val (.int p3), .val (.int p4), .val (.int (p1 &&& (2147483647 : Int32))), .val (.int (p2 &&& (2147483647 : Int32))), .val (.ref b43), .val (.ref b45), .val (.ref b49), .val (.long (((p1 &&& (2147483647 : Int32)).toInt64) - ((p2 &&& (2147483647 : Int32)).toInt64))), .second, .val (.int (0 : Int32)), .val (.int (1 : Int32)), .unset] [(.int (0 : Int32))])) (fun t k => st54.trans k) ?_
      refine own_st (V := T54.setTop (mkF m 114 #[.val (.int p1), .val (.int p2), .val (.int p3), .val (.int p4), .val (.int (p1 &&& (2147483647 : Int32))), .val (.int (p2 &&& (2147483647 : Int32))), .val (.ref b43), .val (.ref b45), .val (.ref b49), .val (.long (((p1 &&& (2147483647 : Int32)).toInt64) - ((p2 &&& (2147483647 : Int32)).toInt64))), .second, .val (.int (0 : Int32)), .val (.int (1 : Int32)), .val (.int (0 : Int32))] [])) (fun t k => XS.istore X54.here hx rfl (hb hby at_112) rfl (l' := #[.val (.int p1), .val (.int p2), .val (.int p3), .val (.int p4), .val (.int (p1 &&& (2147483647 : Int32))), .val (.int (p2 &&& (2147483647 : Int32))), .val (.ref b43), .val (.ref b45), .val (.ref b49), .val (.long (((p1 &&& (2147483647 : Int32)).toInt64) - ((p2 &&& (2147483647 : Int32)).toInt64))), .second, .val (.int (0 : Int32)), .val (.int (1 : Int32)), .val (.int (0 : Int32))]) rfl k) ?_
      refine own_st (V := T54.setTop (mkF m 116 #[.val (.int p1), .val (.int p2), .val (.int p3), .val (.int p4), .val (.int (p1 &&& (2147483647 : Int32))), .val (.int (p2 &&& (2147483647 : Int32))), .val (.ref b43), .val (.ref b45), .val (.ref b49), .val (.long (((p1 &&& (2147483647 : Int32)).toInt64) - ((p2 &&& (2147483647 : Int32)).toInt64))), .second, .val (.int (0 : Int32)), .val (.int (1 : Int32)), .val (.int (0 : Int32))] [(.int (0 : Int32))])) (fun t k => XS.iload X54.here hx rfl (hb hby at_114) rfl k) ?_
      refine own_st (V := T54.setTop (mkF m 118 #[.val (.int p1), .val (.int p2), .val (.int p3), .val (.int p4), .val (.int (p1 &&& (2147483647 : Int32))), .val (.int (p2 &&& (2147483647 : Int32))), .val (.ref b43), .val (.ref b45), .val (.ref b49), .val (.long (((p1 &&& (2147483647 : Int32)).toInt64) - ((p2 &&& (2147483647 : Int32)).toInt64))), .second, .val (.int (0 : Int32)), .val (.int (1 : Int32)), .val (.int (0 : Int32))] [(.long (((p1 &&& (2147483647 : Int32)).toInt64) - ((p2 &&& (2147483647 : Int32)).toInt64))), (.int (0 : Int32))])) (fun t k => XS.lload X54.here hx rfl (hb hby at_116) rfl k) ?_
      refine own_st (V := T54.setTop (mkF m 119 #[.val (.int p1), .val (.int p2), .val (.int p3), .val (.int p4), .val (.int (p1 &&& (2147483647 : Int32))), .val (.int (p2 &&& (2147483647 : Int32))), .val (.ref b43), .val (.ref b45), .val (.ref b49), .val (.long (((p1 &&& (2147483647 : Int32)).toInt64) - ((p2 &&& (2147483647 : Int32)).toInt64))), .second, .val (.int (0 : Int32)), .val (.int (1 : Int32)), .val (.int (0 : Int32))] [(.long (0 : Int64)), (.long (((p1 &&& (2147483647 : Int32)).toInt64) - ((p2 &&& (2147483647 : Int32)).toInt64))), (.int (0 : Int32))])) (fun t k => XS.lconst X54.here hx rfl (hb hby at_118) k) ?_
      refine own_st (V := T54.setTop (mkF m 120 #[.val (.int p1), .val (.int p2), .val (.int p3), .val (.int p4), .val (.int (p1 &&& (2147483647 : Int32))), .val (.int (p2 &&& (2147483647 : Int32))), .val (.ref b43), .val (.ref b45), .val (.ref b49), .val (.long (((p1 &&& (2147483647 : Int32)).toInt64) - ((p2 &&& (2147483647 : Int32)).toInt64))), .second, .val (.int (0 : Int32)), .val (.int (1 : Int32)), .val (.int (0 : Int32))] [(.int (lcmpW (((p1 &&& (2147483647 : Int32)).toInt64) - ((p2 &&& (2147483647 : Int32)).toInt64)) (0 : Int64))), (.int (0 : Int32))])) (fun t k => XS.lcmp X54.here hx rfl (hb hby at_119) rfl k) ?_
      refine own_st (V := T54.setTop (mkF m 127 #[.val (.int p1), .val (.int p2), .val (.int p3), .val (.int p4), .val (.int (p1 &&& (2147483647 : Int32))), .val (.int (p2 &&& (2147483647 : Int32))), .val (.ref b43), .val (.ref b45), .val (.ref b49), .val (.long (((p1 &&& (2147483647 : Int32)).toInt64) - ((p2 &&& (2147483647 : Int32)).toInt64))), .second, .val (.int (0 : Int32)), .val (.int (1 : Int32)), .val (.int (0 : Int32))] [(.int (0 : Int32))])) (fun t k => XS.ifYes X54.here hx rfl (pc0 := 120) (pc' := 127) rfl (hb hby at_120) rfl ((if0 _ _).trans (flt (own_lgn hg)).2.2.2) (by decide) (by decide) k) ?_
      refine own_st (V := T54.setTop (mkF m 128 #[.val (.int p1), .val (.int p2), .val (.int p3), .val (.int p4), .val (.int (p1 &&& (2147483647 : Int32))), .val (.int (p2 &&& (2147483647 : Int32))), .val (.ref b43), .val (.ref b45), .val (.ref b49), .val (.long (((p1 &&& (2147483647 : Int32)).toInt64) - ((p2 &&& (2147483647 : Int32)).toInt64))), .second, .val (.int (0 : Int32)), .val (.int (1 : Int32)), .val (.int (0 : Int32))] [(.int (0 : Int32)), (.int (0 : Int32))])) (fun t k => XS.iconst X54.here hx rfl (hb hby at_127) k) ?_
      refine own_st (V := T54.setTop (mkF m 131 #[.val (.int p1), .val (.int p2), .val (.int p3), .val (.int p4), .val (.int (p1 &&& (2147483647 : Int32))), .val (.int (p2 &&& (2147483647 : Int32))), .val (.ref b43), .val (.ref b45), .val (.ref b49), .val (.long (((p1 &&& (2147483647 : Int32)).toInt64) - ((p2 &&& (2147483647 : Int32)).toInt64))), .second, .val (.int (0 : Int32)), .val (.int (1 : Int32)), .val (.int (0 : Int32))] [])) (fun t k => XS.icmpNo X54.here hx rfl (hb hby at_128) rfl (teq (by decide : (0 : Int32) = (0 : Int32))).2 k) ?_
      refine own_st (V := T54.setTop (mkF m 133 #[.val (.int p1), .val (.int p2), .val (.int p3), .val (.int p4), .val (.int (p1 &&& (2147483647 : Int32))), .val (.int (p2 &&& (2147483647 : Int32))), .val (.ref b43), .val (.ref b45), .val (.ref b49), .val (.long (((p1 &&& (2147483647 : Int32)).toInt64) - ((p2 &&& (2147483647 : Int32)).toInt64))), .second, .val (.int (0 : Int32)), .val (.int (1 : Int32)), .val (.int (0 : Int32))] [(.int (1 : Int32))])) (fun t k => XS.iload X54.here hx rfl (hb hby at_131) rfl k) ?_
      refine own_st (V := T54.setTop (mkF m 135 #[.val (.int p1), .val (.int p2), .val (.int p3), .val (.int p4), .val (.int (p1 &&& (2147483647 : Int32))), .val (.int (p2 &&& (2147483647 : Int32))), .val (.ref b43), .val (.ref b45), .val (.ref b49), .val (.long (((p1 &&& (2147483647 : Int32)).toInt64) - ((p2 &&& (2147483647 : Int32)).toInt64))), .second, .val (.int (0 : Int32)), .val (.int (1 : Int32)), .val (.int (0 : Int32))] [(.long (((p1 &&& (2147483647 : Int32)).toInt64) - ((p2 &&& (2147483647 : Int32)).toInt64))), (.int (1 : Int32))])) (fun t k => XS.lload X54.here hx rfl (hb hby at_133) rfl k) ?_
      refine own_st (V := T54.setTop (mkF m 136 #[.val (.int p1), .val (.int p2), .val (.int p3), .val (.int p4), .val (.int (p1 &&& (2147483647 : Int32))), .val (.int (p2 &&& (2147483647 : Int32))), .val (.ref b43), .val (.ref b45), .val (.ref b49), .val (.long (((p1 &&& (2147483647 : Int32)).toInt64) - ((p2 &&& (2147483647 : Int32)).toInt64))), .second, .val (.int (0 : Int32)), .val (.int (1 : Int32)), .val (.int (0 : Int32))] [(.long (0 : Int64)), (.long (((p1 &&& (2147483647 : Int32)).toInt64) - ((p2 &&& (2147483647 : Int32)).toInt64))), (.int (1 : Int32))])) (fun t k => XS.lconst X54.here hx rfl (hb hby at_135) k) ?_
      refine own_st (V := T54.setTop (mkF m 137 #[.val (.int p1), .val (.int p2), .val (.int p3), .val (.int p4), .val (.int (p1 &&& (2147483647 : Int32))), .val (.int (p2 &&& (2147483647 : Int32))), .val (.ref b43), .val (.ref b45), .val (.ref b49), .val (.long (((p1 &&& (2147483647 : Int32)).toInt64) - ((p2 &&& (2147483647 : Int32)).toInt64))), .second, .val (.int (0 : Int32)), .val (.int (1 : Int32)), .val (.int (0 : Int32))] [(.int (lcmpW (((p1 &&& (2147483647 : Int32)).toInt64) - ((p2 &&& (2147483647 : Int32)).toInt64)) (0 : Int64))), (.int (1 : Int32))])) (fun t k => XS.lcmp X54.here hx rfl (hb hby at_136) rfl k) ?_
      refine own_st (V := T54.setTop (mkF m 140 #[.val (.int p1), .val (.int p2), .val (.int p3), .val (.int p4), .val (.int (p1 &&& (2147483647 : Int32))), .val (.int (p2 &&& (2147483647 : Int32))), .val (.ref b43), .val (.ref b45), .val (.ref b49), .val (.long (((p1 &&& (2147483647 : Int32)).toInt64) - ((p2 &&& (2147483647 : Int32)).toInt64))), .second, .val (.int (0 : Int32)), .val (.int (1 : Int32)), .val (.int (0 : Int32))] [(.int (1 : Int32))])) (fun t k => XS.ifNo X54.here hx rfl (hb hby at_137) rfl ((if0 _ _).trans (tlt (own_ll hl)).2.1) k) ?_
      refine own_st (V := T54.setTop (mkF m 141 #[.val (.int p1), .val (.int p2), .val (.int p3), .val (.int p4), .val (.int (p1 &&& (2147483647 : Int32))), .val (.int (p2 &&& (2147483647 : Int32))), .val (.ref b43), .val (.ref b45), .val (.ref b49), .val (.long (((p1 &&& (2147483647 : Int32)).toInt64) - ((p2 &&& (2147483647 : Int32)).toInt64))), .second, .val (.int (0 : Int32)), .val (.int (1 : Int32)), .val (.int (0 : Int32))] [(.int (1 : Int32)), (.int (1 : Int32))])) (fun t k => XS.iconst X54.here hx rfl (hb hby at_140) k) ?_
      refine own_st (V := T54.setTop (mkF m 145 #[.val (.int p1), .val (.int p2), .val (.int p3), .val (.int p4), .val (.int (p1 &&& (2147483647 : Int32))), .val (.int (p2 &&& (2147483647 : Int32))), .val (.ref b43), .val (.ref b45), .val (.ref b49), .val (.long (((p1 &&& (2147483647 : Int32)).toInt64) - ((p2 &&& (2147483647 : Int32)).toInt64))), .second, .val (.int (0 : Int32)), .val (.int (1 : Int32)), .val (.int (0 : Int32))] [(.int (1 : Int32)), (.int (1 : Int32))])) (fun t k => XS.goto X54.here hx rfl (pc0 := 141) (pc' := 145) rfl (hb hby at_141) (by decide) (by decide) k) ?_
      refine own_st (V := T54.setTop (mkF m 148 #[.val (.int p1), .val (.int p2), .val (.int p3), .val (.int p4), .val (.int (p1 &&& (2147483647 : Int32))), .val (.int (p2 &&& (2147483647 : Int32))), .val (.ref b43), .val (.ref b45), .val (.ref b49), .val (.long (((p1 &&& (2147483647 : Int32)).toInt64) - ((p2 &&& (2147483647 : Int32)).toInt64))), .second, .val (.int (0 : Int32)), .val (.int (1 : Int32)), .val (.int (0 : Int32))] [])) (fun t k => XS.icmpNo X54.here hx rfl (hb hby at_145) rfl (teq (by decide : (1 : Int32) = (1 : Int32))).2 k) ?_
      refine own_st (V := T54.setTop (mkF m 150 #[.val (.int p1), .val (.int p2), .val (.int p3), .val (.int p4), .val (.int (p1 &&& (2147483647 : Int32))), .val (.int (p2 &&& (2147483647 : Int32))), .val (.ref b43), .val (.ref b45), .val (.ref b49), .val (.long (((p1 &&& (2147483647 : Int32)).toInt64) - ((p2 &&& (2147483647 : Int32)).toInt64))), .second, .val (.int (0 : Int32)), .val (.int (1 : Int32)), .val (.int (0 : Int32))] [(.int (0 : Int32))])) (fun t k => XS.iload X54.here hx rfl (hb hby at_148) rfl k) ?_
      refine own_st (V := T54.setTop (mkF m 153 #[.val (.int p1), .val (.int p2), .val (.int p3), .val (.int p4), .val (.int (p1 &&& (2147483647 : Int32))), .val (.int (p2 &&& (2147483647 : Int32))), .val (.ref b43), .val (.ref b45), .val (.ref b49), .val (.long (((p1 &&& (2147483647 : Int32)).toInt64) - ((p2 &&& (2147483647 : Int32)).toInt64))), .second, .val (.int (0 : Int32)), .val (.int (1 : Int32)), .val (.int (0 : Int32))] [])) (fun t k => XS.ifNo X54.here hx rfl (hb hby at_150) rfl ((if0 _ _).trans (teq (by decide : (0 : Int32) = (0 : Int32))).2) k) ?_
      refine own_st (V := T54.setTop (mkF m 154 #[.val (.int p1), .val (.int p2), .val (.int p3), .val (.int p4), .val (.int (p1 &&& (2147483647 : Int32))), .val (.int (p2 &&& (2147483647 : Int32))), .val (.ref b43), .val (.ref b45), .val (.ref b49), .val (.long (((p1 &&& (2147483647 : Int32)).toInt64) - ((p2 &&& (2147483647 : Int32)).toInt64))), .second, .val (.int (0 : Int32)), .val (.int (1 : Int32)), .val (.int (0 : Int32))] [(.int (1 : Int32))])) (fun t k => XS.iconst X54.here hx rfl (hb hby at_153) k) ?_
      refine own_st (V := T54.setTop (mkF m 158 #[.val (.int p1), .val (.int p2), .val (.int p3), .val (.int p4), .val (.int (p1 &&& (2147483647 : Int32))), .val (.int (p2 &&& (2147483647 : Int32))), .val (.ref b43), .val (.ref b45), .val (.ref b49), .val (.long (((p1 &&& (2147483647 : Int32)).toInt64) - ((p2 &&& (2147483647 : Int32)).toInt64))), .second, .val (.int (0 : Int32)), .val (.int (1 : Int32)), .val (.int (0 : Int32))] [(.int (1 : Int32))])) (fun t k => XS.goto X54.here hx rfl (pc0 := 154) (pc' := 158) rfl (hb hby at_154) (by decide) (by decide) k) ?_
      exact own_ret X54 hx hlk Bd.returns (by decide +kernel) (Or.inl ⟨rfl, by simp, _, rfl⟩) (hb hby at_158) (by decide) (by decide) ⟨rfl, N54⟩
    · refine own_st (V := s₁.setTop (mkF m 25 #[.val (.int p1), .val (.int p2), .val (.int p3), .val (.int p4), .val (.int (p1 &&& (2147483647 : Int32))), .val (.int (p2 &&& (2147483647 : Int32))), .unset, .unset, .unset, .unset, .unset, .unset, .unset, .unset] [(.int (1 : Int32))])) (fun t k => XS.iconst X0.here hx rfl (hb hby at_24) k) ?_
      obtain ⟨T55, h55, k55, X55, e55, E55, A55, st55⟩ := newP X0 hx hZ (hw _ (List.mem_of_getElem? (i := 1) rfl)) e0 (g := (mkF m 25 #[.val (.int p1), .val (.int p2), .val (.int p3), .val (.int p4), .val (.int (p1 &&& (2147483647 : Int32))), .val (.int (p2 &&& (2147483647 : Int32))), .unset, .unset, .unset, .unset, .unset, .unset, .unset, .unset] [(.int (1 : Int32))])) rfl (hb hby at_25) rfl (by decide) (cap := 1) (by decide) (by decide) (by decide) (by decide)
      obtain ⟨b55, g55⟩ : ∃ z, z = h0.size := ⟨_, rfl⟩
      rw [← g55] at A55 st55
      have gb_b55 : n0 ≤ b55 := Nat.le_trans Z0 (Nat.le_of_eq g55.symm)
      have Z0_55 : n0 ≤ h55.size := Nat.le_trans Z0 E55.1
      have Od55 := Od.ext E55
      have V55_b55 : Arv Z h55 b55 k55 .char (1 : Int32) [(.int (0 : Int32))] (.int (0 : Int32)) := (Arv.new A55 (by decide)).pad (pad_rep [] (.int (0 : Int32)) 1)
      refine own_st (V := T55.setTop (mkF m 27 #[.val (.int p1), .val (.int p2), .val (.int p3), .val (.int p4), .val (.int (p1 &&& (2147483647 : Int32))), .val (.int (p2 &&& (2147483647 : Int32))), .unset, .unset, .unset, .unset, .unset, .unset, .unset, .unset] [(.ref b55)])) (fun t k => st55 _ k) ?_
      refine own_st (V := T55.setTop (mkF m 28 #[.val (.int p1), .val (.int p2), .val (.int p3), .val (.int p4), .val (.int (p1 &&& (2147483647 : Int32))), .val (.int (p2 &&& (2147483647 : Int32))), .unset, .unset, .unset, .unset, .unset, .unset, .unset, .unset] [(.ref b55), (.ref b55)])) (fun t k => XS.dup X55.here hx rfl (hb hby at_27) rfl rfl k) ?_
      refine own_st (V := T55.setTop (mkF m 29 #[.val (.int p1), .val (.int p2), .val (.int p3), .val (.int p4), .val (.int (p1 &&& (2147483647 : Int32))), .val (.int (p2 &&& (2147483647 : Int32))), .unset, .unset, .unset, .unset, .unset, .unset, .unset, .unset] [(.int (0 : Int32)), (.ref b55), (.ref b55)])) (fun t k => XS.iconst X55.here hx rfl (hb hby at_28) k) ?_
      refine own_st (V := T55.setTop (mkF m 30 #[.val (.int p1), .val (.int p2), .val (.int p3), .val (.int p4), .val (.int (p1 &&& (2147483647 : Int32))), .val (.int (p2 &&& (2147483647 : Int32))), .unset, .unset, .unset, .unset, .unset, .unset, .unset, .unset] [(.int p3), (.int (0 : Int32)), (.ref b55), (.ref b55)])) (fun t k => XS.iloadN X55.here hx rfl (hb hby at_29) rfl k) ?_
      refine own_st (V := T55.setTop (mkF m 33 #[.val (.int p1), .val (.int p2), .val (.int p3), .val (.int p4), .val (.int (p1 &&& (2147483647 : Int32))), .val (.int (p2 &&& (2147483647 : Int32))), .unset, .unset, .unset, .unset, .unset, .unset, .unset, .unset] [(.int (255 : Int32)), (.int p3), (.int (0 : Int32)), (.ref b55), (.ref b55)])) (fun t k => XS.sipush X55.here hx rfl (hb hby at_30) k) ?_
      refine own_st (V := T55.setTop (mkF m 34 #[.val (.int p1), .val (.int p2), .val (.int p3), .val (.int p4), .val (.int (p1 &&& (2147483647 : Int32))), .val (.int (p2 &&& (2147483647 : Int32))), .unset, .unset, .unset, .unset, .unset, .unset, .unset, .unset] [(.int (p3 &&& (255 : Int32))), (.int (0 : Int32)), (.ref b55), (.ref b55)])) (fun t k => XS.iand X55.here hx rfl (hb hby at_33) rfl k) ?_
      refine own_st (V := T55.setTop (mkF m 35 #[.val (.int p1), .val (.int p2), .val (.int p3), .val (.int p4), .val (.int (p1 &&& (2147483647 : Int32))), .val (.int (p2 &&& (2147483647 : Int32))), .unset, .unset, .unset, .unset, .unset, .unset, .unset, .unset] [(.int ((p3 &&& (255 : Int32)).toUInt32.toUInt16.toUInt32.toInt32)), (.int (0 : Int32)), (.ref b55), (.ref b55)])) (fun t k => XS.i2c X55.here hx rfl (hb hby at_34) rfl k) ?_
      have Vk56 := V55_b55
      obtain ⟨cl56, Ar56, qk56, sz56, nn56, hs56, fs56⟩ := Vk56
      have hin56 : ¬ ((0 : Int32) < 0 ∨ cl56.slots.size ≤ ((0 : Int32)).toNatClampNeg) := inb_of sz56 ⟨by decide, by decide⟩
      obtain ⟨T56, h56, X56, e56, W56, st56⟩ := stC X55 hx hZ e55 Ar56 (j := (0 : Int32)) hin56 (g := (mkF m 35 #[.val (.int p1), .val (.int p2), .val (.int p3), .val (.int p4), .val (.int (p1 &&& (2147483647 : Int32))), .val (.int (p2 &&& (2147483647 : Int32))), .unset, .unset, .unset, .unset, .unset, .unset, .unset, .unset] [(.int ((p3 &&& (255 : Int32)).toUInt32.toUInt16.toUInt32.toInt32)), (.int (0 : Int32)), (.ref b55), (.ref b55)])) rfl rfl (hb hby at_35)
      have V56_b55 := Arv.set Ar56 qk56 sz56 nn56 hs56 fs56 (fits_nar_char _) W56 0 rfl (Nat.le_of_ble_eq_true rfl)
      have N56 := Fr.snoc X56 N0 gb_b55
      have Z0_56 : n0 ≤ h56.size := by rw [W56.size]; exact Z0_55
      have Od56 := Od55.wr W56 gb_b55
      refine own_st (V := T56.setTop (mkF m 36 #[.val (.int p1), .val (.int p2), .val (.int p3), .val (.int p4), .val (.int (p1 &&& (2147483647 : Int32))), .val (.int (p2 &&& (2147483647 : Int32))), .unset, .unset, .unset, .unset, .unset, .unset, .unset, .unset] [(.ref b55)])) (fun t k => st56 _ k) ?_
      refine own_st (V := T56.setTop (mkF m 38 #[.val (.int p1), .val (.int p2), .val (.int p3), .val (.int p4), .val (.int (p1 &&& (2147483647 : Int32))), .val (.int (p2 &&& (2147483647 : Int32))), .val (.ref b55), .unset, .unset, .unset, .unset, .unset, .unset, .unset] [])) (fun t k => XS.astore X56.here hx rfl (hb hby at_36) rfl rfl (l' := #[.val (.int p1), .val (.int p2), .val (.int p3), .val (.int p4), .val (.int (p1 &&& (2147483647 : Int32))), .val (.int (p2 &&& (2147483647 : Int32))), .val (.ref b55), .unset, .unset, .unset, .unset, .unset, .unset, .unset]) rfl k) ?_
      obtain ⟨T57, h57, X57, e57, E57, A57, D57, -, st57⟩ := newO X56 hx hZ hown (hw _ (List.mem_of_getElem? (i := 2) rfl)) (hw _ (List.mem_of_getElem? (i := 3) rfl)) (hw _ (List.mem_of_getElem? (i := 4) rfl)) e56 (g := (mkF m 38 #[.val (.int p1), .val (.int p2), .val (.int p3), .val (.int p4), .val (.int (p1 &&& (2147483647 : Int32))), .val (.int (p2 &&& (2147483647 : Int32))), .val (.ref b55), .unset, .unset, .unset, .unset, .unset, .unset, .unset] [])) rfl (hb hby at_38) (by decide) (by decide)
      obtain ⟨b57, g57⟩ : ∃ z, z = h56.size := ⟨_, rfl⟩
      rw [← g57] at A57 D57 st57
      have gb_b57 : n0 ≤ b57 := Nat.le_trans Z0_56 (Nat.le_of_eq g57.symm)
      have Z0_57 : n0 ≤ h57.size := Nat.le_trans Z0_56 E57.1
      have ne_b55_b57 : b55 ≠ b57 := Nat.ne_of_lt (Nat.lt_of_lt_of_le V56_b55.lt (Nat.le_of_eq g57.symm))
      have V57_b55 := V56_b55.ext E57
      have Od57 := Od56.ext E57
      have F57_b57_name : Fld Z h57 b57 "com/example/trust_grade/trustgrade/network/Level" "name" "Ljava/lang/String;" .null := D57 (Or.inr (hw _ (List.mem_of_getElem? (i := 39) rfl))) (ty := (.object "java/lang/String")) (by decide)
      have F57_b57_rank : Fld Z h57 b57 "com/example/trust_grade/trustgrade/network/Level" "rank" "I" (.int (0 : Int32)) := D57 (Or.inr (hw _ (List.mem_of_getElem? (i := 41) rfl))) (ty := .int) (by decide)
      refine own_st (V := T57.setTop (mkF m 41 #[.val (.int p1), .val (.int p2), .val (.int p3), .val (.int p4), .val (.int (p1 &&& (2147483647 : Int32))), .val (.int (p2 &&& (2147483647 : Int32))), .val (.ref b55), .unset, .unset, .unset, .unset, .unset, .unset, .unset] [(.ref b57)])) (fun t k => st57 _ k) ?_
      refine own_st (V := T57.setTop (mkF m 42 #[.val (.int p1), .val (.int p2), .val (.int p3), .val (.int p4), .val (.int (p1 &&& (2147483647 : Int32))), .val (.int (p2 &&& (2147483647 : Int32))), .val (.ref b55), .unset, .unset, .unset, .unset, .unset, .unset, .unset] [(.ref b57), (.ref b57)])) (fun t k => XS.dup X57.here hx rfl (hb hby at_41) rfl rfl k) ?_
      obtain ⟨T58, h58, X58, e58, E58, A58, D58, -, st58⟩ := newO X57 hx hZ hown (hw _ (List.mem_of_getElem? (i := 5) rfl)) (hw _ (List.mem_of_getElem? (i := 6) rfl)) (hw _ (List.mem_of_getElem? (i := 7) rfl)) e57 (g := (mkF m 42 #[.val (.int p1), .val (.int p2), .val (.int p3), .val (.int p4), .val (.int (p1 &&& (2147483647 : Int32))), .val (.int (p2 &&& (2147483647 : Int32))), .val (.ref b55), .unset, .unset, .unset, .unset, .unset, .unset, .unset] [(.ref b57), (.ref b57)])) rfl (hb hby at_42) (by decide) (by decide)
      obtain ⟨b58, g58⟩ : ∃ z, z = h57.size := ⟨_, rfl⟩
      rw [← g58] at A58 D58 st58
      have gb_b58 : n0 ≤ b58 := Nat.le_trans Z0_57 (Nat.le_of_eq g58.symm)
      have Z0_58 : n0 ≤ h58.size := Nat.le_trans Z0_57 E58.1
      have ne_b55_b58 : b55 ≠ b58 := Nat.ne_of_lt (Nat.lt_of_lt_of_le V57_b55.lt (Nat.le_of_eq g58.symm))
      have ne_b57_b58 : b57 ≠ b58 := Nat.ne_of_lt (Nat.lt_of_lt_of_le A57.lt (Nat.le_of_eq g58.symm))
      have F58_b57_name := F57_b57_name.ext E58
      have F58_b57_rank := F57_b57_rank.ext E58
      have Ex58_b57 := A57.ext E58
      have V58_b55 := V57_b55.ext E58
      have Od58 := Od57.ext E58
      have F58_b58_coder : Fld Z h58 b58 "java/lang/String" "coder" "B" (.int (0 : Int32)) := D58 (Or.inr (hw _ (List.mem_of_getElem? (i := 31) rfl))) (ty := .byte) (by decide)
      have F58_b58_value : Fld Z h58 b58 "java/lang/String" "value" "[B" .null := D58 (Or.inr (hw _ (List.mem_of_getElem? (i := 33) rfl))) (ty := (.array .byte)) (by decide)
      refine own_st (V := T58.setTop (mkF m 45 #[.val (.int p1), .val (.int p2), .val (.int p3), .val (.int p4), .val (.int (p1 &&& (2147483647 : Int32))), .val (.int (p2 &&& (2147483647 : Int32))), .val (.ref b55), .unset, .unset, .unset, .unset, .unset, .unset, .unset] [(.ref b58), (.ref b57), (.ref b57)])) (fun t k => st58 _ k) ?_
      refine own_st (V := T58.setTop (mkF m 46 #[.val (.int p1), .val (.int p2), .val (.int p3), .val (.int p4), .val (.int (p1 &&& (2147483647 : Int32))), .val (.int (p2 &&& (2147483647 : Int32))), .val (.ref b55), .unset, .unset, .unset, .unset, .unset, .unset, .unset] [(.ref b58), (.ref b58), (.ref b57), (.ref b57)])) (fun t k => XS.dup X58.here hx rfl (hb hby at_45) rfl rfl k) ?_
      refine own_st (V := T58.setTop (mkF m 48 #[.val (.int p1), .val (.int p2), .val (.int p3), .val (.int p4), .val (.int (p1 &&& (2147483647 : Int32))), .val (.int (p2 &&& (2147483647 : Int32))), .val (.ref b55), .unset, .unset, .unset, .unset, .unset, .unset, .unset] [(.ref b55), (.ref b58), (.ref b58), (.ref b57), (.ref b57)])) (fun t k => XS.aload X58.here hx rfl (hb hby at_46) rfl rfl k) ?_
      obtain ⟨_, _, ⟨T59, L59, k59, n59⟩, -, X59, ⟨Lc59, hQ59, l59, y59, z59⟩, st59⟩ := X58.specialBack hx (y := (⟨"java/lang/String", "<init>", "([C)V"⟩ : MethodName)) rfl hown (mvT hZ (hw _ (List.mem_of_getElem? (i := 8) rfl))) (mvT hZ (hw _ (List.mem_of_getElem? (i := 9) rfl))) (mvT hZ (hw _ (List.mem_of_getElem? (i := 10) rfl))) (by decide) (backOf (W := 3) (own_s1_1 l Z a0 hw [] b58 b55 k55 cs (nar .char ((p3 &&& (255 : Int32)).toUInt32.toUInt16.toUInt32.toInt32)) h58 n0 Z0_58 Od58 SC hcs A58 gb_b58 F58_b58_value F58_b58_coder V58_b55 ne_b55_b58 (own_ch2 p3)) hZ (hw _ (List.mem_of_getElem? (i := 10) rfl)) (hw _ (List.mem_of_getElem? (i := 7) rfl)) (by decide) (by decide)) (g := (mkF m 48 #[.val (.int p1), .val (.int p2), .val (.int p3), .val (.int p4), .val (.int (p1 &&& (2147483647 : Int32))), .val (.int (p2 &&& (2147483647 : Int32))), .val (.ref b55), .unset, .unset, .unset, .unset, .unset, .unset, .unset] [(.ref b55), (.ref b58), (.ref b58), (.ref b57), (.ref b57)])) rfl (by rw [hml]; rfl) (Steps.refl _) (a := b58) (argsL := [(.ref b55)]) (rest := [(.ref b58), (.ref b57), (.ref b57)]) (lenOf own_pd7 rfl) rfl (by show 2 * 0 + _ ≤ _; exact Nat.le_of_eq rfl) (hb hby at_48) (fun _ _ => ⟨rfl, e58, (by decide : 3 + 1 ≤ _), (by decide : 7 + 1 ≤ _)⟩)
      dsimp only [Pt.U, Pt.locs, Pt.cells, Pt.slots] at X59 l59 y59 z59 st59 hQ59
      subst l59 y59 z59
      obtain ⟨rfl, N59q, K59, Ex59_q, t59, kbt59, vst59, szt59', Fq59_0, Vq59⟩ := hQ59
      have N59 := Fr.app N56 N59q
      have Z0_59 : n0 ≤ T59.heap.size := Nat.le_trans Z0_58 K59.1
      have ne_b57_t59 : b57 ≠ t59 := Nat.ne_of_lt (Nat.lt_of_lt_of_le Ex58_b57.lt szt59')
      have ne_b58_t59 : b58 ≠ t59 := Nat.ne_of_lt (Nat.lt_of_lt_of_le A58.lt szt59')
      have ne_b55_t59 : b55 ≠ t59 := Nat.ne_of_lt (Nat.lt_of_lt_of_le V58_b55.lt szt59')
      have F59_b57_name := F58_b57_name.keep K59 (ninS ne_b57_b58 nin0)
      have F59_b57_rank := F58_b57_rank.keep K59 (ninS ne_b57_b58 nin0)
      have Ex59_b57 := Ex58_b57.keep K59
      have Ex59_b58 := A58.keep K59
      have V59_b55 := V58_b55.keep K59 (ninS ne_b55_b58 nin0)
      have Od59 := Od58.keep K59 (allS gb_b58 all0)
      refine own_st (V := T59.setTop (mkF m 51 #[.val (.int p1), .val (.int p2), .val (.int p3), .val (.int p4), .val (.int (p1 &&& (2147483647 : Int32))), .val (.int (p2 &&& (2147483647 : Int32))), .val (.ref b55), .unset, .unset, .unset, .unset, .unset, .unset, .unset] [(.ref b58), (.ref b57), (.ref b57)])) (fun t k => st59.trans k) ?_
      refine own_st (V := T59.setTop (mkF m 53 #[.val (.int p1), .val (.int p2), .val (.int p3), .val (.int p4), .val (.int (p1 &&& (2147483647 : Int32))), .val (.int (p2 &&& (2147483647 : Int32))), .val (.ref b55), .unset, .unset, .unset, .unset, .unset, .unset, .unset] [(.int (p1 &&& (2147483647 : Int32))), (.ref b58), (.ref b57), (.ref b57)])) (fun t k => XS.iload X59.here hx rfl (hb hby at_51) rfl k) ?_
      obtain ⟨_, _, ⟨T60, L60, k60, n60⟩, -, X60, ⟨Lc60, hQ60, l60, y60, z60⟩, st60⟩ := X59.specialBack hx (y := (⟨"com/example/trust_grade/trustgrade/network/Level", "<init>", "(Ljava/lang/String;I)V"⟩ : MethodName)) rfl hown (mvT hZ (hw _ (List.mem_of_getElem? (i := 34) rfl))) (mvT hZ (hw _ (List.mem_of_getElem? (i := 35) rfl))) (mvT hZ (hw _ (List.mem_of_getElem? (i := 36) rfl))) (by decide) (backOf (W := 1) (own_li l Z a0 hw [] b57 b58 (p1 &&& (2147483647 : Int32)) T59.heap n0 Z0_59 F59_b57_name F59_b57_rank Ex59_b57 gb_b57) hZ (hw _ (List.mem_of_getElem? (i := 36) rfl)) (hw _ (List.mem_of_getElem? (i := 4) rfl)) (by decide) (by decide)) (g := (mkF m 53 #[.val (.int p1), .val (.int p2), .val (.int p3), .val (.int p4), .val (.int (p1 &&& (2147483647 : Int32))), .val (.int (p2 &&& (2147483647 : Int32))), .val (.ref b55), .unset, .unset, .unset, .unset, .unset, .unset, .unset] [(.int (p1 &&& (2147483647 : Int32))), (.ref b58), (.ref b57), (.ref b57)])) rfl (by rw [hml]; rfl) (Steps.refl _) (a := b57) (argsL := [(.ref b58), (.int (p1 &&& (2147483647 : Int32)))]) (rest := [(.ref b57)]) (lenOf own_pd8 rfl) rfl (by show 2 * 0 + _ ≤ _; exact Nat.le_of_eq rfl) (hb hby at_53) (fun _ _ => ⟨rfl, rfl, (by decide : 4 + 0 ≤ _), (by decide : 8 + 0 ≤ _)⟩)
      dsimp only [Pt.U, Pt.locs, Pt.cells, Pt.slots] at X60 l60 y60 z60 st60 hQ60
      subst l60 y60 z60
      obtain ⟨rfl, N60q, K60, Ex60_q, Fq60_0⟩ := hQ60
      have N60 := Fr.app N59 N60q
      have Z0_60 : n0 ≤ T60.heap.size := Nat.le_trans Z0_59 K60.1
      have F60_b58_value := Fq59_0.keep K60 (ninS (Ne.symm ne_b57_b58) nin0)
      have Ex60_b57 := Ex59_b57.keep K60
      have Ex60_b58 := Ex59_q.keep K60
      have V60_b55 := V59_b55.keep K60 (ninS ne_b55_b57 nin0)
      have V60_t59 := Vq59.keep K60 (ninS (Ne.symm ne_b57_t59) nin0)
      have Od60 := Od59.keep K60 (allS gb_b57 all0)
      refine own_st (V := T60.setTop (mkF m 56 #[.val (.int p1), .val (.int p2), .val (.int p3), .val (.int p4), .val (.int (p1 &&& (2147483647 : Int32))), .val (.int (p2 &&& (2147483647 : Int32))), .val (.ref b55), .unset, .unset, .unset, .unset, .unset, .unset, .unset] [(.ref b57)])) (fun t k => st60.trans k) ?_
      refine own_st (V := T60.setTop (mkF m 58 #[.val (.int p1), .val (.int p2), .val (.int p3), .val (.int p4), .val (.int (p1 &&& (2147483647 : Int32))), .val (.int (p2 &&& (2147483647 : Int32))), .val (.ref b55), .val (.ref b57), .unset, .unset, .unset, .unset, .unset, .unset] [])) (fun t k => XS.astore X60.here hx rfl (hb hby at_56) rfl rfl (l' := #[.val (.int p1), .val (.int p2), .val (.int p3), .val (.int p4), .val (.int (p1 &&& (2147483647 : Int32))), .val (.int (p2 &&& (2147483647 : Int32))), .val (.ref b55), .val (.ref b57), .unset, .unset, .unset, .unset, .unset, .unset]) rfl k) ?_
      obtain ⟨T61, h61, X61, e61, E61, A61, D61, -, st61⟩ := newO X60 hx hZ hown (hw _ (List.mem_of_getElem? (i := 2) rfl)) (hw _ (List.mem_of_getElem? (i := 3) rfl)) (hw _ (List.mem_of_getElem? (i := 4) rfl)) rfl (g := (mkF m 58 #[.val (.int p1), .val (.int p2), .val (.int p3), .val (.int p4), .val (.int (p1 &&& (2147483647 : Int32))), .val (.int (p2 &&& (2147483647 : Int32))), .val (.ref b55), .val (.ref b57), .unset, .unset, .unset, .unset, .unset, .unset] [])) rfl (hb hby at_58) (by decide) (by decide)
      obtain ⟨b61, g61⟩ : ∃ z, z = T60.heap.size := ⟨_, rfl⟩
      rw [← g61] at A61 D61 st61
      have gb_b61 : n0 ≤ b61 := Nat.le_trans Z0_60 (Nat.le_of_eq g61.symm)
      have Z0_61 : n0 ≤ h61.size := Nat.le_trans Z0_60 E61.1
      have ne_b55_b61 : b55 ≠ b61 := Nat.ne_of_lt (Nat.lt_of_lt_of_le V60_b55.lt (Nat.le_of_eq g61.symm))
      have ne_t59_b61 : t59 ≠ b61 := Nat.ne_of_lt (Nat.lt_of_lt_of_le V60_t59.lt (Nat.le_of_eq g61.symm))
      have ne_b57_b61 : b57 ≠ b61 := Nat.ne_of_lt (Nat.lt_of_lt_of_le Ex60_q.lt (Nat.le_of_eq g61.symm))
      have ne_b58_b61 : b58 ≠ b61 := Nat.ne_of_lt (Nat.lt_of_lt_of_le Ex60_b58.lt (Nat.le_of_eq g61.symm))
      have F61_b58_value := F60_b58_value.ext E61
      have F61_b57_rank := Fq60_0.ext E61
      have Ex61_b57 := Ex60_q.ext E61
      have Ex61_b58 := Ex60_b58.ext E61
      have V61_b55 := V60_b55.ext E61
      have V61_t59 := V60_t59.ext E61
      have Od61 := Od60.ext E61
      have F61_b61_name : Fld Z h61 b61 "com/example/trust_grade/trustgrade/network/Level" "name" "Ljava/lang/String;" .null := D61 (Or.inr (hw _ (List.mem_of_getElem? (i := 39) rfl))) (ty := (.object "java/lang/String")) (by decide)
      have F61_b61_rank : Fld Z h61 b61 "com/example/trust_grade/trustgrade/network/Level" "rank" "I" (.int (0 : Int32)) := D61 (Or.inr (hw _ (List.mem_of_getElem? (i := 41) rfl))) (ty := .int) (by decide)
      refine own_st (V := T61.setTop (mkF m 61 #[.val (.int p1), .val (.int p2), .val (.int p3), .val (.int p4), .val (.int (p1 &&& (2147483647 : Int32))), .val (.int (p2 &&& (2147483647 : Int32))), .val (.ref b55), .val (.ref b57), .unset, .unset, .unset, .unset, .unset, .unset] [(.ref b61)])) (fun t k => st61 _ k) ?_
      refine own_st (V := T61.setTop (mkF m 62 #[.val (.int p1), .val (.int p2), .val (.int p3), .val (.int p4), .val (.int (p1 &&& (2147483647 : Int32))), .val (.int (p2 &&& (2147483647 : Int32))), .val (.ref b55), .val (.ref b57), .unset, .unset, .unset, .unset, .unset, .unset] [(.ref b61), (.ref b61)])) (fun t k => XS.dup X61.here hx rfl (hb hby at_61) rfl rfl k) ?_
      refine own_st (V := T61.setTop (mkF m 63 #[.val (.int p1), .val (.int p2), .val (.int p3), .val (.int p4), .val (.int (p1 &&& (2147483647 : Int32))), .val (.int (p2 &&& (2147483647 : Int32))), .val (.ref b55), .val (.ref b57), .unset, .unset, .unset, .unset, .unset, .unset] [(.int p4), (.ref b61), (.ref b61)])) (fun t k => XS.iloadN X61.here hx rfl (hb hby at_62) rfl k) ?_
      refine own_st (V := T61.setTop (mkF m 66 #[.val (.int p1), .val (.int p2), .val (.int p3), .val (.int p4), .val (.int (p1 &&& (2147483647 : Int32))), .val (.int (p2 &&& (2147483647 : Int32))), .val (.ref b55), .val (.ref b57), .unset, .unset, .unset, .unset, .unset, .unset] [(.int (255 : Int32)), (.int p4), (.ref b61), (.ref b61)])) (fun t k => XS.sipush X61.here hx rfl (hb hby at_63) k) ?_
      refine own_st (V := T61.setTop (mkF m 67 #[.val (.int p1), .val (.int p2), .val (.int p3), .val (.int p4), .val (.int (p1 &&& (2147483647 : Int32))), .val (.int (p2 &&& (2147483647 : Int32))), .val (.ref b55), .val (.ref b57), .unset, .unset, .unset, .unset, .unset, .unset] [(.int (p4 &&& (255 : Int32))), (.ref b61), (.ref b61)])) (fun t k => XS.iand X61.here hx rfl (hb hby at_66) rfl k) ?_
      refine own_st (V := T61.setTop (mkF m 68 #[.val (.int p1), .val (.int p2), .val (.int p3), .val (.int p4), .val (.int (p1 &&& (2147483647 : Int32))), .val (.int (p2 &&& (2147483647 : Int32))), .val (.ref b55), .val (.ref b57), .unset, .unset, .unset, .unset, .unset, .unset] [(.int ((p4 &&& (255 : Int32)).toUInt32.toUInt16.toUInt32.toInt32)), (.ref b61), (.ref b61)])) (fun t k => XS.i2c X61.here hx rfl (hb hby at_67) rfl k) ?_
      obtain ⟨_, _, ⟨T62, L62, k62, n62⟩, -, X62, ⟨Lc62, hQ62, l62, y62, z62⟩, st62⟩ := Jvm.LawKit.callS X61 hx (y := (⟨"java/lang/String", "valueOf", "(C)Ljava/lang/String;"⟩ : MethodName)) hown (mvT hZ (hw _ (List.mem_of_getElem? (i := 42) rfl))) (mvT hZ (hw _ (List.mem_of_getElem? (i := 43) rfl))) (mvT hZ (hw _ (List.mem_of_getElem? (i := 7) rfl))) (mvT hZ (hw _ (List.mem_of_getElem? (i := 44) rfl))) (by decide) (backOf (W := 2) (own_sv l Z a0 hw [] ((p4 &&& (255 : Int32)).toUInt32.toUInt16.toUInt32.toInt32) cs h61 n0 Z0_61 Od61 SC hcs (own_ch p4)) hZ (hw _ (List.mem_of_getElem? (i := 44) rfl)) (hw _ (List.mem_of_getElem? (i := 7) rfl)) (by decide) (by decide)) (g := (mkF m 68 #[.val (.int p1), .val (.int p2), .val (.int p3), .val (.int p4), .val (.int (p1 &&& (2147483647 : Int32))), .val (.int (p2 &&& (2147483647 : Int32))), .val (.ref b55), .val (.ref b57), .unset, .unset, .unset, .unset, .unset, .unset] [(.int ((p4 &&& (255 : Int32)).toUInt32.toUInt16.toUInt32.toInt32)), (.ref b61), (.ref b61)])) rfl (by rw [hml]; rfl) (argsL := [(.int ((p4 &&& (255 : Int32)).toUInt32.toUInt16.toUInt32.toInt32))]) (rest := [(.ref b61), (.ref b61)]) (lenOf own_pd9 rfl) rfl (by show 2 * 0 + _ ≤ _; exact Nat.le_of_eq rfl) (hb hby at_68) (fun _ _ => ⟨rfl, e61, (by decide : 5 + 2 ≤ _), (by decide : 10 + 5 ≤ _)⟩)
      dsimp only [Pt.U, Pt.locs, Pt.cells, Pt.slots] at X62 l62 y62 z62 st62 hQ62
      subst l62 y62 z62
      obtain ⟨t62, rfl, N62q, K62⟩ := hQ62
      have N62 := Fr.app N60 N62q
      have Z0_62 : n0 ≤ T62.heap.size := Nat.le_trans Z0_61 K62.1
      have F62_b58_value := F61_b58_value.keep K62 nin0
      have F62_b57_rank := F61_b57_rank.keep K62 nin0
      have F62_b61_name := F61_b61_name.keep K62 nin0
      have F62_b61_rank := F61_b61_rank.keep K62 nin0
      have Ex62_b57 := Ex61_b57.keep K62
      have Ex62_b58 := Ex61_b58.keep K62
      have Ex62_b61 := A61.keep K62
      have V62_b55 := V61_b55.keep K62 nin0
      have V62_t59 := V61_t59.keep K62 nin0
      have Od62 := Od61.keep K62 all0
      refine own_st (V := T62.setTop (mkF m 71 #[.val (.int p1), .val (.int p2), .val (.int p3), .val (.int p4), .val (.int (p1 &&& (2147483647 : Int32))), .val (.int (p2 &&& (2147483647 : Int32))), .val (.ref b55), .val (.ref b57), .unset, .unset, .unset, .unset, .unset, .unset] [(.ref t62), (.ref b61), (.ref b61)])) (fun t k => st62 _ k) ?_
      refine own_st (V := T62.setTop (mkF m 73 #[.val (.int p1), .val (.int p2), .val (.int p3), .val (.int p4), .val (.int (p1 &&& (2147483647 : Int32))), .val (.int (p2 &&& (2147483647 : Int32))), .val (.ref b55), .val (.ref b57), .unset, .unset, .unset, .unset, .unset, .unset] [(.int (p2 &&& (2147483647 : Int32))), (.ref t62), (.ref b61), (.ref b61)])) (fun t k => XS.iload X62.here hx rfl (hb hby at_71) rfl k) ?_
      obtain ⟨_, _, ⟨T63, L63, k63, n63⟩, -, X63, ⟨Lc63, hQ63, l63, y63, z63⟩, st63⟩ := X62.specialBack hx (y := (⟨"com/example/trust_grade/trustgrade/network/Level", "<init>", "(Ljava/lang/String;I)V"⟩ : MethodName)) rfl hown (mvT hZ (hw _ (List.mem_of_getElem? (i := 34) rfl))) (mvT hZ (hw _ (List.mem_of_getElem? (i := 35) rfl))) (mvT hZ (hw _ (List.mem_of_getElem? (i := 36) rfl))) (by decide) (backOf (W := 1) (own_li l Z a0 hw [] b61 t62 (p2 &&& (2147483647 : Int32)) T62.heap n0 Z0_62 F62_b61_name F62_b61_rank Ex62_b61 gb_b61) hZ (hw _ (List.mem_of_getElem? (i := 36) rfl)) (hw _ (List.mem_of_getElem? (i := 4) rfl)) (by decide) (by decide)) (g := (mkF m 73 #[.val (.int p1), .val (.int p2), .val (.int p3), .val (.int p4), .val (.int (p1 &&& (2147483647 : Int32))), .val (.int (p2 &&& (2147483647 : Int32))), .val (.ref b55), .val (.ref b57), .unset, .unset, .unset, .unset, .unset, .unset] [(.int (p2 &&& (2147483647 : Int32))), (.ref t62), (.ref b61), (.ref b61)])) rfl (by rw [hml]; rfl) (Steps.refl _) (a := b61) (argsL := [(.ref t62), (.int (p2 &&& (2147483647 : Int32)))]) (rest := [(.ref b61)]) (lenOf own_pd8 rfl) rfl (by show 2 * 0 + _ ≤ _; exact Nat.le_of_eq rfl) (hb hby at_73) (fun _ _ => ⟨rfl, rfl, (by decide : 7 + 0 ≤ _), (by decide : 15 + 0 ≤ _)⟩)
      dsimp only [Pt.U, Pt.locs, Pt.cells, Pt.slots] at X63 l63 y63 z63 st63 hQ63
      subst l63 y63 z63
      obtain ⟨rfl, N63q, K63, Ex63_q, Fq63_0⟩ := hQ63
      have N63 := Fr.app N62 N63q
      have Z0_63 : n0 ≤ T63.heap.size := Nat.le_trans Z0_62 K63.1
      have F63_b58_value := F62_b58_value.keep K63 (ninS ne_b58_b61 nin0)
      have F63_b57_rank := F62_b57_rank.keep K63 (ninS ne_b57_b61 nin0)
      have Ex63_b57 := Ex62_b57.keep K63
      have Ex63_b58 := Ex62_b58.keep K63
      have Ex63_b61 := Ex62_b61.keep K63
      have V63_b55 := V62_b55.keep K63 (ninS ne_b55_b61 nin0)
      have V63_t59 := V62_t59.keep K63 (ninS ne_t59_b61 nin0)
      have Od63 := Od62.keep K63 (allS gb_b61 all0)
      refine own_st (V := T63.setTop (mkF m 76 #[.val (.int p1), .val (.int p2), .val (.int p3), .val (.int p4), .val (.int (p1 &&& (2147483647 : Int32))), .val (.int (p2 &&& (2147483647 : Int32))), .val (.ref b55), .val (.ref b57), .unset, .unset, .unset, .unset, .unset, .unset] [(.ref b61)])) (fun t k => st63.trans k) ?_
      refine own_st (V := T63.setTop (mkF m 78 #[.val (.int p1), .val (.int p2), .val (.int p3), .val (.int p4), .val (.int (p1 &&& (2147483647 : Int32))), .val (.int (p2 &&& (2147483647 : Int32))), .val (.ref b55), .val (.ref b57), .val (.ref b61), .unset, .unset, .unset, .unset, .unset] [])) (fun t k => XS.astore X63.here hx rfl (hb hby at_76) rfl rfl (l' := #[.val (.int p1), .val (.int p2), .val (.int p3), .val (.int p4), .val (.int (p1 &&& (2147483647 : Int32))), .val (.int (p2 &&& (2147483647 : Int32))), .val (.ref b55), .val (.ref b57), .val (.ref b61), .unset, .unset, .unset, .unset, .unset]) rfl k) ?_
      refine own_st (V := T63.setTop (mkF m 80 #[.val (.int p1), .val (.int p2), .val (.int p3), .val (.int p4), .val (.int (p1 &&& (2147483647 : Int32))), .val (.int (p2 &&& (2147483647 : Int32))), .val (.ref b55), .val (.ref b57), .val (.ref b61), .unset, .unset, .unset, .unset, .unset] [(.int (p1 &&& (2147483647 : Int32)))])) (fun t k => XS.iload X63.here hx rfl (hb hby at_78) rfl k) ?_
      refine own_st (V := T63.setTop (mkF m 81 #[.val (.int p1), .val (.int p2), .val (.int p3), .val (.int p4), .val (.int (p1 &&& (2147483647 : Int32))), .val (.int (p2 &&& (2147483647 : Int32))), .val (.ref b55), .val (.ref b57), .val (.ref b61), .unset, .unset, .unset, .unset, .unset] [(.long ((p1 &&& (2147483647 : Int32)).toInt64))])) (fun t k => XS.i2l X63.here hx rfl (hb hby at_80) rfl k) ?_
      refine own_st (V := T63.setTop (mkF m 83 #[.val (.int p1), .val (.int p2), .val (.int p3), .val (.int p4), .val (.int (p1 &&& (2147483647 : Int32))), .val (.int (p2 &&& (2147483647 : Int32))), .val (.ref b55), .val (.ref b57), .val (.ref b61), .unset, .unset, .unset, .unset, .unset] [(.int (p2 &&& (2147483647 : Int32))), (.long ((p1 &&& (2147483647 : Int32)).toInt64))])) (fun t k => XS.iload X63.here hx rfl (hb hby at_81) rfl k) ?_
      refine own_st (V := T63.setTop (mkF m 84 #[.val (.int p1), .val (.int p2), .val (.int p3), .val (.int p4), .val (.int (p1 &&& (2147483647 : Int32))), .val (.int (p2 &&& (2147483647 : Int32))), .val (.ref b55), .val (.ref b57), .val (.ref b61), .unset, .unset, .unset, .unset, .unset] [(.long ((p2 &&& (2147483647 : Int32)).toInt64)), (.long ((p1 &&& (2147483647 : Int32)).toInt64))])) (fun t k => XS.i2l X63.here hx rfl (hb hby at_83) rfl k) ?_
      refine own_st (V := T63.setTop (mkF m 85 #[.val (.int p1), .val (.int p2), .val (.int p3), .val (.int p4), .val (.int (p1 &&& (2147483647 : Int32))), .val (.int (p2 &&& (2147483647 : Int32))), .val (.ref b55), .val (.ref b57), .val (.ref b61), .unset, .unset, .unset, .unset, .unset] [(.long (((p1 &&& (2147483647 : Int32)).toInt64) - ((p2 &&& (2147483647 : Int32)).toInt64)))])) (fun t k => XS.lsub X63.here hx rfl (hb hby at_84) rfl k) ?_
      refine own_st (V := T63.setTop (mkF m 87 #[.val (.int p1), .val (.int p2), .val (.int p3), .val (.int p4), .val (.int (p1 &&& (2147483647 : Int32))), .val (.int (p2 &&& (2147483647 : Int32))), .val (.ref b55), .val (.ref b57), .val (.ref b61), .val (.long (((p1 &&& (2147483647 : Int32)).toInt64) - ((p2 &&& (2147483647 : Int32)).toInt64))), .second, .unset, .unset, .unset] [])) (fun t k => XS.lstore X63.here hx rfl (hb hby at_85) rfl (l' := #[.val (.int p1), .val (.int p2), .val (.int p3), .val (.int p4), .val (.int (p1 &&& (2147483647 : Int32))), .val (.int (p2 &&& (2147483647 : Int32))), .val (.ref b55), .val (.ref b57), .val (.ref b61), .val (.long (((p1 &&& (2147483647 : Int32)).toInt64) - ((p2 &&& (2147483647 : Int32)).toInt64))), .second, .unset, .unset, .unset]) rfl k) ?_
      refine own_st (V := T63.setTop (mkF m 89 #[.val (.int p1), .val (.int p2), .val (.int p3), .val (.int p4), .val (.int (p1 &&& (2147483647 : Int32))), .val (.int (p2 &&& (2147483647 : Int32))), .val (.ref b55), .val (.ref b57), .val (.ref b61), .val (.long (((p1 &&& (2147483647 : Int32)).toInt64) - ((p2 &&& (2147483647 : Int32)).toInt64))), .second, .unset, .unset, .unset] [(.ref b57)])) (fun t k => XS.aload X63.here hx rfl (hb hby at_87) rfl rfl k) ?_
      refine own_st (V := T63.setTop (mkF m 91 #[.val (.int p1), .val (.int p2), .val (.int p3), .val (.int p4), .val (.int (p1 &&& (2147483647 : Int32))), .val (.int (p2 &&& (2147483647 : Int32))), .val (.ref b55), .val (.ref b57), .val (.ref b61), .val (.long (((p1 &&& (2147483647 : Int32)).toInt64) - ((p2 &&& (2147483647 : Int32)).toInt64))), .second, .unset, .unset, .unset] [(.ref b61), (.ref b57)])) (fun t k => XS.aload X63.here hx rfl (hb hby at_89) rfl rfl k) ?_
      obtain ⟨cq64, kq64, q64a, q64b, q64c⟩ := isOf hZ rfl Ex63_b57
      obtain ⟨_, _, ⟨T64, L64, k64, n64⟩, -, X64, ⟨Lc64, hQ64, l64, y64, z64⟩, st64⟩ := X63.virtualBack hx (y := (⟨"com/example/trust_grade/trustgrade/network/Level", "isAbove", "(Lcom/example/trust_grade/trustgrade/network/Level;)Z"⟩ : MethodName)) (z := (⟨"com/example/trust_grade/trustgrade/network/Level", "isAbove", "(Lcom/example/trust_grade/trustgrade/network/Level;)Z"⟩ : MethodName)) hown (mvT hZ (hw _ (List.mem_of_getElem? (i := 56) rfl))) (mvT hZ (hw _ (List.mem_of_getElem? (i := 57) rfl))) (notFace_of_selects (args := #[]) (mvT hZ (hw _ (List.mem_of_getElem? (i := 59) rfl)))) (mvT hZ (hw _ (List.mem_of_getElem? (i := 59) rfl))) (mvT hZ (hw _ (List.mem_of_getElem? (i := 58) rfl))) (by decide) (backOf (W := 0) (own_ab0 l Z a0 hw [] b57 b61 (p1 &&& (2147483647 : Int32)) (p2 &&& (2147483647 : Int32)) T63.heap n0 Z0_63 F63_b57_rank Fq63_0 hg) hZ (hw _ (List.mem_of_getElem? (i := 60) rfl)) (hw _ (List.mem_of_getElem? (i := 4) rfl)) (by decide) (by decide)) q64a q64c (g := (mkF m 91 #[.val (.int p1), .val (.int p2), .val (.int p3), .val (.int p4), .val (.int (p1 &&& (2147483647 : Int32))), .val (.int (p2 &&& (2147483647 : Int32))), .val (.ref b55), .val (.ref b57), .val (.ref b61), .val (.long (((p1 &&& (2147483647 : Int32)).toInt64) - ((p2 &&& (2147483647 : Int32)).toInt64))), .second, .unset, .unset, .unset] [(.ref b61), (.ref b57)])) rfl (by rw [hml]; rfl) (Steps.refl _) (argsL := [(.ref b61)]) (rest := []) (lenOf own_pd10 rfl) rfl (by show 2 * 0 + _ ≤ _; exact Nat.le_of_eq rfl) (hb hby at_91) (fun _ _ => ⟨rfl, rfl, (by decide : 7 + 0 ≤ _), (by decide : 15 + 0 ≤ _)⟩)
      dsimp only [Pt.U, Pt.locs, Pt.cells, Pt.slots] at X64 l64 y64 z64 st64 hQ64
      subst l64 y64 z64
      obtain ⟨rfl, N64q, e64⟩ := hQ64
      have N64 := Fr.app N63 N64q
      refine own_st (V := T64.setTop (mkF m 94 #[.val (.int p1), .val (.int p2), .val (.int p3), .val (.int p4), .val (.int (p1 &&& (2147483647 : Int32))), .val (.int (p2 &&& (2147483647 : Int32))), .val (.ref b55), .val (.ref b57), .val (.ref b61), .val (.long (((p1 &&& (2147483647 : Int32)).toInt64) - ((p2 &&& (2147483647 : Int32)).toInt64))), .second, .unset, .unset, .unset] [(.int (0 : Int32))])) (fun t k => st64.trans k) ?_
      refine own_st (V := T64.setTop (mkF m 96 #[.val (.int p1), .val (.int p2), .val (.int p3), .val (.int p4), .val (.int (p1 &&& (2147483647 : Int32))), .val (.int (p2 &&& (2147483647 : Int32))), .val (.ref b55), .val (.ref b57), .val (.ref b61), .val (.long (((p1 &&& (2147483647 : Int32)).toInt64) - ((p2 &&& (2147483647 : Int32)).toInt64))), .second, .val (.int (0 : Int32)), .unset, .unset] [])) (fun t k => XS.istore X64.here hx rfl (hb hby at_94) rfl (l' := #[.val (.int p1), .val (.int p2), .val (.int p3), .val (.int p4), .val (.int (p1 &&& (2147483647 : Int32))), .val (.int (p2 &&& (2147483647 : Int32))), .val (.ref b55), .val (.ref b57), .val (.ref b61), .val (.long (((p1 &&& (2147483647 : Int32)).toInt64) - ((p2 &&& (2147483647 : Int32)).toInt64))), .second, .val (.int (0 : Int32)), .unset, .unset]) rfl k) ?_
      refine own_st (V := T64.setTop (mkF m 98 #[.val (.int p1), .val (.int p2), .val (.int p3), .val (.int p4), .val (.int (p1 &&& (2147483647 : Int32))), .val (.int (p2 &&& (2147483647 : Int32))), .val (.ref b55), .val (.ref b57), .val (.ref b61), .val (.long (((p1 &&& (2147483647 : Int32)).toInt64) - ((p2 &&& (2147483647 : Int32)).toInt64))), .second, .val (.int (0 : Int32)), .unset, .unset] [(.ref b61)])) (fun t k => XS.aload X64.here hx rfl (hb hby at_96) rfl rfl k) ?_
      refine own_st (V := T64.setTop (mkF m 100 #[.val (.int p1), .val (.int p2), .val (.int p3), .val (.int p4), .val (.int (p1 &&& (2147483647 : Int32))), .val (.int (p2 &&& (2147483647 : Int32))), .val (.ref b55), .val (.ref b57), .val (.ref b61), .val (.long (((p1 &&& (2147483647 : Int32)).toInt64) - ((p2 &&& (2147483647 : Int32)).toInt64))), .second, .val (.int (0 : Int32)), .unset, .unset] [(.ref b57), (.ref b61)])) (fun t k => XS.aload X64.here hx rfl (hb hby at_98) rfl rfl k) ?_
      obtain ⟨cq65, kq65, q65a, q65b, q65c⟩ := isOf hZ e64 Ex63_q
      obtain ⟨_, _, ⟨T65, L65, k65, n65⟩, -, X65, ⟨Lc65, hQ65, l65, y65, z65⟩, st65⟩ := X64.virtualBack hx (y := (⟨"com/example/trust_grade/trustgrade/network/Level", "isAbove", "(Lcom/example/trust_grade/trustgrade/network/Level;)Z"⟩ : MethodName)) (z := (⟨"com/example/trust_grade/trustgrade/network/Level", "isAbove", "(Lcom/example/trust_grade/trustgrade/network/Level;)Z"⟩ : MethodName)) hown (mvT hZ (hw _ (List.mem_of_getElem? (i := 56) rfl))) (mvT hZ (hw _ (List.mem_of_getElem? (i := 57) rfl))) (notFace_of_selects (args := #[]) (mvT hZ (hw _ (List.mem_of_getElem? (i := 59) rfl)))) (mvT hZ (hw _ (List.mem_of_getElem? (i := 59) rfl))) (mvT hZ (hw _ (List.mem_of_getElem? (i := 58) rfl))) (by decide) (backOf (W := 0) (own_ab0 l Z a0 hw [] b61 b57 (p2 &&& (2147483647 : Int32)) (p1 &&& (2147483647 : Int32)) T63.heap n0 Z0_63 Fq63_0 F63_b57_rank hl) hZ (hw _ (List.mem_of_getElem? (i := 60) rfl)) (hw _ (List.mem_of_getElem? (i := 4) rfl)) (by decide) (by decide)) q65a q65c (g := (mkF m 100 #[.val (.int p1), .val (.int p2), .val (.int p3), .val (.int p4), .val (.int (p1 &&& (2147483647 : Int32))), .val (.int (p2 &&& (2147483647 : Int32))), .val (.ref b55), .val (.ref b57), .val (.ref b61), .val (.long (((p1 &&& (2147483647 : Int32)).toInt64) - ((p2 &&& (2147483647 : Int32)).toInt64))), .second, .val (.int (0 : Int32)), .unset, .unset] [(.ref b57), (.ref b61)])) rfl (by rw [hml]; rfl) (Steps.refl _) (argsL := [(.ref b57)]) (rest := []) (lenOf own_pd10 rfl) rfl (by show 2 * 0 + _ ≤ _; exact Nat.le_of_eq rfl) (hb hby at_100) (fun _ _ => ⟨rfl, e64, (by decide : 7 + 0 ≤ _), (by decide : 15 + 0 ≤ _)⟩)
      dsimp only [Pt.U, Pt.locs, Pt.cells, Pt.slots] at X65 l65 y65 z65 st65 hQ65
      subst l65 y65 z65
      obtain ⟨rfl, N65q, e65⟩ := hQ65
      have N65 := Fr.app N64 N65q
      refine own_st (V := T65.setTop (mkF m 103 #[.val (.int p1), .val (.int p2), .val (.int p3), .val (.int p4), .val (.int (p1 &&& (2147483647 : Int32))), .val (.int (p2 &&& (2147483647 : Int32))), .val (.ref b55), .val (.ref b57), .val (.ref b61), .val (.long (((p1 &&& (2147483647 : Int32)).toInt64) - ((p2 &&& (2147483647 : Int32)).toInt64))), .second, .val (.int (0 : Int32)), .unset, .unset] [(.int (0 : Int32))])) (fun t k => st65.trans k) ?_
      refine own_st (V := T65.setTop (mkF m 105 #[.val (.int p1), .val (.int p2), .val (.int p3), .val (.int p4), .val (.int (p1 &&& (2147483647 : Int32))), .val (.int (p2 &&& (2147483647 : Int32))), .val (.ref b55), .val (.ref b57), .val (.ref b61), .val (.long (((p1 &&& (2147483647 : Int32)).toInt64) - ((p2 &&& (2147483647 : Int32)).toInt64))), .second, .val (.int (0 : Int32)), .val (.int (0 : Int32)), .unset] [])) (fun t k => XS.istore X65.here hx rfl (hb hby at_103) rfl (l' := #[.val (.int p1), .val (.int p2), .val (.int p3), .val (.int p4), .val (.int (p1 &&& (2147483647 : Int32))), .val (.int (p2 &&& (2147483647 : Int32))), .val (.ref b55), .val (.ref b57), .val (.ref b61), .val (.long (((p1 &&& (2147483647 : Int32)).toInt64) - ((p2 &&& (2147483647 : Int32)).toInt64))), .second, .val (.int (0 : Int32)), .val (.int (0 : Int32)), .unset]) rfl k) ?_
      refine own_st (V := T65.setTop (mkF m 107 #[.val (.int p1), .val (.int p2), .val (.int p3), .val (.int p4), .val (.int (p1 &&& (2147483647 : Int32))), .val (.int (p2 &&& (2147483647 : Int32))), .val (.ref b55), .val (.ref b57), .val (.ref b61), .val (.long (((p1 &&& (2147483647 : Int32)).toInt64) - ((p2 &&& (2147483647 : Int32)).toInt64))), .second, .val (.int (0 : Int32)), .val (.int (0 : Int32)), .unset] [(.ref b57)])) (fun t k => XS.aload X65.here hx rfl (hb hby at_105) rfl rfl k) ?_
      refine own_st (V := T65.setTop (mkF m 109 #[.val (.int p1), .val (.int p2), .val (.int p3), .val (.int p4), .val (.int (p1 &&& (2147483647 : Int32))), .val (.int (p2 &&& (2147483647 : Int32))), .val (.ref b55), .val (.ref b57), .val (.ref b61), .val (.long (((p1 &&& (2147483647 : Int32)).toInt64) - ((p2 &&& (2147483647 : Int32)).toInt64))), .second, .val (.int (0 : Int32)), .val (.int (0 : Int32)), .unset] [(.ref b57), (.ref b57)])) (fun t k => XS.aload X65.here hx rfl (hb hby at_107) rfl rfl k) ?_
      obtain ⟨cq66, kq66, q66a, q66b, q66c⟩ := isOf hZ e65 Ex63_b57
      obtain ⟨_, _, ⟨T66, L66, k66, n66⟩, -, X66, ⟨Lc66, hQ66, l66, y66, z66⟩, st66⟩ := X65.virtualBack hx (y := (⟨"com/example/trust_grade/trustgrade/network/Level", "isAbove", "(Lcom/example/trust_grade/trustgrade/network/Level;)Z"⟩ : MethodName)) (z := (⟨"com/example/trust_grade/trustgrade/network/Level", "isAbove", "(Lcom/example/trust_grade/trustgrade/network/Level;)Z"⟩ : MethodName)) hown (mvT hZ (hw _ (List.mem_of_getElem? (i := 56) rfl))) (mvT hZ (hw _ (List.mem_of_getElem? (i := 57) rfl))) (notFace_of_selects (args := #[]) (mvT hZ (hw _ (List.mem_of_getElem? (i := 59) rfl)))) (mvT hZ (hw _ (List.mem_of_getElem? (i := 59) rfl))) (mvT hZ (hw _ (List.mem_of_getElem? (i := 58) rfl))) (by decide) (backOf (W := 0) (own_ab0 l Z a0 hw [] b57 b57 (p1 &&& (2147483647 : Int32)) (p1 &&& (2147483647 : Int32)) T63.heap n0 Z0_63 F63_b57_rank F63_b57_rank (own_irr _)) hZ (hw _ (List.mem_of_getElem? (i := 60) rfl)) (hw _ (List.mem_of_getElem? (i := 4) rfl)) (by decide) (by decide)) q66a q66c (g := (mkF m 109 #[.val (.int p1), .val (.int p2), .val (.int p3), .val (.int p4), .val (.int (p1 &&& (2147483647 : Int32))), .val (.int (p2 &&& (2147483647 : Int32))), .val (.ref b55), .val (.ref b57), .val (.ref b61), .val (.long (((p1 &&& (2147483647 : Int32)).toInt64) - ((p2 &&& (2147483647 : Int32)).toInt64))), .second, .val (.int (0 : Int32)), .val (.int (0 : Int32)), .unset] [(.ref b57), (.ref b57)])) rfl (by rw [hml]; rfl) (Steps.refl _) (argsL := [(.ref b57)]) (rest := []) (lenOf own_pd10 rfl) rfl (by show 2 * 0 + _ ≤ _; exact Nat.le_of_eq rfl) (hb hby at_109) (fun _ _ => ⟨rfl, e65, (by decide : 7 + 0 ≤ _), (by decide : 15 + 0 ≤ _)⟩)
      dsimp only [Pt.U, Pt.locs, Pt.cells, Pt.slots] at X66 l66 y66 z66 st66 hQ66
      subst l66 y66 z66
      obtain ⟨rfl, N66q, e66⟩ := hQ66
      have N66 := Fr.app N65 N66q
      refine own_st (V := T66.setTop (mkF m 112 #[.val (.int p1), .val (.int p2), .val (.int p3), .val (.int p4), .val (.int (p1 &&& (2147483647 : Int32))), .val (.int (p2 &&& (2147483647 : Int32))), .val (.ref b55), .val (.ref b57), .val (.ref b61), .val (.long (((p1 &&& (2147483647 : Int32)).toInt64) - ((p2 &&& (2147483647 : Int32)).toInt64))), .second, .val (.int (0 : Int32)), .val (.int (0 : Int32)), .unset] [(.int (0 : Int32))])) (fun t k => st66.trans k) ?_
      refine own_st (V := T66.setTop (mkF m 114 #[.val (.int p1), .val (.int p2), .val (.int p3), .val (.int p4), .val (.int (p1 &&& (2147483647 : Int32))), .val (.int (p2 &&& (2147483647 : Int32))), .val (.ref b55), .val (.ref b57), .val (.ref b61), .val (.long (((p1 &&& (2147483647 : Int32)).toInt64) - ((p2 &&& (2147483647 : Int32)).toInt64))), .second, .val (.int (0 : Int32)), .val (.int (0 : Int32)), .val (.int (0 : Int32))] [])) (fun t k => XS.istore X66.here hx rfl (hb hby at_112) rfl (l' := #[.val (.int p1), .val (.int p2), .val (.int p3), .val (.int p4), .val (.int (p1 &&& (2147483647 : Int32))), .val (.int (p2 &&& (2147483647 : Int32))), .val (.ref b55), .val (.ref b57), .val (.ref b61), .val (.long (((p1 &&& (2147483647 : Int32)).toInt64) - ((p2 &&& (2147483647 : Int32)).toInt64))), .second, .val (.int (0 : Int32)), .val (.int (0 : Int32)), .val (.int (0 : Int32))]) rfl k) ?_
      refine own_st (V := T66.setTop (mkF m 116 #[.val (.int p1), .val (.int p2), .val (.int p3), .val (.int p4), .val (.int (p1 &&& (2147483647 : Int32))), .val (.int (p2 &&& (2147483647 : Int32))), .val (.ref b55), .val (.ref b57), .val (.ref b61), .val (.long (((p1 &&& (2147483647 : Int32)).toInt64) - ((p2 &&& (2147483647 : Int32)).toInt64))), .second, .val (.int (0 : Int32)), .val (.int (0 : Int32)), .val (.int (0 : Int32))] [(.int (0 : Int32))])) (fun t k => XS.iload X66.here hx rfl (hb hby at_114) rfl k) ?_
      refine own_st (V := T66.setTop (mkF m 118 #[.val (.int p1), .val (.int p2), .val (.int p3), .val (.int p4), .val (.int (p1 &&& (2147483647 : Int32))), .val (.int (p2 &&& (2147483647 : Int32))), .val (.ref b55), .val (.ref b57), .val (.ref b61), .val (.long (((p1 &&& (2147483647 : Int32)).toInt64) - ((p2 &&& (2147483647 : Int32)).toInt64))), .second, .val (.int (0 : Int32)), .val (.int (0 : Int32)), .val (.int (0 : Int32))] [(.long (((p1 &&& (2147483647 : Int32)).toInt64) - ((p2 &&& (2147483647 : Int32)).toInt64))), (.int (0 : Int32))])) (fun t k => XS.lload X66.here hx rfl (hb hby at_116) rfl k) ?_
      refine own_st (V := T66.setTop (mkF m 119 #[.val (.int p1), .val (.int p2), .val (.int p3), .val (.int p4), .val (.int (p1 &&& (2147483647 : Int32))), .val (.int (p2 &&& (2147483647 : Int32))), .val (.ref b55), .val (.ref b57), .val (.ref b61), .val (.long (((p1 &&& (2147483647 : Int32)).toInt64) - ((p2 &&& (2147483647 : Int32)).toInt64))), .second, .val (.int (0 : Int32)), .val (.int (0 : Int32)), .val (.int (0 : Int32))] [(.long (0 : Int64)), (.long (((p1 &&& (2147483647 : Int32)).toInt64) - ((p2 &&& (2147483647 : Int32)).toInt64))), (.int (0 : Int32))])) (fun t k => XS.lconst X66.here hx rfl (hb hby at_118) k) ?_
      refine own_st (V := T66.setTop (mkF m 120 #[.val (.int p1), .val (.int p2), .val (.int p3), .val (.int p4), .val (.int (p1 &&& (2147483647 : Int32))), .val (.int (p2 &&& (2147483647 : Int32))), .val (.ref b55), .val (.ref b57), .val (.ref b61), .val (.long (((p1 &&& (2147483647 : Int32)).toInt64) - ((p2 &&& (2147483647 : Int32)).toInt64))), .second, .val (.int (0 : Int32)), .val (.int (0 : Int32)), .val (.int (0 : Int32))] [(.int (lcmpW (((p1 &&& (2147483647 : Int32)).toInt64) - ((p2 &&& (2147483647 : Int32)).toInt64)) (0 : Int64))), (.int (0 : Int32))])) (fun t k => XS.lcmp X66.here hx rfl (hb hby at_119) rfl k) ?_
      refine own_st (V := T66.setTop (mkF m 127 #[.val (.int p1), .val (.int p2), .val (.int p3), .val (.int p4), .val (.int (p1 &&& (2147483647 : Int32))), .val (.int (p2 &&& (2147483647 : Int32))), .val (.ref b55), .val (.ref b57), .val (.ref b61), .val (.long (((p1 &&& (2147483647 : Int32)).toInt64) - ((p2 &&& (2147483647 : Int32)).toInt64))), .second, .val (.int (0 : Int32)), .val (.int (0 : Int32)), .val (.int (0 : Int32))] [(.int (0 : Int32))])) (fun t k => XS.ifYes X66.here hx rfl (pc0 := 120) (pc' := 127) rfl (hb hby at_120) rfl ((if0 _ _).trans (flt (own_lgn hg)).2.2.2) (by decide) (by decide) k) ?_
      refine own_st (V := T66.setTop (mkF m 128 #[.val (.int p1), .val (.int p2), .val (.int p3), .val (.int p4), .val (.int (p1 &&& (2147483647 : Int32))), .val (.int (p2 &&& (2147483647 : Int32))), .val (.ref b55), .val (.ref b57), .val (.ref b61), .val (.long (((p1 &&& (2147483647 : Int32)).toInt64) - ((p2 &&& (2147483647 : Int32)).toInt64))), .second, .val (.int (0 : Int32)), .val (.int (0 : Int32)), .val (.int (0 : Int32))] [(.int (0 : Int32)), (.int (0 : Int32))])) (fun t k => XS.iconst X66.here hx rfl (hb hby at_127) k) ?_
      refine own_st (V := T66.setTop (mkF m 131 #[.val (.int p1), .val (.int p2), .val (.int p3), .val (.int p4), .val (.int (p1 &&& (2147483647 : Int32))), .val (.int (p2 &&& (2147483647 : Int32))), .val (.ref b55), .val (.ref b57), .val (.ref b61), .val (.long (((p1 &&& (2147483647 : Int32)).toInt64) - ((p2 &&& (2147483647 : Int32)).toInt64))), .second, .val (.int (0 : Int32)), .val (.int (0 : Int32)), .val (.int (0 : Int32))] [])) (fun t k => XS.icmpNo X66.here hx rfl (hb hby at_128) rfl (teq (by decide : (0 : Int32) = (0 : Int32))).2 k) ?_
      refine own_st (V := T66.setTop (mkF m 133 #[.val (.int p1), .val (.int p2), .val (.int p3), .val (.int p4), .val (.int (p1 &&& (2147483647 : Int32))), .val (.int (p2 &&& (2147483647 : Int32))), .val (.ref b55), .val (.ref b57), .val (.ref b61), .val (.long (((p1 &&& (2147483647 : Int32)).toInt64) - ((p2 &&& (2147483647 : Int32)).toInt64))), .second, .val (.int (0 : Int32)), .val (.int (0 : Int32)), .val (.int (0 : Int32))] [(.int (0 : Int32))])) (fun t k => XS.iload X66.here hx rfl (hb hby at_131) rfl k) ?_
      refine own_st (V := T66.setTop (mkF m 135 #[.val (.int p1), .val (.int p2), .val (.int p3), .val (.int p4), .val (.int (p1 &&& (2147483647 : Int32))), .val (.int (p2 &&& (2147483647 : Int32))), .val (.ref b55), .val (.ref b57), .val (.ref b61), .val (.long (((p1 &&& (2147483647 : Int32)).toInt64) - ((p2 &&& (2147483647 : Int32)).toInt64))), .second, .val (.int (0 : Int32)), .val (.int (0 : Int32)), .val (.int (0 : Int32))] [(.long (((p1 &&& (2147483647 : Int32)).toInt64) - ((p2 &&& (2147483647 : Int32)).toInt64))), (.int (0 : Int32))])) (fun t k => XS.lload X66.here hx rfl (hb hby at_133) rfl k) ?_
      refine own_st (V := T66.setTop (mkF m 136 #[.val (.int p1), .val (.int p2), .val (.int p3), .val (.int p4), .val (.int (p1 &&& (2147483647 : Int32))), .val (.int (p2 &&& (2147483647 : Int32))), .val (.ref b55), .val (.ref b57), .val (.ref b61), .val (.long (((p1 &&& (2147483647 : Int32)).toInt64) - ((p2 &&& (2147483647 : Int32)).toInt64))), .second, .val (.int (0 : Int32)), .val (.int (0 : Int32)), .val (.int (0 : Int32))] [(.long (0 : Int64)), (.long (((p1 &&& (2147483647 : Int32)).toInt64) - ((p2 &&& (2147483647 : Int32)).toInt64))), (.int (0 : Int32))])) (fun t k => XS.lconst X66.here hx rfl (hb hby at_135) k) ?_
      refine own_st (V := T66.setTop (mkF m 137 #[.val (.int p1), .val (.int p2), .val (.int p3), .val (.int p4), .val (.int (p1 &&& (2147483647 : Int32))), .val (.int (p2 &&& (2147483647 : Int32))), .val (.ref b55), .val (.ref b57), .val (.ref b61), .val (.long (((p1 &&& (2147483647 : Int32)).toInt64) - ((p2 &&& (2147483647 : Int32)).toInt64))), .second, .val (.int (0 : Int32)), .val (.int (0 : Int32)), .val (.int (0 : Int32))] [(.int (lcmpW (((p1 &&& (2147483647 : Int32)).toInt64) - ((p2 &&& (2147483647 : Int32)).toInt64)) (0 : Int64))), (.int (0 : Int32))])) (fun t k => XS.lcmp X66.here hx rfl (hb hby at_136) rfl k) ?_
      refine own_st (V := T66.setTop (mkF m 144 #[.val (.int p1), .val (.int p2), .val (.int p3), .val (.int p4), .val (.int (p1 &&& (2147483647 : Int32))), .val (.int (p2 &&& (2147483647 : Int32))), .val (.ref b55), .val (.ref b57), .val (.ref b61), .val (.long (((p1 &&& (2147483647 : Int32)).toInt64) - ((p2 &&& (2147483647 : Int32)).toInt64))), .second, .val (.int (0 : Int32)), .val (.int (0 : Int32)), .val (.int (0 : Int32))] [(.int (0 : Int32))])) (fun t k => XS.ifYes X66.here hx rfl (pc0 := 137) (pc' := 144) rfl (hb hby at_137) rfl ((if0 _ _).trans (flt (own_lln hl)).2.1) (by decide) (by decide) k) ?_
      refine own_st (V := T66.setTop (mkF m 145 #[.val (.int p1), .val (.int p2), .val (.int p3), .val (.int p4), .val (.int (p1 &&& (2147483647 : Int32))), .val (.int (p2 &&& (2147483647 : Int32))), .val (.ref b55), .val (.ref b57), .val (.ref b61), .val (.long (((p1 &&& (2147483647 : Int32)).toInt64) - ((p2 &&& (2147483647 : Int32)).toInt64))), .second, .val (.int (0 : Int32)), .val (.int (0 : Int32)), .val (.int (0 : Int32))] [(.int (0 : Int32)), (.int (0 : Int32))])) (fun t k => XS.iconst X66.here hx rfl (hb hby at_144) k) ?_
      refine own_st (V := T66.setTop (mkF m 148 #[.val (.int p1), .val (.int p2), .val (.int p3), .val (.int p4), .val (.int (p1 &&& (2147483647 : Int32))), .val (.int (p2 &&& (2147483647 : Int32))), .val (.ref b55), .val (.ref b57), .val (.ref b61), .val (.long (((p1 &&& (2147483647 : Int32)).toInt64) - ((p2 &&& (2147483647 : Int32)).toInt64))), .second, .val (.int (0 : Int32)), .val (.int (0 : Int32)), .val (.int (0 : Int32))] [])) (fun t k => XS.icmpNo X66.here hx rfl (hb hby at_145) rfl (teq (by decide : (0 : Int32) = (0 : Int32))).2 k) ?_
      refine own_st (V := T66.setTop (mkF m 150 #[.val (.int p1), .val (.int p2), .val (.int p3), .val (.int p4), .val (.int (p1 &&& (2147483647 : Int32))), .val (.int (p2 &&& (2147483647 : Int32))), .val (.ref b55), .val (.ref b57), .val (.ref b61), .val (.long (((p1 &&& (2147483647 : Int32)).toInt64) - ((p2 &&& (2147483647 : Int32)).toInt64))), .second, .val (.int (0 : Int32)), .val (.int (0 : Int32)), .val (.int (0 : Int32))] [(.int (0 : Int32))])) (fun t k => XS.iload X66.here hx rfl (hb hby at_148) rfl k) ?_
      refine own_st (V := T66.setTop (mkF m 153 #[.val (.int p1), .val (.int p2), .val (.int p3), .val (.int p4), .val (.int (p1 &&& (2147483647 : Int32))), .val (.int (p2 &&& (2147483647 : Int32))), .val (.ref b55), .val (.ref b57), .val (.ref b61), .val (.long (((p1 &&& (2147483647 : Int32)).toInt64) - ((p2 &&& (2147483647 : Int32)).toInt64))), .second, .val (.int (0 : Int32)), .val (.int (0 : Int32)), .val (.int (0 : Int32))] [])) (fun t k => XS.ifNo X66.here hx rfl (hb hby at_150) rfl ((if0 _ _).trans (teq (by decide : (0 : Int32) = (0 : Int32))).2) k) ?_
      refine own_st (V := T66.setTop (mkF m 154 #[.val (.int p1), .val (.int p2), .val (.int p3), .val (.int p4), .val (.int (p1 &&& (2147483647 : Int32))), .val (.int (p2 &&& (2147483647 : Int32))), .val (.ref b55), .val (.ref b57), .val (.ref b61), .val (.long (((p1 &&& (2147483647 : Int32)).toInt64) - ((p2 &&& (2147483647 : Int32)).toInt64))), .second, .val (.int (0 : Int32)), .val (.int (0 : Int32)), .val (.int (0 : Int32))] [(.int (1 : Int32))])) (fun t k => XS.iconst X66.here hx rfl (hb hby at_153) k) ?_
      refine own_st (V := T66.setTop (mkF m 158 #[.val (.int p1), .val (.int p2), .val (.int p3), .val (.int p4), .val (.int (p1 &&& (2147483647 : Int32))), .val (.int (p2 &&& (2147483647 : Int32))), .val (.ref b55), .val (.ref b57), .val (.ref b61), .val (.long (((p1 &&& (2147483647 : Int32)).toInt64) - ((p2 &&& (2147483647 : Int32)).toInt64))), .second, .val (.int (0 : Int32)), .val (.int (0 : Int32)), .val (.int (0 : Int32))] [(.int (1 : Int32))])) (fun t k => XS.goto X66.here hx rfl (pc0 := 154) (pc' := 158) rfl (hb hby at_154) (by decide) (by decide) k) ?_
      exact own_ret X66 hx hlk Bd.returns (by decide +kernel) (Or.inl ⟨rfl, by simp, _, rfl⟩) (hb hby at_158) (by decide) (by decide) ⟨rfl, N66⟩
  · refine own_st (V := s₁.setTop (mkF m 20 #[.val (.int p1), .val (.int p2), .val (.int p3), .val (.int p4), .val (.int (p1 &&& (2147483647 : Int32))), .val (.int (p2 &&& (2147483647 : Int32))), .unset, .unset, .unset, .unset, .unset, .unset, .unset, .unset] [])) (fun t k => XS.ifNo X0.here hx rfl (hb hby at_17) rfl ((if0 _ _).trans (feq hs17).1) k) ?_
    refine own_st (V := s₁.setTop (mkF m 22 #[.val (.int p1), .val (.int p2), .val (.int p3), .val (.int p4), .val (.int (p1 &&& (2147483647 : Int32))), .val (.int (p2 &&& (2147483647 : Int32))), .unset, .unset, .unset, .unset, .unset, .unset, .unset, .unset] [(.int (p1 &&& (2147483647 : Int32)))])) (fun t k => XS.iload X0.here hx rfl (hb hby at_20) rfl k) ?_
    refine own_st (V := s₁.setTop (mkF m 24 #[.val (.int p1), .val (.int p2), .val (.int p3), .val (.int p4), .val (.int (p1 &&& (2147483647 : Int32))), .val (.int (p1 &&& (2147483647 : Int32))), .unset, .unset, .unset, .unset, .unset, .unset, .unset, .unset] [])) (fun t k => XS.istore X0.here hx rfl (hb hby at_22) rfl (l' := #[.val (.int p1), .val (.int p2), .val (.int p3), .val (.int p4), .val (.int (p1 &&& (2147483647 : Int32))), .val (.int (p1 &&& (2147483647 : Int32))), .unset, .unset, .unset, .unset, .unset, .unset, .unset, .unset]) rfl k) ?_
    rcases own_tri (p1 &&& (2147483647 : Int32)) (p1 &&& (2147483647 : Int32)) with ⟨hg, hl⟩ | ⟨hg, hl⟩ | ⟨hg, hl⟩
    · refine own_st (V := s₁.setTop (mkF m 25 #[.val (.int p1), .val (.int p2), .val (.int p3), .val (.int p4), .val (.int (p1 &&& (2147483647 : Int32))), .val (.int (p1 &&& (2147483647 : Int32))), .unset, .unset, .unset, .unset, .unset, .unset, .unset, .unset] [(.int (1 : Int32))])) (fun t k => XS.iconst X0.here hx rfl (hb hby at_24) k) ?_
      obtain ⟨T67, h67, k67, X67, e67, E67, A67, st67⟩ := newP X0 hx hZ (hw _ (List.mem_of_getElem? (i := 1) rfl)) e0 (g := (mkF m 25 #[.val (.int p1), .val (.int p2), .val (.int p3), .val (.int p4), .val (.int (p1 &&& (2147483647 : Int32))), .val (.int (p1 &&& (2147483647 : Int32))), .unset, .unset, .unset, .unset, .unset, .unset, .unset, .unset] [(.int (1 : Int32))])) rfl (hb hby at_25) rfl (by decide) (cap := 1) (by decide) (by decide) (by decide) (by decide)
      obtain ⟨b67, g67⟩ : ∃ z, z = h0.size := ⟨_, rfl⟩
      rw [← g67] at A67 st67
      have gb_b67 : n0 ≤ b67 := Nat.le_trans Z0 (Nat.le_of_eq g67.symm)
      have Z0_67 : n0 ≤ h67.size := Nat.le_trans Z0 E67.1
      have Od67 := Od.ext E67
      have V67_b67 : Arv Z h67 b67 k67 .char (1 : Int32) [(.int (0 : Int32))] (.int (0 : Int32)) := (Arv.new A67 (by decide)).pad (pad_rep [] (.int (0 : Int32)) 1)
      refine own_st (V := T67.setTop (mkF m 27 #[.val (.int p1), .val (.int p2), .val (.int p3), .val (.int p4), .val (.int (p1 &&& (2147483647 : Int32))), .val (.int (p1 &&& (2147483647 : Int32))), .unset, .unset, .unset, .unset, .unset, .unset, .unset, .unset] [(.ref b67)])) (fun t k => st67 _ k) ?_
      refine own_st (V := T67.setTop (mkF m 28 #[.val (.int p1), .val (.int p2), .val (.int p3), .val (.int p4), .val (.int (p1 &&& (2147483647 : Int32))), .val (.int (p1 &&& (2147483647 : Int32))), .unset, .unset, .unset, .unset, .unset, .unset, .unset, .unset] [(.ref b67), (.ref b67)])) (fun t k => XS.dup X67.here hx rfl (hb hby at_27) rfl rfl k) ?_
      refine own_st (V := T67.setTop (mkF m 29 #[.val (.int p1), .val (.int p2), .val (.int p3), .val (.int p4), .val (.int (p1 &&& (2147483647 : Int32))), .val (.int (p1 &&& (2147483647 : Int32))), .unset, .unset, .unset, .unset, .unset, .unset, .unset, .unset] [(.int (0 : Int32)), (.ref b67), (.ref b67)])) (fun t k => XS.iconst X67.here hx rfl (hb hby at_28) k) ?_
      refine own_st (V := T67.setTop (mkF m 30 #[.val (.int p1), .val (.int p2), .val (.int p3), .val (.int p4), .val (.int (p1 &&& (2147483647 : Int32))), .val (.int (p1 &&& (2147483647 : Int32))), .unset, .unset, .unset, .unset, .unset, .unset, .unset, .unset] [(.int p3), (.int (0 : Int32)), (.ref b67), (.ref b67)])) (fun t k => XS.iloadN X67.here hx rfl (hb hby at_29) rfl k) ?_
      refine own_st (V := T67.setTop (mkF m 33 #[.val (.int p1), .val (.int p2), .val (.int p3), .val (.int p4), .val (.int (p1 &&& (2147483647 : Int32))), .val (.int (p1 &&& (2147483647 : Int32))), .unset, .unset, .unset, .unset, .unset, .unset, .unset, .unset] [(.int (255 : Int32)), (.int p3), (.int (0 : Int32)), (.ref b67), (.ref b67)])) (fun t k => XS.sipush X67.here hx rfl (hb hby at_30) k) ?_
      refine own_st (V := T67.setTop (mkF m 34 #[.val (.int p1), .val (.int p2), .val (.int p3), .val (.int p4), .val (.int (p1 &&& (2147483647 : Int32))), .val (.int (p1 &&& (2147483647 : Int32))), .unset, .unset, .unset, .unset, .unset, .unset, .unset, .unset] [(.int (p3 &&& (255 : Int32))), (.int (0 : Int32)), (.ref b67), (.ref b67)])) (fun t k => XS.iand X67.here hx rfl (hb hby at_33) rfl k) ?_
      refine own_st (V := T67.setTop (mkF m 35 #[.val (.int p1), .val (.int p2), .val (.int p3), .val (.int p4), .val (.int (p1 &&& (2147483647 : Int32))), .val (.int (p1 &&& (2147483647 : Int32))), .unset, .unset, .unset, .unset, .unset, .unset, .unset, .unset] [(.int ((p3 &&& (255 : Int32)).toUInt32.toUInt16.toUInt32.toInt32)), (.int (0 : Int32)), (.ref b67), (.ref b67)])) (fun t k => XS.i2c X67.here hx rfl (hb hby at_34) rfl k) ?_
      have Vk68 := V67_b67
      obtain ⟨cl68, Ar68, qk68, sz68, nn68, hs68, fs68⟩ := Vk68
      have hin68 : ¬ ((0 : Int32) < 0 ∨ cl68.slots.size ≤ ((0 : Int32)).toNatClampNeg) := inb_of sz68 ⟨by decide, by decide⟩
      obtain ⟨T68, h68, X68, e68, W68, st68⟩ := stC X67 hx hZ e67 Ar68 (j := (0 : Int32)) hin68 (g := (mkF m 35 #[.val (.int p1), .val (.int p2), .val (.int p3), .val (.int p4), .val (.int (p1 &&& (2147483647 : Int32))), .val (.int (p1 &&& (2147483647 : Int32))), .unset, .unset, .unset, .unset, .unset, .unset, .unset, .unset] [(.int ((p3 &&& (255 : Int32)).toUInt32.toUInt16.toUInt32.toInt32)), (.int (0 : Int32)), (.ref b67), (.ref b67)])) rfl rfl (hb hby at_35)
      have V68_b67 := Arv.set Ar68 qk68 sz68 nn68 hs68 fs68 (fits_nar_char _) W68 0 rfl (Nat.le_of_ble_eq_true rfl)
      have N68 := Fr.snoc X68 N0 gb_b67
      have Z0_68 : n0 ≤ h68.size := by rw [W68.size]; exact Z0_67
      have Od68 := Od67.wr W68 gb_b67
      refine own_st (V := T68.setTop (mkF m 36 #[.val (.int p1), .val (.int p2), .val (.int p3), .val (.int p4), .val (.int (p1 &&& (2147483647 : Int32))), .val (.int (p1 &&& (2147483647 : Int32))), .unset, .unset, .unset, .unset, .unset, .unset, .unset, .unset] [(.ref b67)])) (fun t k => st68 _ k) ?_
      refine own_st (V := T68.setTop (mkF m 38 #[.val (.int p1), .val (.int p2), .val (.int p3), .val (.int p4), .val (.int (p1 &&& (2147483647 : Int32))), .val (.int (p1 &&& (2147483647 : Int32))), .val (.ref b67), .unset, .unset, .unset, .unset, .unset, .unset, .unset] [])) (fun t k => XS.astore X68.here hx rfl (hb hby at_36) rfl rfl (l' := #[.val (.int p1), .val (.int p2), .val (.int p3), .val (.int p4), .val (.int (p1 &&& (2147483647 : Int32))), .val (.int (p1 &&& (2147483647 : Int32))), .val (.ref b67), .unset, .unset, .unset, .unset, .unset, .unset, .unset]) rfl k) ?_
      obtain ⟨T69, h69, X69, e69, E69, A69, D69, -, st69⟩ := newO X68 hx hZ hown (hw _ (List.mem_of_getElem? (i := 2) rfl)) (hw _ (List.mem_of_getElem? (i := 3) rfl)) (hw _ (List.mem_of_getElem? (i := 4) rfl)) e68 (g := (mkF m 38 #[.val (.int p1), .val (.int p2), .val (.int p3), .val (.int p4), .val (.int (p1 &&& (2147483647 : Int32))), .val (.int (p1 &&& (2147483647 : Int32))), .val (.ref b67), .unset, .unset, .unset, .unset, .unset, .unset, .unset] [])) rfl (hb hby at_38) (by decide) (by decide)
      obtain ⟨b69, g69⟩ : ∃ z, z = h68.size := ⟨_, rfl⟩
      rw [← g69] at A69 D69 st69
      have gb_b69 : n0 ≤ b69 := Nat.le_trans Z0_68 (Nat.le_of_eq g69.symm)
      have Z0_69 : n0 ≤ h69.size := Nat.le_trans Z0_68 E69.1
      have ne_b67_b69 : b67 ≠ b69 := Nat.ne_of_lt (Nat.lt_of_lt_of_le V68_b67.lt (Nat.le_of_eq g69.symm))
      have V69_b67 := V68_b67.ext E69
      have Od69 := Od68.ext E69
      have F69_b69_name : Fld Z h69 b69 "com/example/trust_grade/trustgrade/network/Level" "name" "Ljava/lang/String;" .null := D69 (Or.inr (hw _ (List.mem_of_getElem? (i := 39) rfl))) (ty := (.object "java/lang/String")) (by decide)
      have F69_b69_rank : Fld Z h69 b69 "com/example/trust_grade/trustgrade/network/Level" "rank" "I" (.int (0 : Int32)) := D69 (Or.inr (hw _ (List.mem_of_getElem? (i := 41) rfl))) (ty := .int) (by decide)
      refine own_st (V := T69.setTop (mkF m 41 #[.val (.int p1), .val (.int p2), .val (.int p3), .val (.int p4), .val (.int (p1 &&& (2147483647 : Int32))), .val (.int (p1 &&& (2147483647 : Int32))), .val (.ref b67), .unset, .unset, .unset, .unset, .unset, .unset, .unset] [(.ref b69)])) (fun t k => st69 _ k) ?_
      refine own_st (V := T69.setTop (mkF m 42 #[.val (.int p1), .val (.int p2), .val (.int p3), .val (.int p4), .val (.int (p1 &&& (2147483647 : Int32))), .val (.int (p1 &&& (2147483647 : Int32))), .val (.ref b67), .unset, .unset, .unset, .unset, .unset, .unset, .unset] [(.ref b69), (.ref b69)])) (fun t k => XS.dup X69.here hx rfl (hb hby at_41) rfl rfl k) ?_
      obtain ⟨T70, h70, X70, e70, E70, A70, D70, -, st70⟩ := newO X69 hx hZ hown (hw _ (List.mem_of_getElem? (i := 5) rfl)) (hw _ (List.mem_of_getElem? (i := 6) rfl)) (hw _ (List.mem_of_getElem? (i := 7) rfl)) e69 (g := (mkF m 42 #[.val (.int p1), .val (.int p2), .val (.int p3), .val (.int p4), .val (.int (p1 &&& (2147483647 : Int32))), .val (.int (p1 &&& (2147483647 : Int32))), .val (.ref b67), .unset, .unset, .unset, .unset, .unset, .unset, .unset] [(.ref b69), (.ref b69)])) rfl (hb hby at_42) (by decide) (by decide)
      obtain ⟨b70, g70⟩ : ∃ z, z = h69.size := ⟨_, rfl⟩
      rw [← g70] at A70 D70 st70
      have gb_b70 : n0 ≤ b70 := Nat.le_trans Z0_69 (Nat.le_of_eq g70.symm)
      have Z0_70 : n0 ≤ h70.size := Nat.le_trans Z0_69 E70.1
      have ne_b67_b70 : b67 ≠ b70 := Nat.ne_of_lt (Nat.lt_of_lt_of_le V69_b67.lt (Nat.le_of_eq g70.symm))
      have ne_b69_b70 : b69 ≠ b70 := Nat.ne_of_lt (Nat.lt_of_lt_of_le A69.lt (Nat.le_of_eq g70.symm))
      have F70_b69_name := F69_b69_name.ext E70
      have F70_b69_rank := F69_b69_rank.ext E70
      have Ex70_b69 := A69.ext E70
      have V70_b67 := V69_b67.ext E70
      have Od70 := Od69.ext E70
      have F70_b70_coder : Fld Z h70 b70 "java/lang/String" "coder" "B" (.int (0 : Int32)) := D70 (Or.inr (hw _ (List.mem_of_getElem? (i := 31) rfl))) (ty := .byte) (by decide)
      have F70_b70_value : Fld Z h70 b70 "java/lang/String" "value" "[B" .null := D70 (Or.inr (hw _ (List.mem_of_getElem? (i := 33) rfl))) (ty := (.array .byte)) (by decide)
      refine own_st (V := T70.setTop (mkF m 45 #[.val (.int p1), .val (.int p2), .val (.int p3), .val (.int p4), .val (.int (p1 &&& (2147483647 : Int32))), .val (.int (p1 &&& (2147483647 : Int32))), .val (.ref b67), .unset, .unset, .unset, .unset, .unset, .unset, .unset] [(.ref b70), (.ref b69), (.ref b69)])) (fun t k => st70 _ k) ?_
      refine own_st (V := T70.setTop (mkF m 46 #[.val (.int p1), .val (.int p2), .val (.int p3), .val (.int p4), .val (.int (p1 &&& (2147483647 : Int32))), .val (.int (p1 &&& (2147483647 : Int32))), .val (.ref b67), .unset, .unset, .unset, .unset, .unset, .unset, .unset] [(.ref b70), (.ref b70), (.ref b69), (.ref b69)])) (fun t k => XS.dup X70.here hx rfl (hb hby at_45) rfl rfl k) ?_
      refine own_st (V := T70.setTop (mkF m 48 #[.val (.int p1), .val (.int p2), .val (.int p3), .val (.int p4), .val (.int (p1 &&& (2147483647 : Int32))), .val (.int (p1 &&& (2147483647 : Int32))), .val (.ref b67), .unset, .unset, .unset, .unset, .unset, .unset, .unset] [(.ref b67), (.ref b70), (.ref b70), (.ref b69), (.ref b69)])) (fun t k => XS.aload X70.here hx rfl (hb hby at_46) rfl rfl k) ?_
      obtain ⟨_, _, ⟨T71, L71, k71, n71⟩, -, X71, ⟨Lc71, hQ71, l71, y71, z71⟩, st71⟩ := X70.specialBack hx (y := (⟨"java/lang/String", "<init>", "([C)V"⟩ : MethodName)) rfl hown (mvT hZ (hw _ (List.mem_of_getElem? (i := 8) rfl))) (mvT hZ (hw _ (List.mem_of_getElem? (i := 9) rfl))) (mvT hZ (hw _ (List.mem_of_getElem? (i := 10) rfl))) (by decide) (backOf (W := 3) (own_s1_1 l Z a0 hw [] b70 b67 k67 cs (nar .char ((p3 &&& (255 : Int32)).toUInt32.toUInt16.toUInt32.toInt32)) h70 n0 Z0_70 Od70 SC hcs A70 gb_b70 F70_b70_value F70_b70_coder V70_b67 ne_b67_b70 (own_ch2 p3)) hZ (hw _ (List.mem_of_getElem? (i := 10) rfl)) (hw _ (List.mem_of_getElem? (i := 7) rfl)) (by decide) (by decide)) (g := (mkF m 48 #[.val (.int p1), .val (.int p2), .val (.int p3), .val (.int p4), .val (.int (p1 &&& (2147483647 : Int32))), .val (.int (p1 &&& (2147483647 : Int32))), .val (.ref b67), .unset, .unset, .unset, .unset, .unset, .unset, .unset] [(.ref b67), (.ref b70), (.ref b70), (.ref b69), (.ref b69)])) rfl (by rw [hml]; rfl) (Steps.refl _) (a := b70) (argsL := [(.ref b67)]) (rest := [(.ref b70), (.ref b69), (.ref b69)]) (lenOf own_pd7 rfl) rfl (by show 2 * 0 + _ ≤ _; exact Nat.le_of_eq rfl) (hb hby at_48) (fun _ _ => ⟨rfl, e70, (by decide : 3 + 1 ≤ _), (by decide : 7 + 1 ≤ _)⟩)
      dsimp only [Pt.U, Pt.locs, Pt.cells, Pt.slots] at X71 l71 y71 z71 st71 hQ71
      subst l71 y71 z71
      obtain ⟨rfl, N71q, K71, Ex71_q, t71, kbt71, vst71, szt71', Fq71_0, Vq71⟩ := hQ71
      have N71 := Fr.app N68 N71q
      have Z0_71 : n0 ≤ T71.heap.size := Nat.le_trans Z0_70 K71.1
      have ne_b69_t71 : b69 ≠ t71 := Nat.ne_of_lt (Nat.lt_of_lt_of_le Ex70_b69.lt szt71')
      have ne_b70_t71 : b70 ≠ t71 := Nat.ne_of_lt (Nat.lt_of_lt_of_le A70.lt szt71')
      have ne_b67_t71 : b67 ≠ t71 := Nat.ne_of_lt (Nat.lt_of_lt_of_le V70_b67.lt szt71')
      have F71_b69_name := F70_b69_name.keep K71 (ninS ne_b69_b70 nin0)
      have F71_b69_rank := F70_b69_rank.keep K71 (ninS ne_b69_b70 nin0)
      have Ex71_b69 := Ex70_b69.keep K71
      have Ex71_b70 := A70.keep K71
      have V71_b67 := V70_b67.keep K71 (ninS ne_b67_b70 nin0)
      have Od71 := Od70.keep K71 (allS gb_b70 all0)
      refine own_st (V := T71.setTop (mkF m 51 #[.val (.int p1), .val (.int p2), .val (.int p3), .val (.int p4), .val (.int (p1 &&& (2147483647 : Int32))), .val (.int (p1 &&& (2147483647 : Int32))), .val (.ref b67), .unset, .unset, .unset, .unset, .unset, .unset, .unset] [(.ref b70), (.ref b69), (.ref b69)])) (fun t k => st71.trans k) ?_
      refine own_st (V := T71.setTop (mkF m 53 #[.val (.int p1), .val (.int p2), .val (.int p3), .val (.int p4), .val (.int (p1 &&& (2147483647 : Int32))), .val (.int (p1 &&& (2147483647 : Int32))), .val (.ref b67), .unset, .unset, .unset, .unset, .unset, .unset, .unset] [(.int (p1 &&& (2147483647 : Int32))), (.ref b70), (.ref b69), (.ref b69)])) (fun t k => XS.iload X71.here hx rfl (hb hby at_51) rfl k) ?_
      obtain ⟨_, _, ⟨T72, L72, k72, n72⟩, -, X72, ⟨Lc72, hQ72, l72, y72, z72⟩, st72⟩ := X71.specialBack hx (y := (⟨"com/example/trust_grade/trustgrade/network/Level", "<init>", "(Ljava/lang/String;I)V"⟩ : MethodName)) rfl hown (mvT hZ (hw _ (List.mem_of_getElem? (i := 34) rfl))) (mvT hZ (hw _ (List.mem_of_getElem? (i := 35) rfl))) (mvT hZ (hw _ (List.mem_of_getElem? (i := 36) rfl))) (by decide) (backOf (W := 1) (own_li l Z a0 hw [] b69 b70 (p1 &&& (2147483647 : Int32)) T71.heap n0 Z0_71 F71_b69_name F71_b69_rank Ex71_b69 gb_b69) hZ (hw _ (List.mem_of_getElem? (i := 36) rfl)) (hw _ (List.mem_of_getElem? (i := 4) rfl)) (by decide) (by decide)) (g := (mkF m 53 #[.val (.int p1), .val (.int p2), .val (.int p3), .val (.int p4), .val (.int (p1 &&& (2147483647 : Int32))), .val (.int (p1 &&& (2147483647 : Int32))), .val (.ref b67), .unset, .unset, .unset, .unset, .unset, .unset, .unset] [(.int (p1 &&& (2147483647 : Int32))), (.ref b70), (.ref b69), (.ref b69)])) rfl (by rw [hml]; rfl) (Steps.refl _) (a := b69) (argsL := [(.ref b70), (.int (p1 &&& (2147483647 : Int32)))]) (rest := [(.ref b69)]) (lenOf own_pd8 rfl) rfl (by show 2 * 0 + _ ≤ _; exact Nat.le_of_eq rfl) (hb hby at_53) (fun _ _ => ⟨rfl, rfl, (by decide : 4 + 0 ≤ _), (by decide : 8 + 0 ≤ _)⟩)
      dsimp only [Pt.U, Pt.locs, Pt.cells, Pt.slots] at X72 l72 y72 z72 st72 hQ72
      subst l72 y72 z72
      obtain ⟨rfl, N72q, K72, Ex72_q, Fq72_0⟩ := hQ72
      have N72 := Fr.app N71 N72q
      have Z0_72 : n0 ≤ T72.heap.size := Nat.le_trans Z0_71 K72.1
      have F72_b70_value := Fq71_0.keep K72 (ninS (Ne.symm ne_b69_b70) nin0)
      have Ex72_b69 := Ex71_b69.keep K72
      have Ex72_b70 := Ex71_q.keep K72
      have V72_b67 := V71_b67.keep K72 (ninS ne_b67_b69 nin0)
      have V72_t71 := Vq71.keep K72 (ninS (Ne.symm ne_b69_t71) nin0)
      have Od72 := Od71.keep K72 (allS gb_b69 all0)
      refine own_st (V := T72.setTop (mkF m 56 #[.val (.int p1), .val (.int p2), .val (.int p3), .val (.int p4), .val (.int (p1 &&& (2147483647 : Int32))), .val (.int (p1 &&& (2147483647 : Int32))), .val (.ref b67), .unset, .unset, .unset, .unset, .unset, .unset, .unset] [(.ref b69)])) (fun t k => st72.trans k) ?_
      refine own_st (V := T72.setTop (mkF m 58 #[.val (.int p1), .val (.int p2), .val (.int p3), .val (.int p4), .val (.int (p1 &&& (2147483647 : Int32))), .val (.int (p1 &&& (2147483647 : Int32))), .val (.ref b67), .val (.ref b69), .unset, .unset, .unset, .unset, .unset, .unset] [])) (fun t k => XS.astore X72.here hx rfl (hb hby at_56) rfl rfl (l' := #[.val (.int p1), .val (.int p2), .val (.int p3), .val (.int p4), .val (.int (p1 &&& (2147483647 : Int32))), .val (.int (p1 &&& (2147483647 : Int32))), .val (.ref b67), .val (.ref b69), .unset, .unset, .unset, .unset, .unset, .unset]) rfl k) ?_
      obtain ⟨T73, h73, X73, e73, E73, A73, D73, -, st73⟩ := newO X72 hx hZ hown (hw _ (List.mem_of_getElem? (i := 2) rfl)) (hw _ (List.mem_of_getElem? (i := 3) rfl)) (hw _ (List.mem_of_getElem? (i := 4) rfl)) rfl (g := (mkF m 58 #[.val (.int p1), .val (.int p2), .val (.int p3), .val (.int p4), .val (.int (p1 &&& (2147483647 : Int32))), .val (.int (p1 &&& (2147483647 : Int32))), .val (.ref b67), .val (.ref b69), .unset, .unset, .unset, .unset, .unset, .unset] [])) rfl (hb hby at_58) (by decide) (by decide)
      obtain ⟨b73, g73⟩ : ∃ z, z = T72.heap.size := ⟨_, rfl⟩
      rw [← g73] at A73 D73 st73
      have gb_b73 : n0 ≤ b73 := Nat.le_trans Z0_72 (Nat.le_of_eq g73.symm)
      have Z0_73 : n0 ≤ h73.size := Nat.le_trans Z0_72 E73.1
      have ne_b67_b73 : b67 ≠ b73 := Nat.ne_of_lt (Nat.lt_of_lt_of_le V72_b67.lt (Nat.le_of_eq g73.symm))
      have ne_t71_b73 : t71 ≠ b73 := Nat.ne_of_lt (Nat.lt_of_lt_of_le V72_t71.lt (Nat.le_of_eq g73.symm))
      have ne_b69_b73 : b69 ≠ b73 := Nat.ne_of_lt (Nat.lt_of_lt_of_le Ex72_q.lt (Nat.le_of_eq g73.symm))
      have ne_b70_b73 : b70 ≠ b73 := Nat.ne_of_lt (Nat.lt_of_lt_of_le Ex72_b70.lt (Nat.le_of_eq g73.symm))
      have F73_b70_value := F72_b70_value.ext E73
      have F73_b69_rank := Fq72_0.ext E73
      have Ex73_b69 := Ex72_q.ext E73
      have Ex73_b70 := Ex72_b70.ext E73
      have V73_b67 := V72_b67.ext E73
      have V73_t71 := V72_t71.ext E73
      have Od73 := Od72.ext E73
      have F73_b73_name : Fld Z h73 b73 "com/example/trust_grade/trustgrade/network/Level" "name" "Ljava/lang/String;" .null := D73 (Or.inr (hw _ (List.mem_of_getElem? (i := 39) rfl))) (ty := (.object "java/lang/String")) (by decide)
      have F73_b73_rank : Fld Z h73 b73 "com/example/trust_grade/trustgrade/network/Level" "rank" "I" (.int (0 : Int32)) := D73 (Or.inr (hw _ (List.mem_of_getElem? (i := 41) rfl))) (ty := .int) (by decide)
      refine own_st (V := T73.setTop (mkF m 61 #[.val (.int p1), .val (.int p2), .val (.int p3), .val (.int p4), .val (.int (p1 &&& (2147483647 : Int32))), .val (.int (p1 &&& (2147483647 : Int32))), .val (.ref b67), .val (.ref b69), .unset, .unset, .unset, .unset, .unset, .unset] [(.ref b73)])) (fun t k => st73 _ k) ?_
      refine own_st (V := T73.setTop (mkF m 62 #[.val (.int p1), .val (.int p2), .val (.int p3), .val (.int p4), .val (.int (p1 &&& (2147483647 : Int32))), .val (.int (p1 &&& (2147483647 : Int32))), .val (.ref b67), .val (.ref b69), .unset, .unset, .unset, .unset, .unset, .unset] [(.ref b73), (.ref b73)])) (fun t k => XS.dup X73.here hx rfl (hb hby at_61) rfl rfl k) ?_
      refine own_st (V := T73.setTop (mkF m 63 #[.val (.int p1), .val (.int p2), .val (.int p3), .val (.int p4), .val (.int (p1 &&& (2147483647 : Int32))), .val (.int (p1 &&& (2147483647 : Int32))), .val (.ref b67), .val (.ref b69), .unset, .unset, .unset, .unset, .unset, .unset] [(.int p4), (.ref b73), (.ref b73)])) (fun t k => XS.iloadN X73.here hx rfl (hb hby at_62) rfl k) ?_
      refine own_st (V := T73.setTop (mkF m 66 #[.val (.int p1), .val (.int p2), .val (.int p3), .val (.int p4), .val (.int (p1 &&& (2147483647 : Int32))), .val (.int (p1 &&& (2147483647 : Int32))), .val (.ref b67), .val (.ref b69), .unset, .unset, .unset, .unset, .unset, .unset] [(.int (255 : Int32)), (.int p4), (.ref b73), (.ref b73)])) (fun t k => XS.sipush X73.here hx rfl (hb hby at_63) k) ?_
      refine own_st (V := T73.setTop (mkF m 67 #[.val (.int p1), .val (.int p2), .val (.int p3), .val (.int p4), .val (.int (p1 &&& (2147483647 : Int32))), .val (.int (p1 &&& (2147483647 : Int32))), .val (.ref b67), .val (.ref b69), .unset, .unset, .unset, .unset, .unset, .unset] [(.int (p4 &&& (255 : Int32))), (.ref b73), (.ref b73)])) (fun t k => XS.iand X73.here hx rfl (hb hby at_66) rfl k) ?_
      refine own_st (V := T73.setTop (mkF m 68 #[.val (.int p1), .val (.int p2), .val (.int p3), .val (.int p4), .val (.int (p1 &&& (2147483647 : Int32))), .val (.int (p1 &&& (2147483647 : Int32))), .val (.ref b67), .val (.ref b69), .unset, .unset, .unset, .unset, .unset, .unset] [(.int ((p4 &&& (255 : Int32)).toUInt32.toUInt16.toUInt32.toInt32)), (.ref b73), (.ref b73)])) (fun t k => XS.i2c X73.here hx rfl (hb hby at_67) rfl k) ?_
      obtain ⟨_, _, ⟨T74, L74, k74, n74⟩, -, X74, ⟨Lc74, hQ74, l74, y74, z74⟩, st74⟩ := Jvm.LawKit.callS X73 hx (y := (⟨"java/lang/String", "valueOf", "(C)Ljava/lang/String;"⟩ : MethodName)) hown (mvT hZ (hw _ (List.mem_of_getElem? (i := 42) rfl))) (mvT hZ (hw _ (List.mem_of_getElem? (i := 43) rfl))) (mvT hZ (hw _ (List.mem_of_getElem? (i := 7) rfl))) (mvT hZ (hw _ (List.mem_of_getElem? (i := 44) rfl))) (by decide) (backOf (W := 2) (own_sv l Z a0 hw [] ((p4 &&& (255 : Int32)).toUInt32.toUInt16.toUInt32.toInt32) cs h73 n0 Z0_73 Od73 SC hcs (own_ch p4)) hZ (hw _ (List.mem_of_getElem? (i := 44) rfl)) (hw _ (List.mem_of_getElem? (i := 7) rfl)) (by decide) (by decide)) (g := (mkF m 68 #[.val (.int p1), .val (.int p2), .val (.int p3), .val (.int p4), .val (.int (p1 &&& (2147483647 : Int32))), .val (.int (p1 &&& (2147483647 : Int32))), .val (.ref b67), .val (.ref b69), .unset, .unset, .unset, .unset, .unset, .unset] [(.int ((p4 &&& (255 : Int32)).toUInt32.toUInt16.toUInt32.toInt32)), (.ref b73), (.ref b73)])) rfl (by rw [hml]; rfl) (argsL := [(.int ((p4 &&& (255 : Int32)).toUInt32.toUInt16.toUInt32.toInt32))]) (rest := [(.ref b73), (.ref b73)]) (lenOf own_pd9 rfl) rfl (by show 2 * 0 + _ ≤ _; exact Nat.le_of_eq rfl) (hb hby at_68) (fun _ _ => ⟨rfl, e73, (by decide : 5 + 2 ≤ _), (by decide : 10 + 5 ≤ _)⟩)
      dsimp only [Pt.U, Pt.locs, Pt.cells, Pt.slots] at X74 l74 y74 z74 st74 hQ74
      subst l74 y74 z74
      obtain ⟨t74, rfl, N74q, K74⟩ := hQ74
      have N74 := Fr.app N72 N74q
      have Z0_74 : n0 ≤ T74.heap.size := Nat.le_trans Z0_73 K74.1
      have F74_b70_value := F73_b70_value.keep K74 nin0
      have F74_b69_rank := F73_b69_rank.keep K74 nin0
      have F74_b73_name := F73_b73_name.keep K74 nin0
      have F74_b73_rank := F73_b73_rank.keep K74 nin0
      have Ex74_b69 := Ex73_b69.keep K74
      have Ex74_b70 := Ex73_b70.keep K74
      have Ex74_b73 := A73.keep K74
      have V74_b67 := V73_b67.keep K74 nin0
      have V74_t71 := V73_t71.keep K74 nin0
      have Od74 := Od73.keep K74 all0
      refine own_st (V := T74.setTop (mkF m 71 #[.val (.int p1), .val (.int p2), .val (.int p3), .val (.int p4), .val (.int (p1 &&& (2147483647 : Int32))), .val (.int (p1 &&& (2147483647 : Int32))), .val (.ref b67), .val (.ref b69), .unset, .unset, .unset, .unset, .unset, .unset] [(.ref t74), (.ref b73), (.ref b73)])) (fun t k => st74 _ k) ?_
      refine own_st (V := T74.setTop (mkF m 73 #[.val (.int p1), .val (.int p2), .val (.int p3), .val (.int p4), .val (.int (p1 &&& (2147483647 : Int32))), .val (.int (p1 &&& (2147483647 : Int32))), .val (.ref b67), .val (.ref b69), .unset, .unset, .unset, .unset, .unset, .unset] [(.int (p1 &&& (2147483647 : Int32))), (.ref t74), (.ref b73), (.ref b73)])) (fun t k => XS.iload X74.here hx rfl (hb hby at_71) rfl k) ?_
      obtain ⟨_, _, ⟨T75, L75, k75, n75⟩, -, X75, ⟨Lc75, hQ75, l75, y75, z75⟩, st75⟩ := X74.specialBack hx (y := (⟨"com/example/trust_grade/trustgrade/network/Level", "<init>", "(Ljava/lang/String;I)V"⟩ : MethodName)) rfl hown (mvT hZ (hw _ (List.mem_of_getElem? (i := 34) rfl))) (mvT hZ (hw _ (List.mem_of_getElem? (i := 35) rfl))) (mvT hZ (hw _ (List.mem_of_getElem? (i := 36) rfl))) (by decide) (backOf (W := 1) (own_li l Z a0 hw [] b73 t74 (p1 &&& (2147483647 : Int32)) T74.heap n0 Z0_74 F74_b73_name F74_b73_rank Ex74_b73 gb_b73) hZ (hw _ (List.mem_of_getElem? (i := 36) rfl)) (hw _ (List.mem_of_getElem? (i := 4) rfl)) (by decide) (by decide)) (g := (mkF m 73 #[.val (.int p1), .val (.int p2), .val (.int p3), .val (.int p4), .val (.int (p1 &&& (2147483647 : Int32))), .val (.int (p1 &&& (2147483647 : Int32))), .val (.ref b67), .val (.ref b69), .unset, .unset, .unset, .unset, .unset, .unset] [(.int (p1 &&& (2147483647 : Int32))), (.ref t74), (.ref b73), (.ref b73)])) rfl (by rw [hml]; rfl) (Steps.refl _) (a := b73) (argsL := [(.ref t74), (.int (p1 &&& (2147483647 : Int32)))]) (rest := [(.ref b73)]) (lenOf own_pd8 rfl) rfl (by show 2 * 0 + _ ≤ _; exact Nat.le_of_eq rfl) (hb hby at_73) (fun _ _ => ⟨rfl, rfl, (by decide : 7 + 0 ≤ _), (by decide : 15 + 0 ≤ _)⟩)
      dsimp only [Pt.U, Pt.locs, Pt.cells, Pt.slots] at X75 l75 y75 z75 st75 hQ75
      subst l75 y75 z75
      obtain ⟨rfl, N75q, K75, Ex75_q, Fq75_0⟩ := hQ75
      have N75 := Fr.app N74 N75q
      have Z0_75 : n0 ≤ T75.heap.size := Nat.le_trans Z0_74 K75.1
      have F75_b70_value := F74_b70_value.keep K75 (ninS ne_b70_b73 nin0)
      have F75_b69_rank := F74_b69_rank.keep K75 (ninS ne_b69_b73 nin0)
      have Ex75_b69 := Ex74_b69.keep K75
      have Ex75_b70 := Ex74_b70.keep K75
      have Ex75_b73 := Ex74_b73.keep K75
      have V75_b67 := V74_b67.keep K75 (ninS ne_b67_b73 nin0)
      have V75_t71 := V74_t71.keep K75 (ninS ne_t71_b73 nin0)
      have Od75 := Od74.keep K75 (allS gb_b73 all0)
      refine own_st (V := T75.setTop (mkF m 76 #[.val (.int p1), .val (.int p2), .val (.int p3), .val (.int p4), .val (.int (p1 &&& (2147483647 : Int32))), .val (.int (p1 &&& (2147483647 : Int32))), .val (.ref b67), .val (.ref b69), .unset, .unset, .unset, .unset, .unset, .unset] [(.ref b73)])) (fun t k => st75.trans k) ?_
      refine own_st (V := T75.setTop (mkF m 78 #[.val (.int p1), .val (.int p2), .val (.int p3), .val (.int p4), .val (.int (p1 &&& (2147483647 : Int32))), .val (.int (p1 &&& (2147483647 : Int32))), .val (.ref b67), .val (.ref b69), .val (.ref b73), .unset, .unset, .unset, .unset, .unset] [])) (fun t k => XS.astore X75.here hx rfl (hb hby at_76) rfl rfl (l' := #[.val (.int p1), .val (.int p2), .val (.int p3), .val (.int p4), .val (.int (p1 &&& (2147483647 : Int32))), .val (.int (p1 &&& (2147483647 : Int32))), .val (.ref b67), .val (.ref b69), .val (.ref b73), .unset, .unset, .unset, .unset, .unset]) rfl k) ?_
      refine own_st (V := T75.setTop (mkF m 80 #[.val (.int p1), .val (.int p2), .val (.int p3), .val (.int p4), .val (.int (p1 &&& (2147483647 : Int32))), .val (.int (p1 &&& (2147483647 : Int32))), .val (.ref b67), .val (.ref b69), .val (.ref b73), .unset, .unset, .unset, .unset, .unset] [(.int (p1 &&& (2147483647 : Int32)))])) (fun t k => XS.iload X75.here hx rfl (hb hby at_78) rfl k) ?_
      refine own_st (V := T75.setTop (mkF m 81 #[.val (.int p1), .val (.int p2), .val (.int p3), .val (.int p4), .val (.int (p1 &&& (2147483647 : Int32))), .val (.int (p1 &&& (2147483647 : Int32))), .val (.ref b67), .val (.ref b69), .val (.ref b73), .unset, .unset, .unset, .unset, .unset] [(.long ((p1 &&& (2147483647 : Int32)).toInt64))])) (fun t k => XS.i2l X75.here hx rfl (hb hby at_80) rfl k) ?_
      refine own_st (V := T75.setTop (mkF m 83 #[.val (.int p1), .val (.int p2), .val (.int p3), .val (.int p4), .val (.int (p1 &&& (2147483647 : Int32))), .val (.int (p1 &&& (2147483647 : Int32))), .val (.ref b67), .val (.ref b69), .val (.ref b73), .unset, .unset, .unset, .unset, .unset] [(.int (p1 &&& (2147483647 : Int32))), (.long ((p1 &&& (2147483647 : Int32)).toInt64))])) (fun t k => XS.iload X75.here hx rfl (hb hby at_81) rfl k) ?_
      refine own_st (V := T75.setTop (mkF m 84 #[.val (.int p1), .val (.int p2), .val (.int p3), .val (.int p4), .val (.int (p1 &&& (2147483647 : Int32))), .val (.int (p1 &&& (2147483647 : Int32))), .val (.ref b67), .val (.ref b69), .val (.ref b73), .unset, .unset, .unset, .unset, .unset] [(.long ((p1 &&& (2147483647 : Int32)).toInt64)), (.long ((p1 &&& (2147483647 : Int32)).toInt64))])) (fun t k => XS.i2l X75.here hx rfl (hb hby at_83) rfl k) ?_
      refine own_st (V := T75.setTop (mkF m 85 #[.val (.int p1), .val (.int p2), .val (.int p3), .val (.int p4), .val (.int (p1 &&& (2147483647 : Int32))), .val (.int (p1 &&& (2147483647 : Int32))), .val (.ref b67), .val (.ref b69), .val (.ref b73), .unset, .unset, .unset, .unset, .unset] [(.long (((p1 &&& (2147483647 : Int32)).toInt64) - ((p1 &&& (2147483647 : Int32)).toInt64)))])) (fun t k => XS.lsub X75.here hx rfl (hb hby at_84) rfl k) ?_
      refine own_st (V := T75.setTop (mkF m 87 #[.val (.int p1), .val (.int p2), .val (.int p3), .val (.int p4), .val (.int (p1 &&& (2147483647 : Int32))), .val (.int (p1 &&& (2147483647 : Int32))), .val (.ref b67), .val (.ref b69), .val (.ref b73), .val (.long (((p1 &&& (2147483647 : Int32)).toInt64) - ((p1 &&& (2147483647 : Int32)).toInt64))), .second, .unset, .unset, .unset] [])) (fun t k => XS.lstore X75.here hx rfl (hb hby at_85) rfl (l' := #[.val (.int p1), .val (.int p2), .val (.int p3), .val (.int p4), .val (.int (p1 &&& (2147483647 : Int32))), .val (.int (p1 &&& (2147483647 : Int32))), .val (.ref b67), .val (.ref b69), .val (.ref b73), .val (.long (((p1 &&& (2147483647 : Int32)).toInt64) - ((p1 &&& (2147483647 : Int32)).toInt64))), .second, .unset, .unset, .unset]) rfl k) ?_
      refine own_st (V := T75.setTop (mkF m 89 #[.val (.int p1), .val (.int p2), .val (.int p3), .val (.int p4), .val (.int (p1 &&& (2147483647 : Int32))), .val (.int (p1 &&& (2147483647 : Int32))), .val (.ref b67), .val (.ref b69), .val (.ref b73), .val (.long (((p1 &&& (2147483647 : Int32)).toInt64) - ((p1 &&& (2147483647 : Int32)).toInt64))), .second, .unset, .unset, .unset] [(.ref b69)])) (fun t k => XS.aload X75.here hx rfl (hb hby at_87) rfl rfl k) ?_
      refine own_st (V := T75.setTop (mkF m 91 #[.val (.int p1), .val (.int p2), .val (.int p3), .val (.int p4), .val (.int (p1 &&& (2147483647 : Int32))), .val (.int (p1 &&& (2147483647 : Int32))), .val (.ref b67), .val (.ref b69), .val (.ref b73), .val (.long (((p1 &&& (2147483647 : Int32)).toInt64) - ((p1 &&& (2147483647 : Int32)).toInt64))), .second, .unset, .unset, .unset] [(.ref b73), (.ref b69)])) (fun t k => XS.aload X75.here hx rfl (hb hby at_89) rfl rfl k) ?_
      obtain ⟨cq76, kq76, q76a, q76b, q76c⟩ := isOf hZ rfl Ex75_b69
      obtain ⟨_, _, ⟨T76, L76, k76, n76⟩, -, X76, ⟨Lc76, hQ76, l76, y76, z76⟩, st76⟩ := X75.virtualBack hx (y := (⟨"com/example/trust_grade/trustgrade/network/Level", "isAbove", "(Lcom/example/trust_grade/trustgrade/network/Level;)Z"⟩ : MethodName)) (z := (⟨"com/example/trust_grade/trustgrade/network/Level", "isAbove", "(Lcom/example/trust_grade/trustgrade/network/Level;)Z"⟩ : MethodName)) hown (mvT hZ (hw _ (List.mem_of_getElem? (i := 56) rfl))) (mvT hZ (hw _ (List.mem_of_getElem? (i := 57) rfl))) (notFace_of_selects (args := #[]) (mvT hZ (hw _ (List.mem_of_getElem? (i := 59) rfl)))) (mvT hZ (hw _ (List.mem_of_getElem? (i := 59) rfl))) (mvT hZ (hw _ (List.mem_of_getElem? (i := 58) rfl))) (by decide) (backOf (W := 0) (own_ab1 l Z a0 hw [] b69 b73 (p1 &&& (2147483647 : Int32)) (p1 &&& (2147483647 : Int32)) T75.heap n0 Z0_75 F75_b69_rank Fq75_0 hg) hZ (hw _ (List.mem_of_getElem? (i := 60) rfl)) (hw _ (List.mem_of_getElem? (i := 4) rfl)) (by decide) (by decide)) q76a q76c (g := (mkF m 91 #[.val (.int p1), .val (.int p2), .val (.int p3), .val (.int p4), .val (.int (p1 &&& (2147483647 : Int32))), .val (.int (p1 &&& (2147483647 : Int32))), .val (.ref b67), .val (.ref b69), .val (.ref b73), .val (.long (((p1 &&& (2147483647 : Int32)).toInt64) - ((p1 &&& (2147483647 : Int32)).toInt64))), .second, .unset, .unset, .unset] [(.ref b73), (.ref b69)])) rfl (by rw [hml]; rfl) (Steps.refl _) (argsL := [(.ref b73)]) (rest := []) (lenOf own_pd10 rfl) rfl (by show 2 * 0 + _ ≤ _; exact Nat.le_of_eq rfl) (hb hby at_91) (fun _ _ => ⟨rfl, rfl, (by decide : 7 + 0 ≤ _), (by decide : 15 + 0 ≤ _)⟩)
      dsimp only [Pt.U, Pt.locs, Pt.cells, Pt.slots] at X76 l76 y76 z76 st76 hQ76
      subst l76 y76 z76
      obtain ⟨rfl, N76q, e76⟩ := hQ76
      have N76 := Fr.app N75 N76q
      refine own_st (V := T76.setTop (mkF m 94 #[.val (.int p1), .val (.int p2), .val (.int p3), .val (.int p4), .val (.int (p1 &&& (2147483647 : Int32))), .val (.int (p1 &&& (2147483647 : Int32))), .val (.ref b67), .val (.ref b69), .val (.ref b73), .val (.long (((p1 &&& (2147483647 : Int32)).toInt64) - ((p1 &&& (2147483647 : Int32)).toInt64))), .second, .unset, .unset, .unset] [(.int (1 : Int32))])) (fun t k => st76.trans k) ?_
      refine own_st (V := T76.setTop (mkF m 96 #[.val (.int p1), .val (.int p2), .val (.int p3), .val (.int p4), .val (.int (p1 &&& (2147483647 : Int32))), .val (.int (p1 &&& (2147483647 : Int32))), .val (.ref b67), .val (.ref b69), .val (.ref b73), .val (.long (((p1 &&& (2147483647 : Int32)).toInt64) - ((p1 &&& (2147483647 : Int32)).toInt64))), .second, .val (.int (1 : Int32)), .unset, .unset] [])) (fun t k => XS.istore X76.here hx rfl (hb hby at_94) rfl (l' := #[.val (.int p1), .val (.int p2), .val (.int p3), .val (.int p4), .val (.int (p1 &&& (2147483647 : Int32))), .val (.int (p1 &&& (2147483647 : Int32))), .val (.ref b67), .val (.ref b69), .val (.ref b73), .val (.long (((p1 &&& (2147483647 : Int32)).toInt64) - ((p1 &&& (2147483647 : Int32)).toInt64))), .second, .val (.int (1 : Int32)), .unset, .unset]) rfl k) ?_
      refine own_st (V := T76.setTop (mkF m 98 #[.val (.int p1), .val (.int p2), .val (.int p3), .val (.int p4), .val (.int (p1 &&& (2147483647 : Int32))), .val (.int (p1 &&& (2147483647 : Int32))), .val (.ref b67), .val (.ref b69), .val (.ref b73), .val (.long (((p1 &&& (2147483647 : Int32)).toInt64) - ((p1 &&& (2147483647 : Int32)).toInt64))), .second, .val (.int (1 : Int32)), .unset, .unset] [(.ref b73)])) (fun t k => XS.aload X76.here hx rfl (hb hby at_96) rfl rfl k) ?_
      refine own_st (V := T76.setTop (mkF m 100 #[.val (.int p1), .val (.int p2), .val (.int p3), .val (.int p4), .val (.int (p1 &&& (2147483647 : Int32))), .val (.int (p1 &&& (2147483647 : Int32))), .val (.ref b67), .val (.ref b69), .val (.ref b73), .val (.long (((p1 &&& (2147483647 : Int32)).toInt64) - ((p1 &&& (2147483647 : Int32)).toInt64))), .second, .val (.int (1 : Int32)), .unset, .unset] [(.ref b69), (.ref b73)])) (fun t k => XS.aload X76.here hx rfl (hb hby at_98) rfl rfl k) ?_
      obtain ⟨cq77, kq77, q77a, q77b, q77c⟩ := isOf hZ e76 Ex75_q
      obtain ⟨_, _, ⟨T77, L77, k77, n77⟩, -, X77, ⟨Lc77, hQ77, l77, y77, z77⟩, st77⟩ := X76.virtualBack hx (y := (⟨"com/example/trust_grade/trustgrade/network/Level", "isAbove", "(Lcom/example/trust_grade/trustgrade/network/Level;)Z"⟩ : MethodName)) (z := (⟨"com/example/trust_grade/trustgrade/network/Level", "isAbove", "(Lcom/example/trust_grade/trustgrade/network/Level;)Z"⟩ : MethodName)) hown (mvT hZ (hw _ (List.mem_of_getElem? (i := 56) rfl))) (mvT hZ (hw _ (List.mem_of_getElem? (i := 57) rfl))) (notFace_of_selects (args := #[]) (mvT hZ (hw _ (List.mem_of_getElem? (i := 59) rfl)))) (mvT hZ (hw _ (List.mem_of_getElem? (i := 59) rfl))) (mvT hZ (hw _ (List.mem_of_getElem? (i := 58) rfl))) (by decide) (backOf (W := 0) (own_ab0 l Z a0 hw [] b73 b69 (p1 &&& (2147483647 : Int32)) (p1 &&& (2147483647 : Int32)) T75.heap n0 Z0_75 Fq75_0 F75_b69_rank hl) hZ (hw _ (List.mem_of_getElem? (i := 60) rfl)) (hw _ (List.mem_of_getElem? (i := 4) rfl)) (by decide) (by decide)) q77a q77c (g := (mkF m 100 #[.val (.int p1), .val (.int p2), .val (.int p3), .val (.int p4), .val (.int (p1 &&& (2147483647 : Int32))), .val (.int (p1 &&& (2147483647 : Int32))), .val (.ref b67), .val (.ref b69), .val (.ref b73), .val (.long (((p1 &&& (2147483647 : Int32)).toInt64) - ((p1 &&& (2147483647 : Int32)).toInt64))), .second, .val (.int (1 : Int32)), .unset, .unset] [(.ref b69), (.ref b73)])) rfl (by rw [hml]; rfl) (Steps.refl _) (argsL := [(.ref b69)]) (rest := []) (lenOf own_pd10 rfl) rfl (by show 2 * 0 + _ ≤ _; exact Nat.le_of_eq rfl) (hb hby at_100) (fun _ _ => ⟨rfl, e76, (by decide : 7 + 0 ≤ _), (by decide : 15 + 0 ≤ _)⟩)
      dsimp only [Pt.U, Pt.locs, Pt.cells, Pt.slots] at X77 l77 y77 z77 st77 hQ77
      subst l77 y77 z77
      obtain ⟨rfl, N77q, e77⟩ := hQ77
      have N77 := Fr.app N76 N77q
      refine own_st (V := T77.setTop (mkF m 103 #[.val (.int p1), .val (.int p2), .val (.int p3), .val (.int p4), .val (.int (p1 &&& (2147483647 : Int32))), .val (.int (p1 &&& (2147483647 : Int32))), .val (.ref b67), .val (.ref b69), .val (.ref b73), .val (.long (((p1 &&& (2147483647 : Int32)).toInt64) - ((p1 &&& (2147483647 : Int32)).toInt64))), .second, .val (.int (1 : Int32)), .unset, .unset] [(.int (0 : Int32))])) (fun t k => st77.trans k) ?_
      refine own_st (V := T77.setTop (mkF m 105 #[.val (.int p1), .val (.int p2), .val (.int p3), .val (.int p4), .val (.int (p1 &&& (2147483647 : Int32))), .val (.int (p1 &&& (2147483647 : Int32))), .val (.ref b67), .val (.ref b69), .val (.ref b73), .val (.long (((p1 &&& (2147483647 : Int32)).toInt64) - ((p1 &&& (2147483647 : Int32)).toInt64))), .second, .val (.int (1 : Int32)), .val (.int (0 : Int32)), .unset] [])) (fun t k => XS.istore X77.here hx rfl (hb hby at_103) rfl (l' := #[.val (.int p1), .val (.int p2), .val (.int p3), .val (.int p4), .val (.int (p1 &&& (2147483647 : Int32))), .val (.int (p1 &&& (2147483647 : Int32))), .val (.ref b67), .val (.ref b69), .val (.ref b73), .val (.long (((p1 &&& (2147483647 : Int32)).toInt64) - ((p1 &&& (2147483647 : Int32)).toInt64))), .second, .val (.int (1 : Int32)), .val (.int (0 : Int32)), .unset]) rfl k) ?_
      refine own_st (V := T77.setTop (mkF m 107 #[.val (.int p1), .val (.int p2), .val (.int p3), .val (.int p4), .val (.int (p1 &&& (2147483647 : Int32))), .val (.int (p1 &&& (2147483647 : Int32))), .val (.ref b67), .val (.ref b69), .val (.ref b73), .val (.long (((p1 &&& (2147483647 : Int32)).toInt64) - ((p1 &&& (2147483647 : Int32)).toInt64))), .second, .val (.int (1 : Int32)), .val (.int (0 : Int32)), .unset] [(.ref b69)])) (fun t k => XS.aload X77.here hx rfl (hb hby at_105) rfl rfl k) ?_
      refine own_st (V := T77.setTop (mkF m 109 #[.val (.int p1), .val (.int p2), .val (.int p3), .val (.int p4), .val (.int (p1 &&& (2147483647 : Int32))), .val (.int (p1 &&& (2147483647 : Int32))), .val (.ref b67), .val (.ref b69), .val (.ref b73), .val (.long (((p1 &&& (2147483647 : Int32)).toInt64) - ((p1 &&& (2147483647 : Int32)).toInt64))), .second, .val (.int (1 : Int32)), .val (.int (0 : Int32)), .unset] [(.ref b69), (.ref b69)])) (fun t k => XS.aload X77.here hx rfl (hb hby at_107) rfl rfl k) ?_
      obtain ⟨cq78, kq78, q78a, q78b, q78c⟩ := isOf hZ e77 Ex75_b69
      obtain ⟨_, _, ⟨T78, L78, k78, n78⟩, -, X78, ⟨Lc78, hQ78, l78, y78, z78⟩, st78⟩ := X77.virtualBack hx (y := (⟨"com/example/trust_grade/trustgrade/network/Level", "isAbove", "(Lcom/example/trust_grade/trustgrade/network/Level;)Z"⟩ : MethodName)) (z := (⟨"com/example/trust_grade/trustgrade/network/Level", "isAbove", "(Lcom/example/trust_grade/trustgrade/network/Level;)Z"⟩ : MethodName)) hown (mvT hZ (hw _ (List.mem_of_getElem? (i := 56) rfl))) (mvT hZ (hw _ (List.mem_of_getElem? (i := 57) rfl))) (notFace_of_selects (args := #[]) (mvT hZ (hw _ (List.mem_of_getElem? (i := 59) rfl)))) (mvT hZ (hw _ (List.mem_of_getElem? (i := 59) rfl))) (mvT hZ (hw _ (List.mem_of_getElem? (i := 58) rfl))) (by decide) (backOf (W := 0) (own_ab0 l Z a0 hw [] b69 b69 (p1 &&& (2147483647 : Int32)) (p1 &&& (2147483647 : Int32)) T75.heap n0 Z0_75 F75_b69_rank F75_b69_rank (own_irr _)) hZ (hw _ (List.mem_of_getElem? (i := 60) rfl)) (hw _ (List.mem_of_getElem? (i := 4) rfl)) (by decide) (by decide)) q78a q78c (g := (mkF m 109 #[.val (.int p1), .val (.int p2), .val (.int p3), .val (.int p4), .val (.int (p1 &&& (2147483647 : Int32))), .val (.int (p1 &&& (2147483647 : Int32))), .val (.ref b67), .val (.ref b69), .val (.ref b73), .val (.long (((p1 &&& (2147483647 : Int32)).toInt64) - ((p1 &&& (2147483647 : Int32)).toInt64))), .second, .val (.int (1 : Int32)), .val (.int (0 : Int32)), .unset] [(.ref b69), (.ref b69)])) rfl (by rw [hml]; rfl) (Steps.refl _) (argsL := [(.ref b69)]) (rest := []) (lenOf own_pd10 rfl) rfl (by show 2 * 0 + _ ≤ _; exact Nat.le_of_eq rfl) (hb hby at_109) (fun _ _ => ⟨rfl, e77, (by decide : 7 + 0 ≤ _), (by decide : 15 + 0 ≤ _)⟩)
      dsimp only [Pt.U, Pt.locs, Pt.cells, Pt.slots] at X78 l78 y78 z78 st78 hQ78
      subst l78 y78 z78
      obtain ⟨rfl, N78q, e78⟩ := hQ78
      have N78 := Fr.app N77 N78q
      refine own_st (V := T78.setTop (mkF m 112 #[.val (.int p1), .val (.int p2), .val (.int p3), .val (.int p4), .val (.int (p1 &&& (2147483647 : Int32))), .val (.int (p1 &&& (2147483647 : Int32))), .val (.ref b67), .val (.ref b69), .val (.ref b73), .val (.long (((p1 &&& (2147483647 : Int32)).toInt64) - ((p1 &&& (2147483647 : Int32)).toInt64))), .second, .val (.int (1 : Int32)), .val (.int (0 : Int32)), .unset] [(.int (0 : Int32))])) (fun t k => st78.trans k) ?_
      refine own_st (V := T78.setTop (mkF m 114 #[.val (.int p1), .val (.int p2), .val (.int p3), .val (.int p4), .val (.int (p1 &&& (2147483647 : Int32))), .val (.int (p1 &&& (2147483647 : Int32))), .val (.ref b67), .val (.ref b69), .val (.ref b73), .val (.long (((p1 &&& (2147483647 : Int32)).toInt64) - ((p1 &&& (2147483647 : Int32)).toInt64))), .second, .val (.int (1 : Int32)), .val (.int (0 : Int32)), .val (.int (0 : Int32))] [])) (fun t k => XS.istore X78.here hx rfl (hb hby at_112) rfl (l' := #[.val (.int p1), .val (.int p2), .val (.int p3), .val (.int p4), .val (.int (p1 &&& (2147483647 : Int32))), .val (.int (p1 &&& (2147483647 : Int32))), .val (.ref b67), .val (.ref b69), .val (.ref b73), .val (.long (((p1 &&& (2147483647 : Int32)).toInt64) - ((p1 &&& (2147483647 : Int32)).toInt64))), .second, .val (.int (1 : Int32)), .val (.int (0 : Int32)), .val (.int (0 : Int32))]) rfl k) ?_
      refine own_st (V := T78.setTop (mkF m 116 #[.val (.int p1), .val (.int p2), .val (.int p3), .val (.int p4), .val (.int (p1 &&& (2147483647 : Int32))), .val (.int (p1 &&& (2147483647 : Int32))), .val (.ref b67), .val (.ref b69), .val (.ref b73), .val (.long (((p1 &&& (2147483647 : Int32)).toInt64) - ((p1 &&& (2147483647 : Int32)).toInt64))), .second, .val (.int (1 : Int32)), .val (.int (0 : Int32)), .val (.int (0 : Int32))] [(.int (1 : Int32))])) (fun t k => XS.iload X78.here hx rfl (hb hby at_114) rfl k) ?_
      refine own_st (V := T78.setTop (mkF m 118 #[.val (.int p1), .val (.int p2), .val (.int p3), .val (.int p4), .val (.int (p1 &&& (2147483647 : Int32))), .val (.int (p1 &&& (2147483647 : Int32))), .val (.ref b67), .val (.ref b69), .val (.ref b73), .val (.long (((p1 &&& (2147483647 : Int32)).toInt64) - ((p1 &&& (2147483647 : Int32)).toInt64))), .second, .val (.int (1 : Int32)), .val (.int (0 : Int32)), .val (.int (0 : Int32))] [(.long (((p1 &&& (2147483647 : Int32)).toInt64) - ((p1 &&& (2147483647 : Int32)).toInt64))), (.int (1 : Int32))])) (fun t k => XS.lload X78.here hx rfl (hb hby at_116) rfl k) ?_
      refine own_st (V := T78.setTop (mkF m 119 #[.val (.int p1), .val (.int p2), .val (.int p3), .val (.int p4), .val (.int (p1 &&& (2147483647 : Int32))), .val (.int (p1 &&& (2147483647 : Int32))), .val (.ref b67), .val (.ref b69), .val (.ref b73), .val (.long (((p1 &&& (2147483647 : Int32)).toInt64) - ((p1 &&& (2147483647 : Int32)).toInt64))), .second, .val (.int (1 : Int32)), .val (.int (0 : Int32)), .val (.int (0 : Int32))] [(.long (0 : Int64)), (.long (((p1 &&& (2147483647 : Int32)).toInt64) - ((p1 &&& (2147483647 : Int32)).toInt64))), (.int (1 : Int32))])) (fun t k => XS.lconst X78.here hx rfl (hb hby at_118) k) ?_
      refine own_st (V := T78.setTop (mkF m 120 #[.val (.int p1), .val (.int p2), .val (.int p3), .val (.int p4), .val (.int (p1 &&& (2147483647 : Int32))), .val (.int (p1 &&& (2147483647 : Int32))), .val (.ref b67), .val (.ref b69), .val (.ref b73), .val (.long (((p1 &&& (2147483647 : Int32)).toInt64) - ((p1 &&& (2147483647 : Int32)).toInt64))), .second, .val (.int (1 : Int32)), .val (.int (0 : Int32)), .val (.int (0 : Int32))] [(.int (lcmpW (((p1 &&& (2147483647 : Int32)).toInt64) - ((p1 &&& (2147483647 : Int32)).toInt64)) (0 : Int64))), (.int (1 : Int32))])) (fun t k => XS.lcmp X78.here hx rfl (hb hby at_119) rfl k) ?_
      refine own_st (V := T78.setTop (mkF m 123 #[.val (.int p1), .val (.int p2), .val (.int p3), .val (.int p4), .val (.int (p1 &&& (2147483647 : Int32))), .val (.int (p1 &&& (2147483647 : Int32))), .val (.ref b67), .val (.ref b69), .val (.ref b73), .val (.long (((p1 &&& (2147483647 : Int32)).toInt64) - ((p1 &&& (2147483647 : Int32)).toInt64))), .second, .val (.int (1 : Int32)), .val (.int (0 : Int32)), .val (.int (0 : Int32))] [(.int (1 : Int32))])) (fun t k => XS.ifNo X78.here hx rfl (hb hby at_120) rfl ((if0 _ _).trans (tlt (own_lg hg)).2.2.2) k) ?_
      refine own_st (V := T78.setTop (mkF m 124 #[.val (.int p1), .val (.int p2), .val (.int p3), .val (.int p4), .val (.int (p1 &&& (2147483647 : Int32))), .val (.int (p1 &&& (2147483647 : Int32))), .val (.ref b67), .val (.ref b69), .val (.ref b73), .val (.long (((p1 &&& (2147483647 : Int32)).toInt64) - ((p1 &&& (2147483647 : Int32)).toInt64))), .second, .val (.int (1 : Int32)), .val (.int (0 : Int32)), .val (.int (0 : Int32))] [(.int (1 : Int32)), (.int (1 : Int32))])) (fun t k => XS.iconst X78.here hx rfl (hb hby at_123) k) ?_
      refine own_st (V := T78.setTop (mkF m 128 #[.val (.int p1), .val (.int p2), .val (.int p3), .val (.int p4), .val (.int (p1 &&& (2147483647 : Int32))), .val (.int (p1 &&& (2147483647 : Int32))), .val (.ref b67), .val (.ref b69), .val (.ref b73), .val (.long (((p1 &&& (2147483647 : Int32)).toInt64) - ((p1 &&& (2147483647 : Int32)).toInt64))), .second, .val (.int (1 : Int32)), .val (.int (0 : Int32)), .val (.int (0 : Int32))] [(.int (1 : Int32)), (.int (1 : Int32))])) (fun t k => XS.goto X78.here hx rfl (pc0 := 124) (pc' := 128) rfl (hb hby at_124) (by decide) (by decide) k) ?_
      refine own_st (V := T78.setTop (mkF m 131 #[.val (.int p1), .val (.int p2), .val (.int p3), .val (.int p4), .val (.int (p1 &&& (2147483647 : Int32))), .val (.int (p1 &&& (2147483647 : Int32))), .val (.ref b67), .val (.ref b69), .val (.ref b73), .val (.long (((p1 &&& (2147483647 : Int32)).toInt64) - ((p1 &&& (2147483647 : Int32)).toInt64))), .second, .val (.int (1 : Int32)), .val (.int (0 : Int32)), .val (.int (0 : Int32))] [])) (fun t k => XS.icmpNo X78.here hx rfl (hb hby at_128) rfl (teq (by decide : (1 : Int32) = (1 : Int32))).2 k) ?_
      refine own_st (V := T78.setTop (mkF m 133 #[.val (.int p1), .val (.int p2), .val (.int p3), .val (.int p4), .val (.int (p1 &&& (2147483647 : Int32))), .val (.int (p1 &&& (2147483647 : Int32))), .val (.ref b67), .val (.ref b69), .val (.ref b73), .val (.long (((p1 &&& (2147483647 : Int32)).toInt64) - ((p1 &&& (2147483647 : Int32)).toInt64))), .second, .val (.int (1 : Int32)), .val (.int (0 : Int32)), .val (.int (0 : Int32))] [(.int (0 : Int32))])) (fun t k => XS.iload X78.here hx rfl (hb hby at_131) rfl k) ?_
      refine own_st (V := T78.setTop (mkF m 135 #[.val (.int p1), .val (.int p2), .val (.int p3), .val (.int p4), .val (.int (p1 &&& (2147483647 : Int32))), .val (.int (p1 &&& (2147483647 : Int32))), .val (.ref b67), .val (.ref b69), .val (.ref b73), .val (.long (((p1 &&& (2147483647 : Int32)).toInt64) - ((p1 &&& (2147483647 : Int32)).toInt64))), .second, .val (.int (1 : Int32)), .val (.int (0 : Int32)), .val (.int (0 : Int32))] [(.long (((p1 &&& (2147483647 : Int32)).toInt64) - ((p1 &&& (2147483647 : Int32)).toInt64))), (.int (0 : Int32))])) (fun t k => XS.lload X78.here hx rfl (hb hby at_133) rfl k) ?_
      refine own_st (V := T78.setTop (mkF m 136 #[.val (.int p1), .val (.int p2), .val (.int p3), .val (.int p4), .val (.int (p1 &&& (2147483647 : Int32))), .val (.int (p1 &&& (2147483647 : Int32))), .val (.ref b67), .val (.ref b69), .val (.ref b73), .val (.long (((p1 &&& (2147483647 : Int32)).toInt64) - ((p1 &&& (2147483647 : Int32)).toInt64))), .second, .val (.int (1 : Int32)), .val (.int (0 : Int32)), .val (.int (0 : Int32))] [(.long (0 : Int64)), (.long (((p1 &&& (2147483647 : Int32)).toInt64) - ((p1 &&& (2147483647 : Int32)).toInt64))), (.int (0 : Int32))])) (fun t k => XS.lconst X78.here hx rfl (hb hby at_135) k) ?_
      refine own_st (V := T78.setTop (mkF m 137 #[.val (.int p1), .val (.int p2), .val (.int p3), .val (.int p4), .val (.int (p1 &&& (2147483647 : Int32))), .val (.int (p1 &&& (2147483647 : Int32))), .val (.ref b67), .val (.ref b69), .val (.ref b73), .val (.long (((p1 &&& (2147483647 : Int32)).toInt64) - ((p1 &&& (2147483647 : Int32)).toInt64))), .second, .val (.int (1 : Int32)), .val (.int (0 : Int32)), .val (.int (0 : Int32))] [(.int (lcmpW (((p1 &&& (2147483647 : Int32)).toInt64) - ((p1 &&& (2147483647 : Int32)).toInt64)) (0 : Int64))), (.int (0 : Int32))])) (fun t k => XS.lcmp X78.here hx rfl (hb hby at_136) rfl k) ?_
      refine own_st (V := T78.setTop (mkF m 144 #[.val (.int p1), .val (.int p2), .val (.int p3), .val (.int p4), .val (.int (p1 &&& (2147483647 : Int32))), .val (.int (p1 &&& (2147483647 : Int32))), .val (.ref b67), .val (.ref b69), .val (.ref b73), .val (.long (((p1 &&& (2147483647 : Int32)).toInt64) - ((p1 &&& (2147483647 : Int32)).toInt64))), .second, .val (.int (1 : Int32)), .val (.int (0 : Int32)), .val (.int (0 : Int32))] [(.int (0 : Int32))])) (fun t k => XS.ifYes X78.here hx rfl (pc0 := 137) (pc' := 144) rfl (hb hby at_137) rfl ((if0 _ _).trans (flt (own_lln hl)).2.1) (by decide) (by decide) k) ?_
      refine own_st (V := T78.setTop (mkF m 145 #[.val (.int p1), .val (.int p2), .val (.int p3), .val (.int p4), .val (.int (p1 &&& (2147483647 : Int32))), .val (.int (p1 &&& (2147483647 : Int32))), .val (.ref b67), .val (.ref b69), .val (.ref b73), .val (.long (((p1 &&& (2147483647 : Int32)).toInt64) - ((p1 &&& (2147483647 : Int32)).toInt64))), .second, .val (.int (1 : Int32)), .val (.int (0 : Int32)), .val (.int (0 : Int32))] [(.int (0 : Int32)), (.int (0 : Int32))])) (fun t k => XS.iconst X78.here hx rfl (hb hby at_144) k) ?_
      refine own_st (V := T78.setTop (mkF m 148 #[.val (.int p1), .val (.int p2), .val (.int p3), .val (.int p4), .val (.int (p1 &&& (2147483647 : Int32))), .val (.int (p1 &&& (2147483647 : Int32))), .val (.ref b67), .val (.ref b69), .val (.ref b73), .val (.long (((p1 &&& (2147483647 : Int32)).toInt64) - ((p1 &&& (2147483647 : Int32)).toInt64))), .second, .val (.int (1 : Int32)), .val (.int (0 : Int32)), .val (.int (0 : Int32))] [])) (fun t k => XS.icmpNo X78.here hx rfl (hb hby at_145) rfl (teq (by decide : (0 : Int32) = (0 : Int32))).2 k) ?_
      refine own_st (V := T78.setTop (mkF m 150 #[.val (.int p1), .val (.int p2), .val (.int p3), .val (.int p4), .val (.int (p1 &&& (2147483647 : Int32))), .val (.int (p1 &&& (2147483647 : Int32))), .val (.ref b67), .val (.ref b69), .val (.ref b73), .val (.long (((p1 &&& (2147483647 : Int32)).toInt64) - ((p1 &&& (2147483647 : Int32)).toInt64))), .second, .val (.int (1 : Int32)), .val (.int (0 : Int32)), .val (.int (0 : Int32))] [(.int (0 : Int32))])) (fun t k => XS.iload X78.here hx rfl (hb hby at_148) rfl k) ?_
      refine own_st (V := T78.setTop (mkF m 153 #[.val (.int p1), .val (.int p2), .val (.int p3), .val (.int p4), .val (.int (p1 &&& (2147483647 : Int32))), .val (.int (p1 &&& (2147483647 : Int32))), .val (.ref b67), .val (.ref b69), .val (.ref b73), .val (.long (((p1 &&& (2147483647 : Int32)).toInt64) - ((p1 &&& (2147483647 : Int32)).toInt64))), .second, .val (.int (1 : Int32)), .val (.int (0 : Int32)), .val (.int (0 : Int32))] [])) (fun t k => XS.ifNo X78.here hx rfl (hb hby at_150) rfl ((if0 _ _).trans (teq (by decide : (0 : Int32) = (0 : Int32))).2) k) ?_
      refine own_st (V := T78.setTop (mkF m 154 #[.val (.int p1), .val (.int p2), .val (.int p3), .val (.int p4), .val (.int (p1 &&& (2147483647 : Int32))), .val (.int (p1 &&& (2147483647 : Int32))), .val (.ref b67), .val (.ref b69), .val (.ref b73), .val (.long (((p1 &&& (2147483647 : Int32)).toInt64) - ((p1 &&& (2147483647 : Int32)).toInt64))), .second, .val (.int (1 : Int32)), .val (.int (0 : Int32)), .val (.int (0 : Int32))] [(.int (1 : Int32))])) (fun t k => XS.iconst X78.here hx rfl (hb hby at_153) k) ?_
      refine own_st (V := T78.setTop (mkF m 158 #[.val (.int p1), .val (.int p2), .val (.int p3), .val (.int p4), .val (.int (p1 &&& (2147483647 : Int32))), .val (.int (p1 &&& (2147483647 : Int32))), .val (.ref b67), .val (.ref b69), .val (.ref b73), .val (.long (((p1 &&& (2147483647 : Int32)).toInt64) - ((p1 &&& (2147483647 : Int32)).toInt64))), .second, .val (.int (1 : Int32)), .val (.int (0 : Int32)), .val (.int (0 : Int32))] [(.int (1 : Int32))])) (fun t k => XS.goto X78.here hx rfl (pc0 := 154) (pc' := 158) rfl (hb hby at_154) (by decide) (by decide) k) ?_
      exact own_ret X78 hx hlk Bd.returns (by decide +kernel) (Or.inl ⟨rfl, by simp, _, rfl⟩) (hb hby at_158) (by decide) (by decide) ⟨rfl, N78⟩
    · refine own_st (V := s₁.setTop (mkF m 25 #[.val (.int p1), .val (.int p2), .val (.int p3), .val (.int p4), .val (.int (p1 &&& (2147483647 : Int32))), .val (.int (p1 &&& (2147483647 : Int32))), .unset, .unset, .unset, .unset, .unset, .unset, .unset, .unset] [(.int (1 : Int32))])) (fun t k => XS.iconst X0.here hx rfl (hb hby at_24) k) ?_
      obtain ⟨T79, h79, k79, X79, e79, E79, A79, st79⟩ := newP X0 hx hZ (hw _ (List.mem_of_getElem? (i := 1) rfl)) e0 (g := (mkF m 25 #[.val (.int p1), .val (.int p2), .val (.int p3), .val (.int p4), .val (.int (p1 &&& (2147483647 : Int32))), .val (.int (p1 &&& (2147483647 : Int32))), .unset, .unset, .unset, .unset, .unset, .unset, .unset, .unset] [(.int (1 : Int32))])) rfl (hb hby at_25) rfl (by decide) (cap := 1) (by decide) (by decide) (by decide) (by decide)
      obtain ⟨b79, g79⟩ : ∃ z, z = h0.size := ⟨_, rfl⟩
      rw [← g79] at A79 st79
      have gb_b79 : n0 ≤ b79 := Nat.le_trans Z0 (Nat.le_of_eq g79.symm)
      have Z0_79 : n0 ≤ h79.size := Nat.le_trans Z0 E79.1
      have Od79 := Od.ext E79
      have V79_b79 : Arv Z h79 b79 k79 .char (1 : Int32) [(.int (0 : Int32))] (.int (0 : Int32)) := (Arv.new A79 (by decide)).pad (pad_rep [] (.int (0 : Int32)) 1)
      refine own_st (V := T79.setTop (mkF m 27 #[.val (.int p1), .val (.int p2), .val (.int p3), .val (.int p4), .val (.int (p1 &&& (2147483647 : Int32))), .val (.int (p1 &&& (2147483647 : Int32))), .unset, .unset, .unset, .unset, .unset, .unset, .unset, .unset] [(.ref b79)])) (fun t k => st79 _ k) ?_
      refine own_st (V := T79.setTop (mkF m 28 #[.val (.int p1), .val (.int p2), .val (.int p3), .val (.int p4), .val (.int (p1 &&& (2147483647 : Int32))), .val (.int (p1 &&& (2147483647 : Int32))), .unset, .unset, .unset, .unset, .unset, .unset, .unset, .unset] [(.ref b79), (.ref b79)])) (fun t k => XS.dup X79.here hx rfl (hb hby at_27) rfl rfl k) ?_
      refine own_st (V := T79.setTop (mkF m 29 #[.val (.int p1), .val (.int p2), .val (.int p3), .val (.int p4), .val (.int (p1 &&& (2147483647 : Int32))), .val (.int (p1 &&& (2147483647 : Int32))), .unset, .unset, .unset, .unset, .unset, .unset, .unset, .unset] [(.int (0 : Int32)), (.ref b79), (.ref b79)])) (fun t k => XS.iconst X79.here hx rfl (hb hby at_28) k) ?_
      refine own_st (V := T79.setTop (mkF m 30 #[.val (.int p1), .val (.int p2), .val (.int p3), .val (.int p4), .val (.int (p1 &&& (2147483647 : Int32))), .val (.int (p1 &&& (2147483647 : Int32))), .unset, .unset, .unset, .unset, .unset, .unset, .unset, .unset] [(.int p3), (.int (0 : Int32)), (.ref b79), (.ref b79)])) (fun t k => XS.iloadN X79.here hx rfl (hb hby at_29) rfl k) ?_
      refine own_st (V := T79.setTop (mkF m 33 #[.val (.int p1), .val (.int p2), .val (.int p3), .val (.int p4), .val (.int (p1 &&& (2147483647 : Int32))), .val (.int (p1 &&& (2147483647 : Int32))), .unset, .unset, .unset, .unset, .unset, .unset, .unset, .unset] [(.int (255 : Int32)), (.int p3), (.int (0 : Int32)), (.ref b79), (.ref b79)])) (fun t k => XS.sipush X79.here hx rfl (hb hby at_30) k) ?_
      refine own_st (V := T79.setTop (mkF m 34 #[.val (.int p1), .val (.int p2), .val (.int p3), .val (.int p4), .val (.int (p1 &&& (2147483647 : Int32))), .val (.int (p1 &&& (2147483647 : Int32))), .unset, .unset, .unset, .unset, .unset, .unset, .unset, .unset] [(.int (p3 &&& (255 : Int32))), (.int (0 : Int32)), (.ref b79), (.ref b79)])) (fun t k => XS.iand X79.here hx rfl (hb hby at_33) rfl k) ?_
      refine own_st (V := T79.setTop (mkF m 35 #[.val (.int p1), .val (.int p2), .val (.int p3), .val (.int p4), .val (.int (p1 &&& (2147483647 : Int32))), .val (.int (p1 &&& (2147483647 : Int32))), .unset, .unset, .unset, .unset, .unset, .unset, .unset, .unset] [(.int ((p3 &&& (255 : Int32)).toUInt32.toUInt16.toUInt32.toInt32)), (.int (0 : Int32)), (.ref b79), (.ref b79)])) (fun t k => XS.i2c X79.here hx rfl (hb hby at_34) rfl k) ?_
      have Vk80 := V79_b79
      obtain ⟨cl80, Ar80, qk80, sz80, nn80, hs80, fs80⟩ := Vk80
      have hin80 : ¬ ((0 : Int32) < 0 ∨ cl80.slots.size ≤ ((0 : Int32)).toNatClampNeg) := inb_of sz80 ⟨by decide, by decide⟩
      obtain ⟨T80, h80, X80, e80, W80, st80⟩ := stC X79 hx hZ e79 Ar80 (j := (0 : Int32)) hin80 (g := (mkF m 35 #[.val (.int p1), .val (.int p2), .val (.int p3), .val (.int p4), .val (.int (p1 &&& (2147483647 : Int32))), .val (.int (p1 &&& (2147483647 : Int32))), .unset, .unset, .unset, .unset, .unset, .unset, .unset, .unset] [(.int ((p3 &&& (255 : Int32)).toUInt32.toUInt16.toUInt32.toInt32)), (.int (0 : Int32)), (.ref b79), (.ref b79)])) rfl rfl (hb hby at_35)
      have V80_b79 := Arv.set Ar80 qk80 sz80 nn80 hs80 fs80 (fits_nar_char _) W80 0 rfl (Nat.le_of_ble_eq_true rfl)
      have N80 := Fr.snoc X80 N0 gb_b79
      have Z0_80 : n0 ≤ h80.size := by rw [W80.size]; exact Z0_79
      have Od80 := Od79.wr W80 gb_b79
      refine own_st (V := T80.setTop (mkF m 36 #[.val (.int p1), .val (.int p2), .val (.int p3), .val (.int p4), .val (.int (p1 &&& (2147483647 : Int32))), .val (.int (p1 &&& (2147483647 : Int32))), .unset, .unset, .unset, .unset, .unset, .unset, .unset, .unset] [(.ref b79)])) (fun t k => st80 _ k) ?_
      refine own_st (V := T80.setTop (mkF m 38 #[.val (.int p1), .val (.int p2), .val (.int p3), .val (.int p4), .val (.int (p1 &&& (2147483647 : Int32))), .val (.int (p1 &&& (2147483647 : Int32))), .val (.ref b79), .unset, .unset, .unset, .unset, .unset, .unset, .unset] [])) (fun t k => XS.astore X80.here hx rfl (hb hby at_36) rfl rfl (l' := #[.val (.int p1), .val (.int p2), .val (.int p3), .val (.int p4), .val (.int (p1 &&& (2147483647 : Int32))), .val (.int (p1 &&& (2147483647 : Int32))), .val (.ref b79), .unset, .unset, .unset, .unset, .unset, .unset, .unset]) rfl k) ?_
      obtain ⟨T81, h81, X81, e81, E81, A81, D81, -, st81⟩ := newO X80 hx hZ hown (hw _ (List.mem_of_getElem? (i := 2) rfl)) (hw _ (List.mem_of_getElem? (i := 3) rfl)) (hw _ (List.mem_of_getElem? (i := 4) rfl)) e80 (g := (mkF m 38 #[.val (.int p1), .val (.int p2), .val (.int p3), .val (.int p4), .val (.int (p1 &&& (2147483647 : Int32))), .val (.int (p1 &&& (2147483647 : Int32))), .val (.ref b79), .unset, .unset, .unset, .unset, .unset, .unset, .unset] [])) rfl (hb hby at_38) (by decide) (by decide)
      obtain ⟨b81, g81⟩ : ∃ z, z = h80.size := ⟨_, rfl⟩
      rw [← g81] at A81 D81 st81
      have gb_b81 : n0 ≤ b81 := Nat.le_trans Z0_80 (Nat.le_of_eq g81.symm)
      have Z0_81 : n0 ≤ h81.size := Nat.le_trans Z0_80 E81.1
      have ne_b79_b81 : b79 ≠ b81 := Nat.ne_of_lt (Nat.lt_of_lt_of_le V80_b79.lt (Nat.le_of_eq g81.symm))
      have V81_b79 := V80_b79.ext E81
      have Od81 := Od80.ext E81
      have F81_b81_name : Fld Z h81 b81 "com/example/trust_grade/trustgrade/network/Level" "name" "Ljava/lang/String;" .null := D81 (Or.inr (hw _ (List.mem_of_getElem? (i := 39) rfl))) (ty := (.object "java/lang/String")) (by decide)
      have F81_b81_rank : Fld Z h81 b81 "com/example/trust_grade/trustgrade/network/Level" "rank" "I" (.int (0 : Int32)) := D81 (Or.inr (hw _ (List.mem_of_getElem? (i := 41) rfl))) (ty := .int) (by decide)
      refine own_st (V := T81.setTop (mkF m 41 #[.val (.int p1), .val (.int p2), .val (.int p3), .val (.int p4), .val (.int (p1 &&& (2147483647 : Int32))), .val (.int (p1 &&& (2147483647 : Int32))), .val (.ref b79), .unset, .unset, .unset, .unset, .unset, .unset, .unset] [(.ref b81)])) (fun t k => st81 _ k) ?_
      refine own_st (V := T81.setTop (mkF m 42 #[.val (.int p1), .val (.int p2), .val (.int p3), .val (.int p4), .val (.int (p1 &&& (2147483647 : Int32))), .val (.int (p1 &&& (2147483647 : Int32))), .val (.ref b79), .unset, .unset, .unset, .unset, .unset, .unset, .unset] [(.ref b81), (.ref b81)])) (fun t k => XS.dup X81.here hx rfl (hb hby at_41) rfl rfl k) ?_
      obtain ⟨T82, h82, X82, e82, E82, A82, D82, -, st82⟩ := newO X81 hx hZ hown (hw _ (List.mem_of_getElem? (i := 5) rfl)) (hw _ (List.mem_of_getElem? (i := 6) rfl)) (hw _ (List.mem_of_getElem? (i := 7) rfl)) e81 (g := (mkF m 42 #[.val (.int p1), .val (.int p2), .val (.int p3), .val (.int p4), .val (.int (p1 &&& (2147483647 : Int32))), .val (.int (p1 &&& (2147483647 : Int32))), .val (.ref b79), .unset, .unset, .unset, .unset, .unset, .unset, .unset] [(.ref b81), (.ref b81)])) rfl (hb hby at_42) (by decide) (by decide)
      obtain ⟨b82, g82⟩ : ∃ z, z = h81.size := ⟨_, rfl⟩
      rw [← g82] at A82 D82 st82
      have gb_b82 : n0 ≤ b82 := Nat.le_trans Z0_81 (Nat.le_of_eq g82.symm)
      have Z0_82 : n0 ≤ h82.size := Nat.le_trans Z0_81 E82.1
      have ne_b79_b82 : b79 ≠ b82 := Nat.ne_of_lt (Nat.lt_of_lt_of_le V81_b79.lt (Nat.le_of_eq g82.symm))
      have ne_b81_b82 : b81 ≠ b82 := Nat.ne_of_lt (Nat.lt_of_lt_of_le A81.lt (Nat.le_of_eq g82.symm))
      have F82_b81_name := F81_b81_name.ext E82
      have F82_b81_rank := F81_b81_rank.ext E82
      have Ex82_b81 := A81.ext E82
      have V82_b79 := V81_b79.ext E82
      have Od82 := Od81.ext E82
      have F82_b82_coder : Fld Z h82 b82 "java/lang/String" "coder" "B" (.int (0 : Int32)) := D82 (Or.inr (hw _ (List.mem_of_getElem? (i := 31) rfl))) (ty := .byte) (by decide)
      have F82_b82_value : Fld Z h82 b82 "java/lang/String" "value" "[B" .null := D82 (Or.inr (hw _ (List.mem_of_getElem? (i := 33) rfl))) (ty := (.array .byte)) (by decide)
      refine own_st (V := T82.setTop (mkF m 45 #[.val (.int p1), .val (.int p2), .val (.int p3), .val (.int p4), .val (.int (p1 &&& (2147483647 : Int32))), .val (.int (p1 &&& (2147483647 : Int32))), .val (.ref b79), .unset, .unset, .unset, .unset, .unset, .unset, .unset] [(.ref b82), (.ref b81), (.ref b81)])) (fun t k => st82 _ k) ?_
      refine own_st (V := T82.setTop (mkF m 46 #[.val (.int p1), .val (.int p2), .val (.int p3), .val (.int p4), .val (.int (p1 &&& (2147483647 : Int32))), .val (.int (p1 &&& (2147483647 : Int32))), .val (.ref b79), .unset, .unset, .unset, .unset, .unset, .unset, .unset] [(.ref b82), (.ref b82), (.ref b81), (.ref b81)])) (fun t k => XS.dup X82.here hx rfl (hb hby at_45) rfl rfl k) ?_
      refine own_st (V := T82.setTop (mkF m 48 #[.val (.int p1), .val (.int p2), .val (.int p3), .val (.int p4), .val (.int (p1 &&& (2147483647 : Int32))), .val (.int (p1 &&& (2147483647 : Int32))), .val (.ref b79), .unset, .unset, .unset, .unset, .unset, .unset, .unset] [(.ref b79), (.ref b82), (.ref b82), (.ref b81), (.ref b81)])) (fun t k => XS.aload X82.here hx rfl (hb hby at_46) rfl rfl k) ?_
      obtain ⟨_, _, ⟨T83, L83, k83, n83⟩, -, X83, ⟨Lc83, hQ83, l83, y83, z83⟩, st83⟩ := X82.specialBack hx (y := (⟨"java/lang/String", "<init>", "([C)V"⟩ : MethodName)) rfl hown (mvT hZ (hw _ (List.mem_of_getElem? (i := 8) rfl))) (mvT hZ (hw _ (List.mem_of_getElem? (i := 9) rfl))) (mvT hZ (hw _ (List.mem_of_getElem? (i := 10) rfl))) (by decide) (backOf (W := 3) (own_s1_1 l Z a0 hw [] b82 b79 k79 cs (nar .char ((p3 &&& (255 : Int32)).toUInt32.toUInt16.toUInt32.toInt32)) h82 n0 Z0_82 Od82 SC hcs A82 gb_b82 F82_b82_value F82_b82_coder V82_b79 ne_b79_b82 (own_ch2 p3)) hZ (hw _ (List.mem_of_getElem? (i := 10) rfl)) (hw _ (List.mem_of_getElem? (i := 7) rfl)) (by decide) (by decide)) (g := (mkF m 48 #[.val (.int p1), .val (.int p2), .val (.int p3), .val (.int p4), .val (.int (p1 &&& (2147483647 : Int32))), .val (.int (p1 &&& (2147483647 : Int32))), .val (.ref b79), .unset, .unset, .unset, .unset, .unset, .unset, .unset] [(.ref b79), (.ref b82), (.ref b82), (.ref b81), (.ref b81)])) rfl (by rw [hml]; rfl) (Steps.refl _) (a := b82) (argsL := [(.ref b79)]) (rest := [(.ref b82), (.ref b81), (.ref b81)]) (lenOf own_pd7 rfl) rfl (by show 2 * 0 + _ ≤ _; exact Nat.le_of_eq rfl) (hb hby at_48) (fun _ _ => ⟨rfl, e82, (by decide : 3 + 1 ≤ _), (by decide : 7 + 1 ≤ _)⟩)
      dsimp only [Pt.U, Pt.locs, Pt.cells, Pt.slots] at X83 l83 y83 z83 st83 hQ83
      subst l83 y83 z83
      obtain ⟨rfl, N83q, K83, Ex83_q, t83, kbt83, vst83, szt83', Fq83_0, Vq83⟩ := hQ83
      have N83 := Fr.app N80 N83q
      have Z0_83 : n0 ≤ T83.heap.size := Nat.le_trans Z0_82 K83.1
      have ne_b81_t83 : b81 ≠ t83 := Nat.ne_of_lt (Nat.lt_of_lt_of_le Ex82_b81.lt szt83')
      have ne_b82_t83 : b82 ≠ t83 := Nat.ne_of_lt (Nat.lt_of_lt_of_le A82.lt szt83')
      have ne_b79_t83 : b79 ≠ t83 := Nat.ne_of_lt (Nat.lt_of_lt_of_le V82_b79.lt szt83')
      have F83_b81_name := F82_b81_name.keep K83 (ninS ne_b81_b82 nin0)
      have F83_b81_rank := F82_b81_rank.keep K83 (ninS ne_b81_b82 nin0)
      have Ex83_b81 := Ex82_b81.keep K83
      have Ex83_b82 := A82.keep K83
      have V83_b79 := V82_b79.keep K83 (ninS ne_b79_b82 nin0)
      have Od83 := Od82.keep K83 (allS gb_b82 all0)
      refine own_st (V := T83.setTop (mkF m 51 #[.val (.int p1), .val (.int p2), .val (.int p3), .val (.int p4), .val (.int (p1 &&& (2147483647 : Int32))), .val (.int (p1 &&& (2147483647 : Int32))), .val (.ref b79), .unset, .unset, .unset, .unset, .unset, .unset, .unset] [(.ref b82), (.ref b81), (.ref b81)])) (fun t k => st83.trans k) ?_
      refine own_st (V := T83.setTop (mkF m 53 #[.val (.int p1), .val (.int p2), .val (.int p3), .val (.int p4), .val (.int (p1 &&& (2147483647 : Int32))), .val (.int (p1 &&& (2147483647 : Int32))), .val (.ref b79), .unset, .unset, .unset, .unset, .unset, .unset, .unset] [(.int (p1 &&& (2147483647 : Int32))), (.ref b82), (.ref b81), (.ref b81)])) (fun t k => XS.iload X83.here hx rfl (hb hby at_51) rfl k) ?_
      obtain ⟨_, _, ⟨T84, L84, k84, n84⟩, -, X84, ⟨Lc84, hQ84, l84, y84, z84⟩, st84⟩ := X83.specialBack hx (y := (⟨"com/example/trust_grade/trustgrade/network/Level", "<init>", "(Ljava/lang/String;I)V"⟩ : MethodName)) rfl hown (mvT hZ (hw _ (List.mem_of_getElem? (i := 34) rfl))) (mvT hZ (hw _ (List.mem_of_getElem? (i := 35) rfl))) (mvT hZ (hw _ (List.mem_of_getElem? (i := 36) rfl))) (by decide) (backOf (W := 1) (own_li l Z a0 hw [] b81 b82 (p1 &&& (2147483647 : Int32)) T83.heap n0 Z0_83 F83_b81_name F83_b81_rank Ex83_b81 gb_b81) hZ (hw _ (List.mem_of_getElem? (i := 36) rfl)) (hw _ (List.mem_of_getElem? (i := 4) rfl)) (by decide) (by decide)) (g := (mkF m 53 #[.val (.int p1), .val (.int p2), .val (.int p3), .val (.int p4), .val (.int (p1 &&& (2147483647 : Int32))), .val (.int (p1 &&& (2147483647 : Int32))), .val (.ref b79), .unset, .unset, .unset, .unset, .unset, .unset, .unset] [(.int (p1 &&& (2147483647 : Int32))), (.ref b82), (.ref b81), (.ref b81)])) rfl (by rw [hml]; rfl) (Steps.refl _) (a := b81) (argsL := [(.ref b82), (.int (p1 &&& (2147483647 : Int32)))]) (rest := [(.ref b81)]) (lenOf own_pd8 rfl) rfl (by show 2 * 0 + _ ≤ _; exact Nat.le_of_eq rfl) (hb hby at_53) (fun _ _ => ⟨rfl, rfl, (by decide : 4 + 0 ≤ _), (by decide : 8 + 0 ≤ _)⟩)
      dsimp only [Pt.U, Pt.locs, Pt.cells, Pt.slots] at X84 l84 y84 z84 st84 hQ84
      subst l84 y84 z84
      obtain ⟨rfl, N84q, K84, Ex84_q, Fq84_0⟩ := hQ84
      have N84 := Fr.app N83 N84q
      have Z0_84 : n0 ≤ T84.heap.size := Nat.le_trans Z0_83 K84.1
      have F84_b82_value := Fq83_0.keep K84 (ninS (Ne.symm ne_b81_b82) nin0)
      have Ex84_b81 := Ex83_b81.keep K84
      have Ex84_b82 := Ex83_q.keep K84
      have V84_b79 := V83_b79.keep K84 (ninS ne_b79_b81 nin0)
      have V84_t83 := Vq83.keep K84 (ninS (Ne.symm ne_b81_t83) nin0)
      have Od84 := Od83.keep K84 (allS gb_b81 all0)
      refine own_st (V := T84.setTop (mkF m 56 #[.val (.int p1), .val (.int p2), .val (.int p3), .val (.int p4), .val (.int (p1 &&& (2147483647 : Int32))), .val (.int (p1 &&& (2147483647 : Int32))), .val (.ref b79), .unset, .unset, .unset, .unset, .unset, .unset, .unset] [(.ref b81)])) (fun t k => st84.trans k) ?_
      refine own_st (V := T84.setTop (mkF m 58 #[.val (.int p1), .val (.int p2), .val (.int p3), .val (.int p4), .val (.int (p1 &&& (2147483647 : Int32))), .val (.int (p1 &&& (2147483647 : Int32))), .val (.ref b79), .val (.ref b81), .unset, .unset, .unset, .unset, .unset, .unset] [])) (fun t k => XS.astore X84.here hx rfl (hb hby at_56) rfl rfl (l' := #[.val (.int p1), .val (.int p2), .val (.int p3), .val (.int p4), .val (.int (p1 &&& (2147483647 : Int32))), .val (.int (p1 &&& (2147483647 : Int32))), .val (.ref b79), .val (.ref b81), .unset, .unset, .unset, .unset, .unset, .unset]) rfl k) ?_
      obtain ⟨T85, h85, X85, e85, E85, A85, D85, -, st85⟩ := newO X84 hx hZ hown (hw _ (List.mem_of_getElem? (i := 2) rfl)) (hw _ (List.mem_of_getElem? (i := 3) rfl)) (hw _ (List.mem_of_getElem? (i := 4) rfl)) rfl (g := (mkF m 58 #[.val (.int p1), .val (.int p2), .val (.int p3), .val (.int p4), .val (.int (p1 &&& (2147483647 : Int32))), .val (.int (p1 &&& (2147483647 : Int32))), .val (.ref b79), .val (.ref b81), .unset, .unset, .unset, .unset, .unset, .unset] [])) rfl (hb hby at_58) (by decide) (by decide)
      obtain ⟨b85, g85⟩ : ∃ z, z = T84.heap.size := ⟨_, rfl⟩
      rw [← g85] at A85 D85 st85
      have gb_b85 : n0 ≤ b85 := Nat.le_trans Z0_84 (Nat.le_of_eq g85.symm)
      have Z0_85 : n0 ≤ h85.size := Nat.le_trans Z0_84 E85.1
      have ne_b79_b85 : b79 ≠ b85 := Nat.ne_of_lt (Nat.lt_of_lt_of_le V84_b79.lt (Nat.le_of_eq g85.symm))
      have ne_t83_b85 : t83 ≠ b85 := Nat.ne_of_lt (Nat.lt_of_lt_of_le V84_t83.lt (Nat.le_of_eq g85.symm))
      have ne_b81_b85 : b81 ≠ b85 := Nat.ne_of_lt (Nat.lt_of_lt_of_le Ex84_q.lt (Nat.le_of_eq g85.symm))
      have ne_b82_b85 : b82 ≠ b85 := Nat.ne_of_lt (Nat.lt_of_lt_of_le Ex84_b82.lt (Nat.le_of_eq g85.symm))
      have F85_b82_value := F84_b82_value.ext E85
      have F85_b81_rank := Fq84_0.ext E85
      have Ex85_b81 := Ex84_q.ext E85
      have Ex85_b82 := Ex84_b82.ext E85
      have V85_b79 := V84_b79.ext E85
      have V85_t83 := V84_t83.ext E85
      have Od85 := Od84.ext E85
      have F85_b85_name : Fld Z h85 b85 "com/example/trust_grade/trustgrade/network/Level" "name" "Ljava/lang/String;" .null := D85 (Or.inr (hw _ (List.mem_of_getElem? (i := 39) rfl))) (ty := (.object "java/lang/String")) (by decide)
      have F85_b85_rank : Fld Z h85 b85 "com/example/trust_grade/trustgrade/network/Level" "rank" "I" (.int (0 : Int32)) := D85 (Or.inr (hw _ (List.mem_of_getElem? (i := 41) rfl))) (ty := .int) (by decide)
      refine own_st (V := T85.setTop (mkF m 61 #[.val (.int p1), .val (.int p2), .val (.int p3), .val (.int p4), .val (.int (p1 &&& (2147483647 : Int32))), .val (.int (p1 &&& (2147483647 : Int32))), .val (.ref b79), .val (.ref b81), .unset, .unset, .unset, .unset, .unset, .unset] [(.ref b85)])) (fun t k => st85 _ k) ?_
      refine own_st (V := T85.setTop (mkF m 62 #[.val (.int p1), .val (.int p2), .val (.int p3), .val (.int p4), .val (.int (p1 &&& (2147483647 : Int32))), .val (.int (p1 &&& (2147483647 : Int32))), .val (.ref b79), .val (.ref b81), .unset, .unset, .unset, .unset, .unset, .unset] [(.ref b85), (.ref b85)])) (fun t k => XS.dup X85.here hx rfl (hb hby at_61) rfl rfl k) ?_
      refine own_st (V := T85.setTop (mkF m 63 #[.val (.int p1), .val (.int p2), .val (.int p3), .val (.int p4), .val (.int (p1 &&& (2147483647 : Int32))), .val (.int (p1 &&& (2147483647 : Int32))), .val (.ref b79), .val (.ref b81), .unset, .unset, .unset, .unset, .unset, .unset] [(.int p4), (.ref b85), (.ref b85)])) (fun t k => XS.iloadN X85.here hx rfl (hb hby at_62) rfl k) ?_
      refine own_st (V := T85.setTop (mkF m 66 #[.val (.int p1), .val (.int p2), .val (.int p3), .val (.int p4), .val (.int (p1 &&& (2147483647 : Int32))), .val (.int (p1 &&& (2147483647 : Int32))), .val (.ref b79), .val (.ref b81), .unset, .unset, .unset, .unset, .unset, .unset] [(.int (255 : Int32)), (.int p4), (.ref b85), (.ref b85)])) (fun t k => XS.sipush X85.here hx rfl (hb hby at_63) k) ?_
      refine own_st (V := T85.setTop (mkF m 67 #[.val (.int p1), .val (.int p2), .val (.int p3), .val (.int p4), .val (.int (p1 &&& (2147483647 : Int32))), .val (.int (p1 &&& (2147483647 : Int32))), .val (.ref b79), .val (.ref b81), .unset, .unset, .unset, .unset, .unset, .unset] [(.int (p4 &&& (255 : Int32))), (.ref b85), (.ref b85)])) (fun t k => XS.iand X85.here hx rfl (hb hby at_66) rfl k) ?_
      refine own_st (V := T85.setTop (mkF m 68 #[.val (.int p1), .val (.int p2), .val (.int p3), .val (.int p4), .val (.int (p1 &&& (2147483647 : Int32))), .val (.int (p1 &&& (2147483647 : Int32))), .val (.ref b79), .val (.ref b81), .unset, .unset, .unset, .unset, .unset, .unset] [(.int ((p4 &&& (255 : Int32)).toUInt32.toUInt16.toUInt32.toInt32)), (.ref b85), (.ref b85)])) (fun t k => XS.i2c X85.here hx rfl (hb hby at_67) rfl k) ?_
      obtain ⟨_, _, ⟨T86, L86, k86, n86⟩, -, X86, ⟨Lc86, hQ86, l86, y86, z86⟩, st86⟩ := Jvm.LawKit.callS X85 hx (y := (⟨"java/lang/String", "valueOf", "(C)Ljava/lang/String;"⟩ : MethodName)) hown (mvT hZ (hw _ (List.mem_of_getElem? (i := 42) rfl))) (mvT hZ (hw _ (List.mem_of_getElem? (i := 43) rfl))) (mvT hZ (hw _ (List.mem_of_getElem? (i := 7) rfl))) (mvT hZ (hw _ (List.mem_of_getElem? (i := 44) rfl))) (by decide) (backOf (W := 2) (own_sv l Z a0 hw [] ((p4 &&& (255 : Int32)).toUInt32.toUInt16.toUInt32.toInt32) cs h85 n0 Z0_85 Od85 SC hcs (own_ch p4)) hZ (hw _ (List.mem_of_getElem? (i := 44) rfl)) (hw _ (List.mem_of_getElem? (i := 7) rfl)) (by decide) (by decide)) (g := (mkF m 68 #[.val (.int p1), .val (.int p2), .val (.int p3), .val (.int p4), .val (.int (p1 &&& (2147483647 : Int32))), .val (.int (p1 &&& (2147483647 : Int32))), .val (.ref b79), .val (.ref b81), .unset, .unset, .unset, .unset, .unset, .unset] [(.int ((p4 &&& (255 : Int32)).toUInt32.toUInt16.toUInt32.toInt32)), (.ref b85), (.ref b85)])) rfl (by rw [hml]; rfl) (argsL := [(.int ((p4 &&& (255 : Int32)).toUInt32.toUInt16.toUInt32.toInt32))]) (rest := [(.ref b85), (.ref b85)]) (lenOf own_pd9 rfl) rfl (by show 2 * 0 + _ ≤ _; exact Nat.le_of_eq rfl) (hb hby at_68) (fun _ _ => ⟨rfl, e85, (by decide : 5 + 2 ≤ _), (by decide : 10 + 5 ≤ _)⟩)
      dsimp only [Pt.U, Pt.locs, Pt.cells, Pt.slots] at X86 l86 y86 z86 st86 hQ86
      subst l86 y86 z86
      obtain ⟨t86, rfl, N86q, K86⟩ := hQ86
      have N86 := Fr.app N84 N86q
      have Z0_86 : n0 ≤ T86.heap.size := Nat.le_trans Z0_85 K86.1
      have F86_b82_value := F85_b82_value.keep K86 nin0
      have F86_b81_rank := F85_b81_rank.keep K86 nin0
      have F86_b85_name := F85_b85_name.keep K86 nin0
      have F86_b85_rank := F85_b85_rank.keep K86 nin0
      have Ex86_b81 := Ex85_b81.keep K86
      have Ex86_b82 := Ex85_b82.keep K86
      have Ex86_b85 := A85.keep K86
      have V86_b79 := V85_b79.keep K86 nin0
      have V86_t83 := V85_t83.keep K86 nin0
      have Od86 := Od85.keep K86 all0
      refine own_st (V := T86.setTop (mkF m 71 #[.val (.int p1), .val (.int p2), .val (.int p3), .val (.int p4), .val (.int (p1 &&& (2147483647 : Int32))), .val (.int (p1 &&& (2147483647 : Int32))), .val (.ref b79), .val (.ref b81), .unset, .unset, .unset, .unset, .unset, .unset] [(.ref t86), (.ref b85), (.ref b85)])) (fun t k => st86 _ k) ?_
      refine own_st (V := T86.setTop (mkF m 73 #[.val (.int p1), .val (.int p2), .val (.int p3), .val (.int p4), .val (.int (p1 &&& (2147483647 : Int32))), .val (.int (p1 &&& (2147483647 : Int32))), .val (.ref b79), .val (.ref b81), .unset, .unset, .unset, .unset, .unset, .unset] [(.int (p1 &&& (2147483647 : Int32))), (.ref t86), (.ref b85), (.ref b85)])) (fun t k => XS.iload X86.here hx rfl (hb hby at_71) rfl k) ?_
      obtain ⟨_, _, ⟨T87, L87, k87, n87⟩, -, X87, ⟨Lc87, hQ87, l87, y87, z87⟩, st87⟩ := X86.specialBack hx (y := (⟨"com/example/trust_grade/trustgrade/network/Level", "<init>", "(Ljava/lang/String;I)V"⟩ : MethodName)) rfl hown (mvT hZ (hw _ (List.mem_of_getElem? (i := 34) rfl))) (mvT hZ (hw _ (List.mem_of_getElem? (i := 35) rfl))) (mvT hZ (hw _ (List.mem_of_getElem? (i := 36) rfl))) (by decide) (backOf (W := 1) (own_li l Z a0 hw [] b85 t86 (p1 &&& (2147483647 : Int32)) T86.heap n0 Z0_86 F86_b85_name F86_b85_rank Ex86_b85 gb_b85) hZ (hw _ (List.mem_of_getElem? (i := 36) rfl)) (hw _ (List.mem_of_getElem? (i := 4) rfl)) (by decide) (by decide)) (g := (mkF m 73 #[.val (.int p1), .val (.int p2), .val (.int p3), .val (.int p4), .val (.int (p1 &&& (2147483647 : Int32))), .val (.int (p1 &&& (2147483647 : Int32))), .val (.ref b79), .val (.ref b81), .unset, .unset, .unset, .unset, .unset, .unset] [(.int (p1 &&& (2147483647 : Int32))), (.ref t86), (.ref b85), (.ref b85)])) rfl (by rw [hml]; rfl) (Steps.refl _) (a := b85) (argsL := [(.ref t86), (.int (p1 &&& (2147483647 : Int32)))]) (rest := [(.ref b85)]) (lenOf own_pd8 rfl) rfl (by show 2 * 0 + _ ≤ _; exact Nat.le_of_eq rfl) (hb hby at_73) (fun _ _ => ⟨rfl, rfl, (by decide : 7 + 0 ≤ _), (by decide : 15 + 0 ≤ _)⟩)
      dsimp only [Pt.U, Pt.locs, Pt.cells, Pt.slots] at X87 l87 y87 z87 st87 hQ87
      subst l87 y87 z87
      obtain ⟨rfl, N87q, K87, Ex87_q, Fq87_0⟩ := hQ87
      have N87 := Fr.app N86 N87q
      have Z0_87 : n0 ≤ T87.heap.size := Nat.le_trans Z0_86 K87.1
      have F87_b82_value := F86_b82_value.keep K87 (ninS ne_b82_b85 nin0)
      have F87_b81_rank := F86_b81_rank.keep K87 (ninS ne_b81_b85 nin0)
      have Ex87_b81 := Ex86_b81.keep K87
      have Ex87_b82 := Ex86_b82.keep K87
      have Ex87_b85 := Ex86_b85.keep K87
      have V87_b79 := V86_b79.keep K87 (ninS ne_b79_b85 nin0)
      have V87_t83 := V86_t83.keep K87 (ninS ne_t83_b85 nin0)
      have Od87 := Od86.keep K87 (allS gb_b85 all0)
      refine own_st (V := T87.setTop (mkF m 76 #[.val (.int p1), .val (.int p2), .val (.int p3), .val (.int p4), .val (.int (p1 &&& (2147483647 : Int32))), .val (.int (p1 &&& (2147483647 : Int32))), .val (.ref b79), .val (.ref b81), .unset, .unset, .unset, .unset, .unset, .unset] [(.ref b85)])) (fun t k => st87.trans k) ?_
      refine own_st (V := T87.setTop (mkF m 78 #[.val (.int p1), .val (.int p2), .val (.int p3), .val (.int p4), .val (.int (p1 &&& (2147483647 : Int32))), .val (.int (p1 &&& (2147483647 : Int32))), .val (.ref b79), .val (.ref b81), .val (.ref b85), .unset, .unset, .unset, .unset, .unset] [])) (fun t k => XS.astore X87.here hx rfl (hb hby at_76) rfl rfl (l' := #[.val (.int p1), .val (.int p2), .val (.int p3), .val (.int p4), .val (.int (p1 &&& (2147483647 : Int32))), .val (.int (p1 &&& (2147483647 : Int32))), .val (.ref b79), .val (.ref b81), .val (.ref b85), .unset, .unset, .unset, .unset, .unset]) rfl k) ?_
      refine own_st (V := T87.setTop (mkF m 80 #[.val (.int p1), .val (.int p2), .val (.int p3), .val (.int p4), .val (.int (p1 &&& (2147483647 : Int32))), .val (.int (p1 &&& (2147483647 : Int32))), .val (.ref b79), .val (.ref b81), .val (.ref b85), .unset, .unset, .unset, .unset, .unset] [(.int (p1 &&& (2147483647 : Int32)))])) (fun t k => XS.iload X87.here hx rfl (hb hby at_78) rfl k) ?_
      refine own_st (V := T87.setTop (mkF m 81 #[.val (.int p1), .val (.int p2), .val (.int p3), .val (.int p4), .val (.int (p1 &&& (2147483647 : Int32))), .val (.int (p1 &&& (2147483647 : Int32))), .val (.ref b79), .val (.ref b81), .val (.ref b85), .unset, .unset, .unset, .unset, .unset] [(.long ((p1 &&& (2147483647 : Int32)).toInt64))])) (fun t k => XS.i2l X87.here hx rfl (hb hby at_80) rfl k) ?_
      refine own_st (V := T87.setTop (mkF m 83 #[.val (.int p1), .val (.int p2), .val (.int p3), .val (.int p4), .val (.int (p1 &&& (2147483647 : Int32))), .val (.int (p1 &&& (2147483647 : Int32))), .val (.ref b79), .val (.ref b81), .val (.ref b85), .unset, .unset, .unset, .unset, .unset] [(.int (p1 &&& (2147483647 : Int32))), (.long ((p1 &&& (2147483647 : Int32)).toInt64))])) (fun t k => XS.iload X87.here hx rfl (hb hby at_81) rfl k) ?_
      refine own_st (V := T87.setTop (mkF m 84 #[.val (.int p1), .val (.int p2), .val (.int p3), .val (.int p4), .val (.int (p1 &&& (2147483647 : Int32))), .val (.int (p1 &&& (2147483647 : Int32))), .val (.ref b79), .val (.ref b81), .val (.ref b85), .unset, .unset, .unset, .unset, .unset] [(.long ((p1 &&& (2147483647 : Int32)).toInt64)), (.long ((p1 &&& (2147483647 : Int32)).toInt64))])) (fun t k => XS.i2l X87.here hx rfl (hb hby at_83) rfl k) ?_
      refine own_st (V := T87.setTop (mkF m 85 #[.val (.int p1), .val (.int p2), .val (.int p3), .val (.int p4), .val (.int (p1 &&& (2147483647 : Int32))), .val (.int (p1 &&& (2147483647 : Int32))), .val (.ref b79), .val (.ref b81), .val (.ref b85), .unset, .unset, .unset, .unset, .unset] [(.long (((p1 &&& (2147483647 : Int32)).toInt64) - ((p1 &&& (2147483647 : Int32)).toInt64)))])) (fun t k => XS.lsub X87.here hx rfl (hb hby at_84) rfl k) ?_
      refine own_st (V := T87.setTop (mkF m 87 #[.val (.int p1), .val (.int p2), .val (.int p3), .val (.int p4), .val (.int (p1 &&& (2147483647 : Int32))), .val (.int (p1 &&& (2147483647 : Int32))), .val (.ref b79), .val (.ref b81), .val (.ref b85), .val (.long (((p1 &&& (2147483647 : Int32)).toInt64) - ((p1 &&& (2147483647 : Int32)).toInt64))), .second, .unset, .unset, .unset] [])) (fun t k => XS.lstore X87.here hx rfl (hb hby at_85) rfl (l' := #[.val (.int p1), .val (.int p2), .val (.int p3), .val (.int p4), .val (.int (p1 &&& (2147483647 : Int32))), .val (.int (p1 &&& (2147483647 : Int32))), .val (.ref b79), .val (.ref b81), .val (.ref b85), .val (.long (((p1 &&& (2147483647 : Int32)).toInt64) - ((p1 &&& (2147483647 : Int32)).toInt64))), .second, .unset, .unset, .unset]) rfl k) ?_
      refine own_st (V := T87.setTop (mkF m 89 #[.val (.int p1), .val (.int p2), .val (.int p3), .val (.int p4), .val (.int (p1 &&& (2147483647 : Int32))), .val (.int (p1 &&& (2147483647 : Int32))), .val (.ref b79), .val (.ref b81), .val (.ref b85), .val (.long (((p1 &&& (2147483647 : Int32)).toInt64) - ((p1 &&& (2147483647 : Int32)).toInt64))), .second, .unset, .unset, .unset] [(.ref b81)])) (fun t k => XS.aload X87.here hx rfl (hb hby at_87) rfl rfl k) ?_
      refine own_st (V := T87.setTop (mkF m 91 #[.val (.int p1), .val (.int p2), .val (.int p3), .val (.int p4), .val (.int (p1 &&& (2147483647 : Int32))), .val (.int (p1 &&& (2147483647 : Int32))), .val (.ref b79), .val (.ref b81), .val (.ref b85), .val (.long (((p1 &&& (2147483647 : Int32)).toInt64) - ((p1 &&& (2147483647 : Int32)).toInt64))), .second, .unset, .unset, .unset] [(.ref b85), (.ref b81)])) (fun t k => XS.aload X87.here hx rfl (hb hby at_89) rfl rfl k) ?_
      obtain ⟨cq88, kq88, q88a, q88b, q88c⟩ := isOf hZ rfl Ex87_b81
      obtain ⟨_, _, ⟨T88, L88, k88, n88⟩, -, X88, ⟨Lc88, hQ88, l88, y88, z88⟩, st88⟩ := X87.virtualBack hx (y := (⟨"com/example/trust_grade/trustgrade/network/Level", "isAbove", "(Lcom/example/trust_grade/trustgrade/network/Level;)Z"⟩ : MethodName)) (z := (⟨"com/example/trust_grade/trustgrade/network/Level", "isAbove", "(Lcom/example/trust_grade/trustgrade/network/Level;)Z"⟩ : MethodName)) hown (mvT hZ (hw _ (List.mem_of_getElem? (i := 56) rfl))) (mvT hZ (hw _ (List.mem_of_getElem? (i := 57) rfl))) (notFace_of_selects (args := #[]) (mvT hZ (hw _ (List.mem_of_getElem? (i := 59) rfl)))) (mvT hZ (hw _ (List.mem_of_getElem? (i := 59) rfl))) (mvT hZ (hw _ (List.mem_of_getElem? (i := 58) rfl))) (by decide) (backOf (W := 0) (own_ab0 l Z a0 hw [] b81 b85 (p1 &&& (2147483647 : Int32)) (p1 &&& (2147483647 : Int32)) T87.heap n0 Z0_87 F87_b81_rank Fq87_0 hg) hZ (hw _ (List.mem_of_getElem? (i := 60) rfl)) (hw _ (List.mem_of_getElem? (i := 4) rfl)) (by decide) (by decide)) q88a q88c (g := (mkF m 91 #[.val (.int p1), .val (.int p2), .val (.int p3), .val (.int p4), .val (.int (p1 &&& (2147483647 : Int32))), .val (.int (p1 &&& (2147483647 : Int32))), .val (.ref b79), .val (.ref b81), .val (.ref b85), .val (.long (((p1 &&& (2147483647 : Int32)).toInt64) - ((p1 &&& (2147483647 : Int32)).toInt64))), .second, .unset, .unset, .unset] [(.ref b85), (.ref b81)])) rfl (by rw [hml]; rfl) (Steps.refl _) (argsL := [(.ref b85)]) (rest := []) (lenOf own_pd10 rfl) rfl (by show 2 * 0 + _ ≤ _; exact Nat.le_of_eq rfl) (hb hby at_91) (fun _ _ => ⟨rfl, rfl, (by decide : 7 + 0 ≤ _), (by decide : 15 + 0 ≤ _)⟩)
      dsimp only [Pt.U, Pt.locs, Pt.cells, Pt.slots] at X88 l88 y88 z88 st88 hQ88
      subst l88 y88 z88
      obtain ⟨rfl, N88q, e88⟩ := hQ88
      have N88 := Fr.app N87 N88q
      refine own_st (V := T88.setTop (mkF m 94 #[.val (.int p1), .val (.int p2), .val (.int p3), .val (.int p4), .val (.int (p1 &&& (2147483647 : Int32))), .val (.int (p1 &&& (2147483647 : Int32))), .val (.ref b79), .val (.ref b81), .val (.ref b85), .val (.long (((p1 &&& (2147483647 : Int32)).toInt64) - ((p1 &&& (2147483647 : Int32)).toInt64))), .second, .unset, .unset, .unset] [(.int (0 : Int32))])) (fun t k => st88.trans k) ?_
      refine own_st (V := T88.setTop (mkF m 96 #[.val (.int p1), .val (.int p2), .val (.int p3), .val (.int p4), .val (.int (p1 &&& (2147483647 : Int32))), .val (.int (p1 &&& (2147483647 : Int32))), .val (.ref b79), .val (.ref b81), .val (.ref b85), .val (.long (((p1 &&& (2147483647 : Int32)).toInt64) - ((p1 &&& (2147483647 : Int32)).toInt64))), .second, .val (.int (0 : Int32)), .unset, .unset] [])) (fun t k => XS.istore X88.here hx rfl (hb hby at_94) rfl (l' := #[.val (.int p1), .val (.int p2), .val (.int p3), .val (.int p4), .val (.int (p1 &&& (2147483647 : Int32))), .val (.int (p1 &&& (2147483647 : Int32))), .val (.ref b79), .val (.ref b81), .val (.ref b85), .val (.long (((p1 &&& (2147483647 : Int32)).toInt64) - ((p1 &&& (2147483647 : Int32)).toInt64))), .second, .val (.int (0 : Int32)), .unset, .unset]) rfl k) ?_
      refine own_st (V := T88.setTop (mkF m 98 #[.val (.int p1), .val (.int p2), .val (.int p3), .val (.int p4), .val (.int (p1 &&& (2147483647 : Int32))), .val (.int (p1 &&& (2147483647 : Int32))), .val (.ref b79), .val (.ref b81), .val (.ref b85), .val (.long (((p1 &&& (2147483647 : Int32)).toInt64) - ((p1 &&& (2147483647 : Int32)).toInt64))), .second, .val (.int (0 : Int32)), .unset, .unset] [(.ref b85)])) (fun t k => XS.aload X88.here hx rfl (hb hby at_96) rfl rfl k) ?_
      refine own_st (V := T88.setTop (mkF m 100 #[.val (.int p1), .val (.int p2), .val (.int p3), .val (.int p4), .val (.int (p1 &&& (2147483647 : Int32))), .val (.int (p1 &&& (2147483647 : Int32))), .val (.ref b79), .val (.ref b81), .val (.ref b85), .val (.long (((p1 &&& (2147483647 : Int32)).toInt64) - ((p1 &&& (2147483647 : Int32)).toInt64))), .second, .val (.int (0 : Int32)), .unset, .unset] [(.ref b81), (.ref b85)])) (fun t k => XS.aload X88.here hx rfl (hb hby at_98) rfl rfl k) ?_
      obtain ⟨cq89, kq89, q89a, q89b, q89c⟩ := isOf hZ e88 Ex87_q
      obtain ⟨_, _, ⟨T89, L89, k89, n89⟩, -, X89, ⟨Lc89, hQ89, l89, y89, z89⟩, st89⟩ := X88.virtualBack hx (y := (⟨"com/example/trust_grade/trustgrade/network/Level", "isAbove", "(Lcom/example/trust_grade/trustgrade/network/Level;)Z"⟩ : MethodName)) (z := (⟨"com/example/trust_grade/trustgrade/network/Level", "isAbove", "(Lcom/example/trust_grade/trustgrade/network/Level;)Z"⟩ : MethodName)) hown (mvT hZ (hw _ (List.mem_of_getElem? (i := 56) rfl))) (mvT hZ (hw _ (List.mem_of_getElem? (i := 57) rfl))) (notFace_of_selects (args := #[]) (mvT hZ (hw _ (List.mem_of_getElem? (i := 59) rfl)))) (mvT hZ (hw _ (List.mem_of_getElem? (i := 59) rfl))) (mvT hZ (hw _ (List.mem_of_getElem? (i := 58) rfl))) (by decide) (backOf (W := 0) (own_ab1 l Z a0 hw [] b85 b81 (p1 &&& (2147483647 : Int32)) (p1 &&& (2147483647 : Int32)) T87.heap n0 Z0_87 Fq87_0 F87_b81_rank hl) hZ (hw _ (List.mem_of_getElem? (i := 60) rfl)) (hw _ (List.mem_of_getElem? (i := 4) rfl)) (by decide) (by decide)) q89a q89c (g := (mkF m 100 #[.val (.int p1), .val (.int p2), .val (.int p3), .val (.int p4), .val (.int (p1 &&& (2147483647 : Int32))), .val (.int (p1 &&& (2147483647 : Int32))), .val (.ref b79), .val (.ref b81), .val (.ref b85), .val (.long (((p1 &&& (2147483647 : Int32)).toInt64) - ((p1 &&& (2147483647 : Int32)).toInt64))), .second, .val (.int (0 : Int32)), .unset, .unset] [(.ref b81), (.ref b85)])) rfl (by rw [hml]; rfl) (Steps.refl _) (argsL := [(.ref b81)]) (rest := []) (lenOf own_pd10 rfl) rfl (by show 2 * 0 + _ ≤ _; exact Nat.le_of_eq rfl) (hb hby at_100) (fun _ _ => ⟨rfl, e88, (by decide : 7 + 0 ≤ _), (by decide : 15 + 0 ≤ _)⟩)
      dsimp only [Pt.U, Pt.locs, Pt.cells, Pt.slots] at X89 l89 y89 z89 st89 hQ89
      subst l89 y89 z89
      obtain ⟨rfl, N89q, e89⟩ := hQ89
      have N89 := Fr.app N88 N89q
      refine own_st (V := T89.setTop (mkF m 103 #[.val (.int p1), .val (.int p2), .val (.int p3), .val (.int p4), .val (.int (p1 &&& (2147483647 : Int32))), .val (.int (p1 &&& (2147483647 : Int32))), .val (.ref b79), .val (.ref b81), .val (.ref b85), .val (.long (((p1 &&& (2147483647 : Int32)).toInt64) - ((p1 &&& (2147483647 : Int32)).toInt64))), .second, .val (.int (0 : Int32)), .unset, .unset] [(.int (1 : Int32))])) (fun t k => st89.trans k) ?_
      refine own_st (V := T89.setTop (mkF m 105 #[.val (.int p1), .val (.int p2), .val (.int p3), .val (.int p4), .val (.int (p1 &&& (2147483647 : Int32))), .val (.int (p1 &&& (2147483647 : Int32))), .val (.ref b79), .val (.ref b81), .val (.ref b85), .val (.long (((p1 &&& (2147483647 : Int32)).toInt64) - ((p1 &&& (2147483647 : Int32)).toInt64))), .second, .val (.int (0 : Int32)), .val (.int (1 : Int32)), .unset] [])) (fun t k => XS.istore X89.here hx rfl (hb hby at_103) rfl (l' := #[.val (.int p1), .val (.int p2), .val (.int p3), .val (.int p4), .val (.int (p1 &&& (2147483647 : Int32))), .val (.int (p1 &&& (2147483647 : Int32))), .val (.ref b79), .val (.ref b81), .val (.ref b85), .val (.long (((p1 &&& (2147483647 : Int32)).toInt64) - ((p1 &&& (2147483647 : Int32)).toInt64))), .second, .val (.int (0 : Int32)), .val (.int (1 : Int32)), .unset]) rfl k) ?_
      refine own_st (V := T89.setTop (mkF m 107 #[.val (.int p1), .val (.int p2), .val (.int p3), .val (.int p4), .val (.int (p1 &&& (2147483647 : Int32))), .val (.int (p1 &&& (2147483647 : Int32))), .val (.ref b79), .val (.ref b81), .val (.ref b85), .val (.long (((p1 &&& (2147483647 : Int32)).toInt64) - ((p1 &&& (2147483647 : Int32)).toInt64))), .second, .val (.int (0 : Int32)), .val (.int (1 : Int32)), .unset] [(.ref b81)])) (fun t k => XS.aload X89.here hx rfl (hb hby at_105) rfl rfl k) ?_
      refine own_st (V := T89.setTop (mkF m 109 #[.val (.int p1), .val (.int p2), .val (.int p3), .val (.int p4), .val (.int (p1 &&& (2147483647 : Int32))), .val (.int (p1 &&& (2147483647 : Int32))), .val (.ref b79), .val (.ref b81), .val (.ref b85), .val (.long (((p1 &&& (2147483647 : Int32)).toInt64) - ((p1 &&& (2147483647 : Int32)).toInt64))), .second, .val (.int (0 : Int32)), .val (.int (1 : Int32)), .unset] [(.ref b81), (.ref b81)])) (fun t k => XS.aload X89.here hx rfl (hb hby at_107) rfl rfl k) ?_
      obtain ⟨cq90, kq90, q90a, q90b, q90c⟩ := isOf hZ e89 Ex87_b81
      obtain ⟨_, _, ⟨T90, L90, k90, n90⟩, -, X90, ⟨Lc90, hQ90, l90, y90, z90⟩, st90⟩ := X89.virtualBack hx (y := (⟨"com/example/trust_grade/trustgrade/network/Level", "isAbove", "(Lcom/example/trust_grade/trustgrade/network/Level;)Z"⟩ : MethodName)) (z := (⟨"com/example/trust_grade/trustgrade/network/Level", "isAbove", "(Lcom/example/trust_grade/trustgrade/network/Level;)Z"⟩ : MethodName)) hown (mvT hZ (hw _ (List.mem_of_getElem? (i := 56) rfl))) (mvT hZ (hw _ (List.mem_of_getElem? (i := 57) rfl))) (notFace_of_selects (args := #[]) (mvT hZ (hw _ (List.mem_of_getElem? (i := 59) rfl)))) (mvT hZ (hw _ (List.mem_of_getElem? (i := 59) rfl))) (mvT hZ (hw _ (List.mem_of_getElem? (i := 58) rfl))) (by decide) (backOf (W := 0) (own_ab0 l Z a0 hw [] b81 b81 (p1 &&& (2147483647 : Int32)) (p1 &&& (2147483647 : Int32)) T87.heap n0 Z0_87 F87_b81_rank F87_b81_rank (own_irr _)) hZ (hw _ (List.mem_of_getElem? (i := 60) rfl)) (hw _ (List.mem_of_getElem? (i := 4) rfl)) (by decide) (by decide)) q90a q90c (g := (mkF m 109 #[.val (.int p1), .val (.int p2), .val (.int p3), .val (.int p4), .val (.int (p1 &&& (2147483647 : Int32))), .val (.int (p1 &&& (2147483647 : Int32))), .val (.ref b79), .val (.ref b81), .val (.ref b85), .val (.long (((p1 &&& (2147483647 : Int32)).toInt64) - ((p1 &&& (2147483647 : Int32)).toInt64))), .second, .val (.int (0 : Int32)), .val (.int (1 : Int32)), .unset] [(.ref b81), (.ref b81)])) rfl (by rw [hml]; rfl) (Steps.refl _) (argsL := [(.ref b81)]) (rest := []) (lenOf own_pd10 rfl) rfl (by show 2 * 0 + _ ≤ _; exact Nat.le_of_eq rfl) (hb hby at_109) (fun _ _ => ⟨rfl, e89, (by decide : 7 + 0 ≤ _), (by decide : 15 + 0 ≤ _)⟩)
      dsimp only [Pt.U, Pt.locs, Pt.cells, Pt.slots] at X90 l90 y90 z90 st90 hQ90
      subst l90 y90 z90
      obtain ⟨rfl, N90q, e90⟩ := hQ90
      have N90 := Fr.app N89 N90q
      refine own_st (V := T90.setTop (mkF m 112 #[.val (.int p1), .val (.int p2), .val (.int p3), .val (.int p4), .val (.int (p1 &&& (2147483647 : Int32))), .val (.int (p1 &&& (2147483647 : Int32))), .val (.ref b79), .val (.ref b81), .val (.ref b85), .val (.long (((p1 &&& (2147483647 : Int32)).toInt64) - ((p1 &&& (2147483647 : Int32)).toInt64))), .second, .val (.int (0 : Int32)), .val (.int (1 : Int32)), .unset] [(.int (0 : Int32))])) (fun t k => st90.trans k) ?_
      refine own_st (V := T90.setTop (mkF m 114 #[.val (.int p1), .val (.int p2), .val (.int p3), .val (.int p4), .val (.int (p1 &&& (2147483647 : Int32))), .val (.int (p1 &&& (2147483647 : Int32))), .val (.ref b79), .val (.ref b81), .val (.ref b85), .val (.long (((p1 &&& (2147483647 : Int32)).toInt64) - ((p1 &&& (2147483647 : Int32)).toInt64))), .second, .val (.int (0 : Int32)), .val (.int (1 : Int32)), .val (.int (0 : Int32))] [])) (fun t k => XS.istore X90.here hx rfl (hb hby at_112) rfl (l' := #[.val (.int p1), .val (.int p2), .val (.int p3), .val (.int p4), .val (.int (p1 &&& (2147483647 : Int32))), .val (.int (p1 &&& (2147483647 : Int32))), .val (.ref b79), .val (.ref b81), .val (.ref b85), .val (.long (((p1 &&& (2147483647 : Int32)).toInt64) - ((p1 &&& (2147483647 : Int32)).toInt64))), .second, .val (.int (0 : Int32)), .val (.int (1 : Int32)), .val (.int (0 : Int32))]) rfl k) ?_
      refine own_st (V := T90.setTop (mkF m 116 #[.val (.int p1), .val (.int p2), .val (.int p3), .val (.int p4), .val (.int (p1 &&& (2147483647 : Int32))), .val (.int (p1 &&& (2147483647 : Int32))), .val (.ref b79), .val (.ref b81), .val (.ref b85), .val (.long (((p1 &&& (2147483647 : Int32)).toInt64) - ((p1 &&& (2147483647 : Int32)).toInt64))), .second, .val (.int (0 : Int32)), .val (.int (1 : Int32)), .val (.int (0 : Int32))] [(.int (0 : Int32))])) (fun t k => XS.iload X90.here hx rfl (hb hby at_114) rfl k) ?_
      refine own_st (V := T90.setTop (mkF m 118 #[.val (.int p1), .val (.int p2), .val (.int p3), .val (.int p4), .val (.int (p1 &&& (2147483647 : Int32))), .val (.int (p1 &&& (2147483647 : Int32))), .val (.ref b79), .val (.ref b81), .val (.ref b85), .val (.long (((p1 &&& (2147483647 : Int32)).toInt64) - ((p1 &&& (2147483647 : Int32)).toInt64))), .second, .val (.int (0 : Int32)), .val (.int (1 : Int32)), .val (.int (0 : Int32))] [(.long (((p1 &&& (2147483647 : Int32)).toInt64) - ((p1 &&& (2147483647 : Int32)).toInt64))), (.int (0 : Int32))])) (fun t k => XS.lload X90.here hx rfl (hb hby at_116) rfl k) ?_
      refine own_st (V := T90.setTop (mkF m 119 #[.val (.int p1), .val (.int p2), .val (.int p3), .val (.int p4), .val (.int (p1 &&& (2147483647 : Int32))), .val (.int (p1 &&& (2147483647 : Int32))), .val (.ref b79), .val (.ref b81), .val (.ref b85), .val (.long (((p1 &&& (2147483647 : Int32)).toInt64) - ((p1 &&& (2147483647 : Int32)).toInt64))), .second, .val (.int (0 : Int32)), .val (.int (1 : Int32)), .val (.int (0 : Int32))] [(.long (0 : Int64)), (.long (((p1 &&& (2147483647 : Int32)).toInt64) - ((p1 &&& (2147483647 : Int32)).toInt64))), (.int (0 : Int32))])) (fun t k => XS.lconst X90.here hx rfl (hb hby at_118) k) ?_
      refine own_st (V := T90.setTop (mkF m 120 #[.val (.int p1), .val (.int p2), .val (.int p3), .val (.int p4), .val (.int (p1 &&& (2147483647 : Int32))), .val (.int (p1 &&& (2147483647 : Int32))), .val (.ref b79), .val (.ref b81), .val (.ref b85), .val (.long (((p1 &&& (2147483647 : Int32)).toInt64) - ((p1 &&& (2147483647 : Int32)).toInt64))), .second, .val (.int (0 : Int32)), .val (.int (1 : Int32)), .val (.int (0 : Int32))] [(.int (lcmpW (((p1 &&& (2147483647 : Int32)).toInt64) - ((p1 &&& (2147483647 : Int32)).toInt64)) (0 : Int64))), (.int (0 : Int32))])) (fun t k => XS.lcmp X90.here hx rfl (hb hby at_119) rfl k) ?_
      refine own_st (V := T90.setTop (mkF m 127 #[.val (.int p1), .val (.int p2), .val (.int p3), .val (.int p4), .val (.int (p1 &&& (2147483647 : Int32))), .val (.int (p1 &&& (2147483647 : Int32))), .val (.ref b79), .val (.ref b81), .val (.ref b85), .val (.long (((p1 &&& (2147483647 : Int32)).toInt64) - ((p1 &&& (2147483647 : Int32)).toInt64))), .second, .val (.int (0 : Int32)), .val (.int (1 : Int32)), .val (.int (0 : Int32))] [(.int (0 : Int32))])) (fun t k => XS.ifYes X90.here hx rfl (pc0 := 120) (pc' := 127) rfl (hb hby at_120) rfl ((if0 _ _).trans (flt (own_lgn hg)).2.2.2) (by decide) (by decide) k) ?_
      refine own_st (V := T90.setTop (mkF m 128 #[.val (.int p1), .val (.int p2), .val (.int p3), .val (.int p4), .val (.int (p1 &&& (2147483647 : Int32))), .val (.int (p1 &&& (2147483647 : Int32))), .val (.ref b79), .val (.ref b81), .val (.ref b85), .val (.long (((p1 &&& (2147483647 : Int32)).toInt64) - ((p1 &&& (2147483647 : Int32)).toInt64))), .second, .val (.int (0 : Int32)), .val (.int (1 : Int32)), .val (.int (0 : Int32))] [(.int (0 : Int32)), (.int (0 : Int32))])) (fun t k => XS.iconst X90.here hx rfl (hb hby at_127) k) ?_
      refine own_st (V := T90.setTop (mkF m 131 #[.val (.int p1), .val (.int p2), .val (.int p3), .val (.int p4), .val (.int (p1 &&& (2147483647 : Int32))), .val (.int (p1 &&& (2147483647 : Int32))), .val (.ref b79), .val (.ref b81), .val (.ref b85), .val (.long (((p1 &&& (2147483647 : Int32)).toInt64) - ((p1 &&& (2147483647 : Int32)).toInt64))), .second, .val (.int (0 : Int32)), .val (.int (1 : Int32)), .val (.int (0 : Int32))] [])) (fun t k => XS.icmpNo X90.here hx rfl (hb hby at_128) rfl (teq (by decide : (0 : Int32) = (0 : Int32))).2 k) ?_
      refine own_st (V := T90.setTop (mkF m 133 #[.val (.int p1), .val (.int p2), .val (.int p3), .val (.int p4), .val (.int (p1 &&& (2147483647 : Int32))), .val (.int (p1 &&& (2147483647 : Int32))), .val (.ref b79), .val (.ref b81), .val (.ref b85), .val (.long (((p1 &&& (2147483647 : Int32)).toInt64) - ((p1 &&& (2147483647 : Int32)).toInt64))), .second, .val (.int (0 : Int32)), .val (.int (1 : Int32)), .val (.int (0 : Int32))] [(.int (1 : Int32))])) (fun t k => XS.iload X90.here hx rfl (hb hby at_131) rfl k) ?_
      refine own_st (V := T90.setTop (mkF m 135 #[.val (.int p1), .val (.int p2), .val (.int p3), .val (.int p4), .val (.int (p1 &&& (2147483647 : Int32))), .val (.int (p1 &&& (2147483647 : Int32))), .val (.ref b79), .val (.ref b81), .val (.ref b85), .val (.long (((p1 &&& (2147483647 : Int32)).toInt64) - ((p1 &&& (2147483647 : Int32)).toInt64))), .second, .val (.int (0 : Int32)), .val (.int (1 : Int32)), .val (.int (0 : Int32))] [(.long (((p1 &&& (2147483647 : Int32)).toInt64) - ((p1 &&& (2147483647 : Int32)).toInt64))), (.int (1 : Int32))])) (fun t k => XS.lload X90.here hx rfl (hb hby at_133) rfl k) ?_
      refine own_st (V := T90.setTop (mkF m 136 #[.val (.int p1), .val (.int p2), .val (.int p3), .val (.int p4), .val (.int (p1 &&& (2147483647 : Int32))), .val (.int (p1 &&& (2147483647 : Int32))), .val (.ref b79), .val (.ref b81), .val (.ref b85), .val (.long (((p1 &&& (2147483647 : Int32)).toInt64) - ((p1 &&& (2147483647 : Int32)).toInt64))), .second, .val (.int (0 : Int32)), .val (.int (1 : Int32)), .val (.int (0 : Int32))] [(.long (0 : Int64)), (.long (((p1 &&& (2147483647 : Int32)).toInt64) - ((p1 &&& (2147483647 : Int32)).toInt64))), (.int (1 : Int32))])) (fun t k => XS.lconst X90.here hx rfl (hb hby at_135) k) ?_
      refine own_st (V := T90.setTop (mkF m 137 #[.val (.int p1), .val (.int p2), .val (.int p3), .val (.int p4), .val (.int (p1 &&& (2147483647 : Int32))), .val (.int (p1 &&& (2147483647 : Int32))), .val (.ref b79), .val (.ref b81), .val (.ref b85), .val (.long (((p1 &&& (2147483647 : Int32)).toInt64) - ((p1 &&& (2147483647 : Int32)).toInt64))), .second, .val (.int (0 : Int32)), .val (.int (1 : Int32)), .val (.int (0 : Int32))] [(.int (lcmpW (((p1 &&& (2147483647 : Int32)).toInt64) - ((p1 &&& (2147483647 : Int32)).toInt64)) (0 : Int64))), (.int (1 : Int32))])) (fun t k => XS.lcmp X90.here hx rfl (hb hby at_136) rfl k) ?_
      refine own_st (V := T90.setTop (mkF m 140 #[.val (.int p1), .val (.int p2), .val (.int p3), .val (.int p4), .val (.int (p1 &&& (2147483647 : Int32))), .val (.int (p1 &&& (2147483647 : Int32))), .val (.ref b79), .val (.ref b81), .val (.ref b85), .val (.long (((p1 &&& (2147483647 : Int32)).toInt64) - ((p1 &&& (2147483647 : Int32)).toInt64))), .second, .val (.int (0 : Int32)), .val (.int (1 : Int32)), .val (.int (0 : Int32))] [(.int (1 : Int32))])) (fun t k => XS.ifNo X90.here hx rfl (hb hby at_137) rfl ((if0 _ _).trans (tlt (own_ll hl)).2.1) k) ?_
      refine own_st (V := T90.setTop (mkF m 141 #[.val (.int p1), .val (.int p2), .val (.int p3), .val (.int p4), .val (.int (p1 &&& (2147483647 : Int32))), .val (.int (p1 &&& (2147483647 : Int32))), .val (.ref b79), .val (.ref b81), .val (.ref b85), .val (.long (((p1 &&& (2147483647 : Int32)).toInt64) - ((p1 &&& (2147483647 : Int32)).toInt64))), .second, .val (.int (0 : Int32)), .val (.int (1 : Int32)), .val (.int (0 : Int32))] [(.int (1 : Int32)), (.int (1 : Int32))])) (fun t k => XS.iconst X90.here hx rfl (hb hby at_140) k) ?_
      refine own_st (V := T90.setTop (mkF m 145 #[.val (.int p1), .val (.int p2), .val (.int p3), .val (.int p4), .val (.int (p1 &&& (2147483647 : Int32))), .val (.int (p1 &&& (2147483647 : Int32))), .val (.ref b79), .val (.ref b81), .val (.ref b85), .val (.long (((p1 &&& (2147483647 : Int32)).toInt64) - ((p1 &&& (2147483647 : Int32)).toInt64))), .second, .val (.int (0 : Int32)), .val (.int (1 : Int32)), .val (.int (0 : Int32))] [(.int (1 : Int32)), (.int (1 : Int32))])) (fun t k => XS.goto X90.here hx rfl (pc0 := 141) (pc' := 145) rfl (hb hby at_141) (by decide) (by decide) k) ?_
      refine own_st (V := T90.setTop (mkF m 148 #[.val (.int p1), .val (.int p2), .val (.int p3), .val (.int p4), .val (.int (p1 &&& (2147483647 : Int32))), .val (.int (p1 &&& (2147483647 : Int32))), .val (.ref b79), .val (.ref b81), .val (.ref b85), .val (.long (((p1 &&& (2147483647 : Int32)).toInt64) - ((p1 &&& (2147483647 : Int32)).toInt64))), .second, .val (.int (0 : Int32)), .val (.int (1 : Int32)), .val (.int (0 : Int32))] [])) (fun t k => XS.icmpNo X90.here hx rfl (hb hby at_145) rfl (teq (by decide : (1 : Int32) = (1 : Int32))).2 k) ?_
      refine own_st (V := T90.setTop (mkF m 150 #[.val (.int p1), .val (.int p2), .val (.int p3), .val (.int p4), .val (.int (p1 &&& (2147483647 : Int32))), .val (.int (p1 &&& (2147483647 : Int32))), .val (.ref b79), .val (.ref b81), .val (.ref b85), .val (.long (((p1 &&& (2147483647 : Int32)).toInt64) - ((p1 &&& (2147483647 : Int32)).toInt64))), .second, .val (.int (0 : Int32)), .val (.int (1 : Int32)), .val (.int (0 : Int32))] [(.int (0 : Int32))])) (fun t k => XS.iload X90.here hx rfl (hb hby at_148) rfl k) ?_
      refine own_st (V := T90.setTop (mkF m 153 #[.val (.int p1), .val (.int p2), .val (.int p3), .val (.int p4), .val (.int (p1 &&& (2147483647 : Int32))), .val (.int (p1 &&& (2147483647 : Int32))), .val (.ref b79), .val (.ref b81), .val (.ref b85), .val (.long (((p1 &&& (2147483647 : Int32)).toInt64) - ((p1 &&& (2147483647 : Int32)).toInt64))), .second, .val (.int (0 : Int32)), .val (.int (1 : Int32)), .val (.int (0 : Int32))] [])) (fun t k => XS.ifNo X90.here hx rfl (hb hby at_150) rfl ((if0 _ _).trans (teq (by decide : (0 : Int32) = (0 : Int32))).2) k) ?_
      refine own_st (V := T90.setTop (mkF m 154 #[.val (.int p1), .val (.int p2), .val (.int p3), .val (.int p4), .val (.int (p1 &&& (2147483647 : Int32))), .val (.int (p1 &&& (2147483647 : Int32))), .val (.ref b79), .val (.ref b81), .val (.ref b85), .val (.long (((p1 &&& (2147483647 : Int32)).toInt64) - ((p1 &&& (2147483647 : Int32)).toInt64))), .second, .val (.int (0 : Int32)), .val (.int (1 : Int32)), .val (.int (0 : Int32))] [(.int (1 : Int32))])) (fun t k => XS.iconst X90.here hx rfl (hb hby at_153) k) ?_
      refine own_st (V := T90.setTop (mkF m 158 #[.val (.int p1), .val (.int p2), .val (.int p3), .val (.int p4), .val (.int (p1 &&& (2147483647 : Int32))), .val (.int (p1 &&& (2147483647 : Int32))), .val (.ref b79), .val (.ref b81), .val (.ref b85), .val (.long (((p1 &&& (2147483647 : Int32)).toInt64) - ((p1 &&& (2147483647 : Int32)).toInt64))), .second, .val (.int (0 : Int32)), .val (.int (1 : Int32)), .val (.int (0 : Int32))] [(.int (1 : Int32))])) (fun t k => XS.goto X90.here hx rfl (pc0 := 154) (pc' := 158) rfl (hb hby at_154) (by decide) (by decide) k) ?_
      exact own_ret X90 hx hlk Bd.returns (by decide +kernel) (Or.inl ⟨rfl, by simp, _, rfl⟩) (hb hby at_158) (by decide) (by decide) ⟨rfl, N90⟩
    · refine own_st (V := s₁.setTop (mkF m 25 #[.val (.int p1), .val (.int p2), .val (.int p3), .val (.int p4), .val (.int (p1 &&& (2147483647 : Int32))), .val (.int (p1 &&& (2147483647 : Int32))), .unset, .unset, .unset, .unset, .unset, .unset, .unset, .unset] [(.int (1 : Int32))])) (fun t k => XS.iconst X0.here hx rfl (hb hby at_24) k) ?_
      obtain ⟨T91, h91, k91, X91, e91, E91, A91, st91⟩ := newP X0 hx hZ (hw _ (List.mem_of_getElem? (i := 1) rfl)) e0 (g := (mkF m 25 #[.val (.int p1), .val (.int p2), .val (.int p3), .val (.int p4), .val (.int (p1 &&& (2147483647 : Int32))), .val (.int (p1 &&& (2147483647 : Int32))), .unset, .unset, .unset, .unset, .unset, .unset, .unset, .unset] [(.int (1 : Int32))])) rfl (hb hby at_25) rfl (by decide) (cap := 1) (by decide) (by decide) (by decide) (by decide)
      obtain ⟨b91, g91⟩ : ∃ z, z = h0.size := ⟨_, rfl⟩
      rw [← g91] at A91 st91
      have gb_b91 : n0 ≤ b91 := Nat.le_trans Z0 (Nat.le_of_eq g91.symm)
      have Z0_91 : n0 ≤ h91.size := Nat.le_trans Z0 E91.1
      have Od91 := Od.ext E91
      have V91_b91 : Arv Z h91 b91 k91 .char (1 : Int32) [(.int (0 : Int32))] (.int (0 : Int32)) := (Arv.new A91 (by decide)).pad (pad_rep [] (.int (0 : Int32)) 1)
      refine own_st (V := T91.setTop (mkF m 27 #[.val (.int p1), .val (.int p2), .val (.int p3), .val (.int p4), .val (.int (p1 &&& (2147483647 : Int32))), .val (.int (p1 &&& (2147483647 : Int32))), .unset, .unset, .unset, .unset, .unset, .unset, .unset, .unset] [(.ref b91)])) (fun t k => st91 _ k) ?_
      refine own_st (V := T91.setTop (mkF m 28 #[.val (.int p1), .val (.int p2), .val (.int p3), .val (.int p4), .val (.int (p1 &&& (2147483647 : Int32))), .val (.int (p1 &&& (2147483647 : Int32))), .unset, .unset, .unset, .unset, .unset, .unset, .unset, .unset] [(.ref b91), (.ref b91)])) (fun t k => XS.dup X91.here hx rfl (hb hby at_27) rfl rfl k) ?_
      refine own_st (V := T91.setTop (mkF m 29 #[.val (.int p1), .val (.int p2), .val (.int p3), .val (.int p4), .val (.int (p1 &&& (2147483647 : Int32))), .val (.int (p1 &&& (2147483647 : Int32))), .unset, .unset, .unset, .unset, .unset, .unset, .unset, .unset] [(.int (0 : Int32)), (.ref b91), (.ref b91)])) (fun t k => XS.iconst X91.here hx rfl (hb hby at_28) k) ?_
      refine own_st (V := T91.setTop (mkF m 30 #[.val (.int p1), .val (.int p2), .val (.int p3), .val (.int p4), .val (.int (p1 &&& (2147483647 : Int32))), .val (.int (p1 &&& (2147483647 : Int32))), .unset, .unset, .unset, .unset, .unset, .unset, .unset, .unset] [(.int p3), (.int (0 : Int32)), (.ref b91), (.ref b91)])) (fun t k => XS.iloadN X91.here hx rfl (hb hby at_29) rfl k) ?_
      refine own_st (V := T91.setTop (mkF m 33 #[.val (.int p1), .val (.int p2), .val (.int p3), .val (.int p4), .val (.int (p1 &&& (2147483647 : Int32))), .val (.int (p1 &&& (2147483647 : Int32))), .unset, .unset, .unset, .unset, .unset, .unset, .unset, .unset] [(.int (255 : Int32)), (.int p3), (.int (0 : Int32)), (.ref b91), (.ref b91)])) (fun t k => XS.sipush X91.here hx rfl (hb hby at_30) k) ?_
      refine own_st (V := T91.setTop (mkF m 34 #[.val (.int p1), .val (.int p2), .val (.int p3), .val (.int p4), .val (.int (p1 &&& (2147483647 : Int32))), .val (.int (p1 &&& (2147483647 : Int32))), .unset, .unset, .unset, .unset, .unset, .unset, .unset, .unset] [(.int (p3 &&& (255 : Int32))), (.int (0 : Int32)), (.ref b91), (.ref b91)])) (fun t k => XS.iand X91.here hx rfl (hb hby at_33) rfl k) ?_
      refine own_st (V := T91.setTop (mkF m 35 #[.val (.int p1), .val (.int p2), .val (.int p3), .val (.int p4), .val (.int (p1 &&& (2147483647 : Int32))), .val (.int (p1 &&& (2147483647 : Int32))), .unset, .unset, .unset, .unset, .unset, .unset, .unset, .unset] [(.int ((p3 &&& (255 : Int32)).toUInt32.toUInt16.toUInt32.toInt32)), (.int (0 : Int32)), (.ref b91), (.ref b91)])) (fun t k => XS.i2c X91.here hx rfl (hb hby at_34) rfl k) ?_
      have Vk92 := V91_b91
      obtain ⟨cl92, Ar92, qk92, sz92, nn92, hs92, fs92⟩ := Vk92
      have hin92 : ¬ ((0 : Int32) < 0 ∨ cl92.slots.size ≤ ((0 : Int32)).toNatClampNeg) := inb_of sz92 ⟨by decide, by decide⟩
      obtain ⟨T92, h92, X92, e92, W92, st92⟩ := stC X91 hx hZ e91 Ar92 (j := (0 : Int32)) hin92 (g := (mkF m 35 #[.val (.int p1), .val (.int p2), .val (.int p3), .val (.int p4), .val (.int (p1 &&& (2147483647 : Int32))), .val (.int (p1 &&& (2147483647 : Int32))), .unset, .unset, .unset, .unset, .unset, .unset, .unset, .unset] [(.int ((p3 &&& (255 : Int32)).toUInt32.toUInt16.toUInt32.toInt32)), (.int (0 : Int32)), (.ref b91), (.ref b91)])) rfl rfl (hb hby at_35)
      have V92_b91 := Arv.set Ar92 qk92 sz92 nn92 hs92 fs92 (fits_nar_char _) W92 0 rfl (Nat.le_of_ble_eq_true rfl)
      have N92 := Fr.snoc X92 N0 gb_b91
      have Z0_92 : n0 ≤ h92.size := by rw [W92.size]; exact Z0_91
      have Od92 := Od91.wr W92 gb_b91
      refine own_st (V := T92.setTop (mkF m 36 #[.val (.int p1), .val (.int p2), .val (.int p3), .val (.int p4), .val (.int (p1 &&& (2147483647 : Int32))), .val (.int (p1 &&& (2147483647 : Int32))), .unset, .unset, .unset, .unset, .unset, .unset, .unset, .unset] [(.ref b91)])) (fun t k => st92 _ k) ?_
      refine own_st (V := T92.setTop (mkF m 38 #[.val (.int p1), .val (.int p2), .val (.int p3), .val (.int p4), .val (.int (p1 &&& (2147483647 : Int32))), .val (.int (p1 &&& (2147483647 : Int32))), .val (.ref b91), .unset, .unset, .unset, .unset, .unset, .unset, .unset] [])) (fun t k => XS.astore X92.here hx rfl (hb hby at_36) rfl rfl (l' := #[.val (.int p1), .val (.int p2), .val (.int p3), .val (.int p4), .val (.int (p1 &&& (2147483647 : Int32))), .val (.int (p1 &&& (2147483647 : Int32))), .val (.ref b91), .unset, .unset, .unset, .unset, .unset, .unset, .unset]) rfl k) ?_
      obtain ⟨T93, h93, X93, e93, E93, A93, D93, -, st93⟩ := newO X92 hx hZ hown (hw _ (List.mem_of_getElem? (i := 2) rfl)) (hw _ (List.mem_of_getElem? (i := 3) rfl)) (hw _ (List.mem_of_getElem? (i := 4) rfl)) e92 (g := (mkF m 38 #[.val (.int p1), .val (.int p2), .val (.int p3), .val (.int p4), .val (.int (p1 &&& (2147483647 : Int32))), .val (.int (p1 &&& (2147483647 : Int32))), .val (.ref b91), .unset, .unset, .unset, .unset, .unset, .unset, .unset] [])) rfl (hb hby at_38) (by decide) (by decide)
      obtain ⟨b93, g93⟩ : ∃ z, z = h92.size := ⟨_, rfl⟩
      rw [← g93] at A93 D93 st93
      have gb_b93 : n0 ≤ b93 := Nat.le_trans Z0_92 (Nat.le_of_eq g93.symm)
      have Z0_93 : n0 ≤ h93.size := Nat.le_trans Z0_92 E93.1
      have ne_b91_b93 : b91 ≠ b93 := Nat.ne_of_lt (Nat.lt_of_lt_of_le V92_b91.lt (Nat.le_of_eq g93.symm))
      have V93_b91 := V92_b91.ext E93
      have Od93 := Od92.ext E93
      have F93_b93_name : Fld Z h93 b93 "com/example/trust_grade/trustgrade/network/Level" "name" "Ljava/lang/String;" .null := D93 (Or.inr (hw _ (List.mem_of_getElem? (i := 39) rfl))) (ty := (.object "java/lang/String")) (by decide)
      have F93_b93_rank : Fld Z h93 b93 "com/example/trust_grade/trustgrade/network/Level" "rank" "I" (.int (0 : Int32)) := D93 (Or.inr (hw _ (List.mem_of_getElem? (i := 41) rfl))) (ty := .int) (by decide)
      refine own_st (V := T93.setTop (mkF m 41 #[.val (.int p1), .val (.int p2), .val (.int p3), .val (.int p4), .val (.int (p1 &&& (2147483647 : Int32))), .val (.int (p1 &&& (2147483647 : Int32))), .val (.ref b91), .unset, .unset, .unset, .unset, .unset, .unset, .unset] [(.ref b93)])) (fun t k => st93 _ k) ?_
      refine own_st (V := T93.setTop (mkF m 42 #[.val (.int p1), .val (.int p2), .val (.int p3), .val (.int p4), .val (.int (p1 &&& (2147483647 : Int32))), .val (.int (p1 &&& (2147483647 : Int32))), .val (.ref b91), .unset, .unset, .unset, .unset, .unset, .unset, .unset] [(.ref b93), (.ref b93)])) (fun t k => XS.dup X93.here hx rfl (hb hby at_41) rfl rfl k) ?_
      obtain ⟨T94, h94, X94, e94, E94, A94, D94, -, st94⟩ := newO X93 hx hZ hown (hw _ (List.mem_of_getElem? (i := 5) rfl)) (hw _ (List.mem_of_getElem? (i := 6) rfl)) (hw _ (List.mem_of_getElem? (i := 7) rfl)) e93 (g := (mkF m 42 #[.val (.int p1), .val (.int p2), .val (.int p3), .val (.int p4), .val (.int (p1 &&& (2147483647 : Int32))), .val (.int (p1 &&& (2147483647 : Int32))), .val (.ref b91), .unset, .unset, .unset, .unset, .unset, .unset, .unset] [(.ref b93), (.ref b93)])) rfl (hb hby at_42) (by decide) (by decide)
      obtain ⟨b94, g94⟩ : ∃ z, z = h93.size := ⟨_, rfl⟩
      rw [← g94] at A94 D94 st94
      have gb_b94 : n0 ≤ b94 := Nat.le_trans Z0_93 (Nat.le_of_eq g94.symm)
      have Z0_94 : n0 ≤ h94.size := Nat.le_trans Z0_93 E94.1
      have ne_b91_b94 : b91 ≠ b94 := Nat.ne_of_lt (Nat.lt_of_lt_of_le V93_b91.lt (Nat.le_of_eq g94.symm))
      have ne_b93_b94 : b93 ≠ b94 := Nat.ne_of_lt (Nat.lt_of_lt_of_le A93.lt (Nat.le_of_eq g94.symm))
      have F94_b93_name := F93_b93_name.ext E94
      have F94_b93_rank := F93_b93_rank.ext E94
      have Ex94_b93 := A93.ext E94
      have V94_b91 := V93_b91.ext E94
      have Od94 := Od93.ext E94
      have F94_b94_coder : Fld Z h94 b94 "java/lang/String" "coder" "B" (.int (0 : Int32)) := D94 (Or.inr (hw _ (List.mem_of_getElem? (i := 31) rfl))) (ty := .byte) (by decide)
      have F94_b94_value : Fld Z h94 b94 "java/lang/String" "value" "[B" .null := D94 (Or.inr (hw _ (List.mem_of_getElem? (i := 33) rfl))) (ty := (.array .byte)) (by decide)
      refine own_st (V := T94.setTop (mkF m 45 #[.val (.int p1), .val (.int p2), .val (.int p3), .val (.int p4), .val (.int (p1 &&& (2147483647 : Int32))), .val (.int (p1 &&& (2147483647 : Int32))), .val (.ref b91), .unset, .unset, .unset, .unset, .unset, .unset, .unset] [(.ref b94), (.ref b93), (.ref b93)])) (fun t k => st94 _ k) ?_
      refine own_st (V := T94.setTop (mkF m 46 #[.val (.int p1), .val (.int p2), .val (.int p3), .val (.int p4), .val (.int (p1 &&& (2147483647 : Int32))), .val (.int (p1 &&& (2147483647 : Int32))), .val (.ref b91), .unset, .unset, .unset, .unset, .unset, .unset, .unset] [(.ref b94), (.ref b94), (.ref b93), (.ref b93)])) (fun t k => XS.dup X94.here hx rfl (hb hby at_45) rfl rfl k) ?_
      refine own_st (V := T94.setTop (mkF m 48 #[.val (.int p1), .val (.int p2), .val (.int p3), .val (.int p4), .val (.int (p1 &&& (2147483647 : Int32))), .val (.int (p1 &&& (2147483647 : Int32))), .val (.ref b91), .unset, .unset, .unset, .unset, .unset, .unset, .unset] [(.ref b91), (.ref b94), (.ref b94), (.ref b93), (.ref b93)])) (fun t k => XS.aload X94.here hx rfl (hb hby at_46) rfl rfl k) ?_
      obtain ⟨_, _, ⟨T95, L95, k95, n95⟩, -, X95, ⟨Lc95, hQ95, l95, y95, z95⟩, st95⟩ := X94.specialBack hx (y := (⟨"java/lang/String", "<init>", "([C)V"⟩ : MethodName)) rfl hown (mvT hZ (hw _ (List.mem_of_getElem? (i := 8) rfl))) (mvT hZ (hw _ (List.mem_of_getElem? (i := 9) rfl))) (mvT hZ (hw _ (List.mem_of_getElem? (i := 10) rfl))) (by decide) (backOf (W := 3) (own_s1_1 l Z a0 hw [] b94 b91 k91 cs (nar .char ((p3 &&& (255 : Int32)).toUInt32.toUInt16.toUInt32.toInt32)) h94 n0 Z0_94 Od94 SC hcs A94 gb_b94 F94_b94_value F94_b94_coder V94_b91 ne_b91_b94 (own_ch2 p3)) hZ (hw _ (List.mem_of_getElem? (i := 10) rfl)) (hw _ (List.mem_of_getElem? (i := 7) rfl)) (by decide) (by decide)) (g := (mkF m 48 #[.val (.int p1), .val (.int p2), .val (.int p3), .val (.int p4), .val (.int (p1 &&& (2147483647 : Int32))), .val (.int (p1 &&& (2147483647 : Int32))), .val (.ref b91), .unset, .unset, .unset, .unset, .unset, .unset, .unset] [(.ref b91), (.ref b94), (.ref b94), (.ref b93), (.ref b93)])) rfl (by rw [hml]; rfl) (Steps.refl _) (a := b94) (argsL := [(.ref b91)]) (rest := [(.ref b94), (.ref b93), (.ref b93)]) (lenOf own_pd7 rfl) rfl (by show 2 * 0 + _ ≤ _; exact Nat.le_of_eq rfl) (hb hby at_48) (fun _ _ => ⟨rfl, e94, (by decide : 3 + 1 ≤ _), (by decide : 7 + 1 ≤ _)⟩)
      dsimp only [Pt.U, Pt.locs, Pt.cells, Pt.slots] at X95 l95 y95 z95 st95 hQ95
      subst l95 y95 z95
      obtain ⟨rfl, N95q, K95, Ex95_q, t95, kbt95, vst95, szt95', Fq95_0, Vq95⟩ := hQ95
      have N95 := Fr.app N92 N95q
      have Z0_95 : n0 ≤ T95.heap.size := Nat.le_trans Z0_94 K95.1
      have ne_b93_t95 : b93 ≠ t95 := Nat.ne_of_lt (Nat.lt_of_lt_of_le Ex94_b93.lt szt95')
      have ne_b94_t95 : b94 ≠ t95 := Nat.ne_of_lt (Nat.lt_of_lt_of_le A94.lt szt95')
      have ne_b91_t95 : b91 ≠ t95 := Nat.ne_of_lt (Nat.lt_of_lt_of_le V94_b91.lt szt95')
      have F95_b93_name := F94_b93_name.keep K95 (ninS ne_b93_b94 nin0)
      have F95_b93_rank := F94_b93_rank.keep K95 (ninS ne_b93_b94 nin0)
      have Ex95_b93 := Ex94_b93.keep K95
      have Ex95_b94 := A94.keep K95
      have V95_b91 := V94_b91.keep K95 (ninS ne_b91_b94 nin0)
      have Od95 := Od94.keep K95 (allS gb_b94 all0)
      refine own_st (V := T95.setTop (mkF m 51 #[.val (.int p1), .val (.int p2), .val (.int p3), .val (.int p4), .val (.int (p1 &&& (2147483647 : Int32))), .val (.int (p1 &&& (2147483647 : Int32))), .val (.ref b91), .unset, .unset, .unset, .unset, .unset, .unset, .unset] [(.ref b94), (.ref b93), (.ref b93)])) (fun t k => st95.trans k) ?_
      refine own_st (V := T95.setTop (mkF m 53 #[.val (.int p1), .val (.int p2), .val (.int p3), .val (.int p4), .val (.int (p1 &&& (2147483647 : Int32))), .val (.int (p1 &&& (2147483647 : Int32))), .val (.ref b91), .unset, .unset, .unset, .unset, .unset, .unset, .unset] [(.int (p1 &&& (2147483647 : Int32))), (.ref b94), (.ref b93), (.ref b93)])) (fun t k => XS.iload X95.here hx rfl (hb hby at_51) rfl k) ?_
      obtain ⟨_, _, ⟨T96, L96, k96, n96⟩, -, X96, ⟨Lc96, hQ96, l96, y96, z96⟩, st96⟩ := X95.specialBack hx (y := (⟨"com/example/trust_grade/trustgrade/network/Level", "<init>", "(Ljava/lang/String;I)V"⟩ : MethodName)) rfl hown (mvT hZ (hw _ (List.mem_of_getElem? (i := 34) rfl))) (mvT hZ (hw _ (List.mem_of_getElem? (i := 35) rfl))) (mvT hZ (hw _ (List.mem_of_getElem? (i := 36) rfl))) (by decide) (backOf (W := 1) (own_li l Z a0 hw [] b93 b94 (p1 &&& (2147483647 : Int32)) T95.heap n0 Z0_95 F95_b93_name F95_b93_rank Ex95_b93 gb_b93) hZ (hw _ (List.mem_of_getElem? (i := 36) rfl)) (hw _ (List.mem_of_getElem? (i := 4) rfl)) (by decide) (by decide)) (g := (mkF m 53 #[.val (.int p1), .val (.int p2), .val (.int p3), .val (.int p4), .val (.int (p1 &&& (2147483647 : Int32))), .val (.int (p1 &&& (2147483647 : Int32))), .val (.ref b91), .unset, .unset, .unset, .unset, .unset, .unset, .unset] [(.int (p1 &&& (2147483647 : Int32))), (.ref b94), (.ref b93), (.ref b93)])) rfl (by rw [hml]; rfl) (Steps.refl _) (a := b93) (argsL := [(.ref b94), (.int (p1 &&& (2147483647 : Int32)))]) (rest := [(.ref b93)]) (lenOf own_pd8 rfl) rfl (by show 2 * 0 + _ ≤ _; exact Nat.le_of_eq rfl) (hb hby at_53) (fun _ _ => ⟨rfl, rfl, (by decide : 4 + 0 ≤ _), (by decide : 8 + 0 ≤ _)⟩)
      dsimp only [Pt.U, Pt.locs, Pt.cells, Pt.slots] at X96 l96 y96 z96 st96 hQ96
      subst l96 y96 z96
      obtain ⟨rfl, N96q, K96, Ex96_q, Fq96_0⟩ := hQ96
      have N96 := Fr.app N95 N96q
      have Z0_96 : n0 ≤ T96.heap.size := Nat.le_trans Z0_95 K96.1
      have F96_b94_value := Fq95_0.keep K96 (ninS (Ne.symm ne_b93_b94) nin0)
      have Ex96_b93 := Ex95_b93.keep K96
      have Ex96_b94 := Ex95_q.keep K96
      have V96_b91 := V95_b91.keep K96 (ninS ne_b91_b93 nin0)
      have V96_t95 := Vq95.keep K96 (ninS (Ne.symm ne_b93_t95) nin0)
      have Od96 := Od95.keep K96 (allS gb_b93 all0)
      refine own_st (V := T96.setTop (mkF m 56 #[.val (.int p1), .val (.int p2), .val (.int p3), .val (.int p4), .val (.int (p1 &&& (2147483647 : Int32))), .val (.int (p1 &&& (2147483647 : Int32))), .val (.ref b91), .unset, .unset, .unset, .unset, .unset, .unset, .unset] [(.ref b93)])) (fun t k => st96.trans k) ?_
      refine own_st (V := T96.setTop (mkF m 58 #[.val (.int p1), .val (.int p2), .val (.int p3), .val (.int p4), .val (.int (p1 &&& (2147483647 : Int32))), .val (.int (p1 &&& (2147483647 : Int32))), .val (.ref b91), .val (.ref b93), .unset, .unset, .unset, .unset, .unset, .unset] [])) (fun t k => XS.astore X96.here hx rfl (hb hby at_56) rfl rfl (l' := #[.val (.int p1), .val (.int p2), .val (.int p3), .val (.int p4), .val (.int (p1 &&& (2147483647 : Int32))), .val (.int (p1 &&& (2147483647 : Int32))), .val (.ref b91), .val (.ref b93), .unset, .unset, .unset, .unset, .unset, .unset]) rfl k) ?_
      obtain ⟨T97, h97, X97, e97, E97, A97, D97, -, st97⟩ := newO X96 hx hZ hown (hw _ (List.mem_of_getElem? (i := 2) rfl)) (hw _ (List.mem_of_getElem? (i := 3) rfl)) (hw _ (List.mem_of_getElem? (i := 4) rfl)) rfl (g := (mkF m 58 #[.val (.int p1), .val (.int p2), .val (.int p3), .val (.int p4), .val (.int (p1 &&& (2147483647 : Int32))), .val (.int (p1 &&& (2147483647 : Int32))), .val (.ref b91), .val (.ref b93), .unset, .unset, .unset, .unset, .unset, .unset] [])) rfl (hb hby at_58) (by decide) (by decide)
      obtain ⟨b97, g97⟩ : ∃ z, z = T96.heap.size := ⟨_, rfl⟩
      rw [← g97] at A97 D97 st97
      have gb_b97 : n0 ≤ b97 := Nat.le_trans Z0_96 (Nat.le_of_eq g97.symm)
      have Z0_97 : n0 ≤ h97.size := Nat.le_trans Z0_96 E97.1
      have ne_b91_b97 : b91 ≠ b97 := Nat.ne_of_lt (Nat.lt_of_lt_of_le V96_b91.lt (Nat.le_of_eq g97.symm))
      have ne_t95_b97 : t95 ≠ b97 := Nat.ne_of_lt (Nat.lt_of_lt_of_le V96_t95.lt (Nat.le_of_eq g97.symm))
      have ne_b93_b97 : b93 ≠ b97 := Nat.ne_of_lt (Nat.lt_of_lt_of_le Ex96_q.lt (Nat.le_of_eq g97.symm))
      have ne_b94_b97 : b94 ≠ b97 := Nat.ne_of_lt (Nat.lt_of_lt_of_le Ex96_b94.lt (Nat.le_of_eq g97.symm))
      have F97_b94_value := F96_b94_value.ext E97
      have F97_b93_rank := Fq96_0.ext E97
      have Ex97_b93 := Ex96_q.ext E97
      have Ex97_b94 := Ex96_b94.ext E97
      have V97_b91 := V96_b91.ext E97
      have V97_t95 := V96_t95.ext E97
      have Od97 := Od96.ext E97
      have F97_b97_name : Fld Z h97 b97 "com/example/trust_grade/trustgrade/network/Level" "name" "Ljava/lang/String;" .null := D97 (Or.inr (hw _ (List.mem_of_getElem? (i := 39) rfl))) (ty := (.object "java/lang/String")) (by decide)
      have F97_b97_rank : Fld Z h97 b97 "com/example/trust_grade/trustgrade/network/Level" "rank" "I" (.int (0 : Int32)) := D97 (Or.inr (hw _ (List.mem_of_getElem? (i := 41) rfl))) (ty := .int) (by decide)
      refine own_st (V := T97.setTop (mkF m 61 #[.val (.int p1), .val (.int p2), .val (.int p3), .val (.int p4), .val (.int (p1 &&& (2147483647 : Int32))), .val (.int (p1 &&& (2147483647 : Int32))), .val (.ref b91), .val (.ref b93), .unset, .unset, .unset, .unset, .unset, .unset] [(.ref b97)])) (fun t k => st97 _ k) ?_
      refine own_st (V := T97.setTop (mkF m 62 #[.val (.int p1), .val (.int p2), .val (.int p3), .val (.int p4), .val (.int (p1 &&& (2147483647 : Int32))), .val (.int (p1 &&& (2147483647 : Int32))), .val (.ref b91), .val (.ref b93), .unset, .unset, .unset, .unset, .unset, .unset] [(.ref b97), (.ref b97)])) (fun t k => XS.dup X97.here hx rfl (hb hby at_61) rfl rfl k) ?_
      refine own_st (V := T97.setTop (mkF m 63 #[.val (.int p1), .val (.int p2), .val (.int p3), .val (.int p4), .val (.int (p1 &&& (2147483647 : Int32))), .val (.int (p1 &&& (2147483647 : Int32))), .val (.ref b91), .val (.ref b93), .unset, .unset, .unset, .unset, .unset, .unset] [(.int p4), (.ref b97), (.ref b97)])) (fun t k => XS.iloadN X97.here hx rfl (hb hby at_62) rfl k) ?_
      refine own_st (V := T97.setTop (mkF m 66 #[.val (.int p1), .val (.int p2), .val (.int p3), .val (.int p4), .val (.int (p1 &&& (2147483647 : Int32))), .val (.int (p1 &&& (2147483647 : Int32))), .val (.ref b91), .val (.ref b93), .unset, .unset, .unset, .unset, .unset, .unset] [(.int (255 : Int32)), (.int p4), (.ref b97), (.ref b97)])) (fun t k => XS.sipush X97.here hx rfl (hb hby at_63) k) ?_
      refine own_st (V := T97.setTop (mkF m 67 #[.val (.int p1), .val (.int p2), .val (.int p3), .val (.int p4), .val (.int (p1 &&& (2147483647 : Int32))), .val (.int (p1 &&& (2147483647 : Int32))), .val (.ref b91), .val (.ref b93), .unset, .unset, .unset, .unset, .unset, .unset] [(.int (p4 &&& (255 : Int32))), (.ref b97), (.ref b97)])) (fun t k => XS.iand X97.here hx rfl (hb hby at_66) rfl k) ?_
      refine own_st (V := T97.setTop (mkF m 68 #[.val (.int p1), .val (.int p2), .val (.int p3), .val (.int p4), .val (.int (p1 &&& (2147483647 : Int32))), .val (.int (p1 &&& (2147483647 : Int32))), .val (.ref b91), .val (.ref b93), .unset, .unset, .unset, .unset, .unset, .unset] [(.int ((p4 &&& (255 : Int32)).toUInt32.toUInt16.toUInt32.toInt32)), (.ref b97), (.ref b97)])) (fun t k => XS.i2c X97.here hx rfl (hb hby at_67) rfl k) ?_
      obtain ⟨_, _, ⟨T98, L98, k98, n98⟩, -, X98, ⟨Lc98, hQ98, l98, y98, z98⟩, st98⟩ := Jvm.LawKit.callS X97 hx (y := (⟨"java/lang/String", "valueOf", "(C)Ljava/lang/String;"⟩ : MethodName)) hown (mvT hZ (hw _ (List.mem_of_getElem? (i := 42) rfl))) (mvT hZ (hw _ (List.mem_of_getElem? (i := 43) rfl))) (mvT hZ (hw _ (List.mem_of_getElem? (i := 7) rfl))) (mvT hZ (hw _ (List.mem_of_getElem? (i := 44) rfl))) (by decide) (backOf (W := 2) (own_sv l Z a0 hw [] ((p4 &&& (255 : Int32)).toUInt32.toUInt16.toUInt32.toInt32) cs h97 n0 Z0_97 Od97 SC hcs (own_ch p4)) hZ (hw _ (List.mem_of_getElem? (i := 44) rfl)) (hw _ (List.mem_of_getElem? (i := 7) rfl)) (by decide) (by decide)) (g := (mkF m 68 #[.val (.int p1), .val (.int p2), .val (.int p3), .val (.int p4), .val (.int (p1 &&& (2147483647 : Int32))), .val (.int (p1 &&& (2147483647 : Int32))), .val (.ref b91), .val (.ref b93), .unset, .unset, .unset, .unset, .unset, .unset] [(.int ((p4 &&& (255 : Int32)).toUInt32.toUInt16.toUInt32.toInt32)), (.ref b97), (.ref b97)])) rfl (by rw [hml]; rfl) (argsL := [(.int ((p4 &&& (255 : Int32)).toUInt32.toUInt16.toUInt32.toInt32))]) (rest := [(.ref b97), (.ref b97)]) (lenOf own_pd9 rfl) rfl (by show 2 * 0 + _ ≤ _; exact Nat.le_of_eq rfl) (hb hby at_68) (fun _ _ => ⟨rfl, e97, (by decide : 5 + 2 ≤ _), (by decide : 10 + 5 ≤ _)⟩)
      dsimp only [Pt.U, Pt.locs, Pt.cells, Pt.slots] at X98 l98 y98 z98 st98 hQ98
      subst l98 y98 z98
      obtain ⟨t98, rfl, N98q, K98⟩ := hQ98
      have N98 := Fr.app N96 N98q
      have Z0_98 : n0 ≤ T98.heap.size := Nat.le_trans Z0_97 K98.1
      have F98_b94_value := F97_b94_value.keep K98 nin0
      have F98_b93_rank := F97_b93_rank.keep K98 nin0
      have F98_b97_name := F97_b97_name.keep K98 nin0
      have F98_b97_rank := F97_b97_rank.keep K98 nin0
      have Ex98_b93 := Ex97_b93.keep K98
      have Ex98_b94 := Ex97_b94.keep K98
      have Ex98_b97 := A97.keep K98
      have V98_b91 := V97_b91.keep K98 nin0
      have V98_t95 := V97_t95.keep K98 nin0
      have Od98 := Od97.keep K98 all0
      refine own_st (V := T98.setTop (mkF m 71 #[.val (.int p1), .val (.int p2), .val (.int p3), .val (.int p4), .val (.int (p1 &&& (2147483647 : Int32))), .val (.int (p1 &&& (2147483647 : Int32))), .val (.ref b91), .val (.ref b93), .unset, .unset, .unset, .unset, .unset, .unset] [(.ref t98), (.ref b97), (.ref b97)])) (fun t k => st98 _ k) ?_
      refine own_st (V := T98.setTop (mkF m 73 #[.val (.int p1), .val (.int p2), .val (.int p3), .val (.int p4), .val (.int (p1 &&& (2147483647 : Int32))), .val (.int (p1 &&& (2147483647 : Int32))), .val (.ref b91), .val (.ref b93), .unset, .unset, .unset, .unset, .unset, .unset] [(.int (p1 &&& (2147483647 : Int32))), (.ref t98), (.ref b97), (.ref b97)])) (fun t k => XS.iload X98.here hx rfl (hb hby at_71) rfl k) ?_
      obtain ⟨_, _, ⟨T99, L99, k99, n99⟩, -, X99, ⟨Lc99, hQ99, l99, y99, z99⟩, st99⟩ := X98.specialBack hx (y := (⟨"com/example/trust_grade/trustgrade/network/Level", "<init>", "(Ljava/lang/String;I)V"⟩ : MethodName)) rfl hown (mvT hZ (hw _ (List.mem_of_getElem? (i := 34) rfl))) (mvT hZ (hw _ (List.mem_of_getElem? (i := 35) rfl))) (mvT hZ (hw _ (List.mem_of_getElem? (i := 36) rfl))) (by decide) (backOf (W := 1) (own_li l Z a0 hw [] b97 t98 (p1 &&& (2147483647 : Int32)) T98.heap n0 Z0_98 F98_b97_name F98_b97_rank Ex98_b97 gb_b97) hZ (hw _ (List.mem_of_getElem? (i := 36) rfl)) (hw _ (List.mem_of_getElem? (i := 4) rfl)) (by decide) (by decide)) (g := (mkF m 73 #[.val (.int p1), .val (.int p2), .val (.int p3), .val (.int p4), .val (.int (p1 &&& (2147483647 : Int32))), .val (.int (p1 &&& (2147483647 : Int32))), .val (.ref b91), .val (.ref b93), .unset, .unset, .unset, .unset, .unset, .unset] [(.int (p1 &&& (2147483647 : Int32))), (.ref t98), (.ref b97), (.ref b97)])) rfl (by rw [hml]; rfl) (Steps.refl _) (a := b97) (argsL := [(.ref t98), (.int (p1 &&& (2147483647 : Int32)))]) (rest := [(.ref b97)]) (lenOf own_pd8 rfl) rfl (by show 2 * 0 + _ ≤ _; exact Nat.le_of_eq rfl) (hb hby at_73) (fun _ _ => ⟨rfl, rfl, (by decide : 7 + 0 ≤ _), (by decide : 15 + 0 ≤ _)⟩)
      dsimp only [Pt.U, Pt.locs, Pt.cells, Pt.slots] at X99 l99 y99 z99 st99 hQ99
      subst l99 y99 z99
      obtain ⟨rfl, N99q, K99, Ex99_q, Fq99_0⟩ := hQ99
      have N99 := Fr.app N98 N99q
      have Z0_99 : n0 ≤ T99.heap.size := Nat.le_trans Z0_98 K99.1
      have F99_b94_value := F98_b94_value.keep K99 (ninS ne_b94_b97 nin0)
      have F99_b93_rank := F98_b93_rank.keep K99 (ninS ne_b93_b97 nin0)
      have Ex99_b93 := Ex98_b93.keep K99
      have Ex99_b94 := Ex98_b94.keep K99
      have Ex99_b97 := Ex98_b97.keep K99
      have V99_b91 := V98_b91.keep K99 (ninS ne_b91_b97 nin0)
      have V99_t95 := V98_t95.keep K99 (ninS ne_t95_b97 nin0)
      have Od99 := Od98.keep K99 (allS gb_b97 all0)
      refine own_st (V := T99.setTop (mkF m 76 #[.val (.int p1), .val (.int p2), .val (.int p3), .val (.int p4), .val (.int (p1 &&& (2147483647 : Int32))), .val (.int (p1 &&& (2147483647 : Int32))), .val (.ref b91), .val (.ref b93), .unset, .unset, .unset, .unset, .unset, .unset] [(.ref b97)])) (fun t k => st99.trans k) ?_
      refine own_st (V := T99.setTop (mkF m 78 #[.val (.int p1), .val (.int p2), .val (.int p3), .val (.int p4), .val (.int (p1 &&& (2147483647 : Int32))), .val (.int (p1 &&& (2147483647 : Int32))), .val (.ref b91), .val (.ref b93), .val (.ref b97), .unset, .unset, .unset, .unset, .unset] [])) (fun t k => XS.astore X99.here hx rfl (hb hby at_76) rfl rfl (l' := #[.val (.int p1), .val (.int p2), .val (.int p3), .val (.int p4), .val (.int (p1 &&& (2147483647 : Int32))), .val (.int (p1 &&& (2147483647 : Int32))), .val (.ref b91), .val (.ref b93), .val (.ref b97), .unset, .unset, .unset, .unset, .unset]) rfl k) ?_
      refine own_st (V := T99.setTop (mkF m 80 #[.val (.int p1), .val (.int p2), .val (.int p3), .val (.int p4), .val (.int (p1 &&& (2147483647 : Int32))), .val (.int (p1 &&& (2147483647 : Int32))), .val (.ref b91), .val (.ref b93), .val (.ref b97), .unset, .unset, .unset, .unset, .unset] [(.int (p1 &&& (2147483647 : Int32)))])) (fun t k => XS.iload X99.here hx rfl (hb hby at_78) rfl k) ?_
      refine own_st (V := T99.setTop (mkF m 81 #[.val (.int p1), .val (.int p2), .val (.int p3), .val (.int p4), .val (.int (p1 &&& (2147483647 : Int32))), .val (.int (p1 &&& (2147483647 : Int32))), .val (.ref b91), .val (.ref b93), .val (.ref b97), .unset, .unset, .unset, .unset, .unset] [(.long ((p1 &&& (2147483647 : Int32)).toInt64))])) (fun t k => XS.i2l X99.here hx rfl (hb hby at_80) rfl k) ?_
      refine own_st (V := T99.setTop (mkF m 83 #[.val (.int p1), .val (.int p2), .val (.int p3), .val (.int p4), .val (.int (p1 &&& (2147483647 : Int32))), .val (.int (p1 &&& (2147483647 : Int32))), .val (.ref b91), .val (.ref b93), .val (.ref b97), .unset, .unset, .unset, .unset, .unset] [(.int (p1 &&& (2147483647 : Int32))), (.long ((p1 &&& (2147483647 : Int32)).toInt64))])) (fun t k => XS.iload X99.here hx rfl (hb hby at_81) rfl k) ?_
      refine own_st (V := T99.setTop (mkF m 84 #[.val (.int p1), .val (.int p2), .val (.int p3), .val (.int p4), .val (.int (p1 &&& (2147483647 : Int32))), .val (.int (p1 &&& (2147483647 : Int32))), .val (.ref b91), .val (.ref b93), .val (.ref b97), .unset, .unset, .unset, .unset, .unset] [(.long ((p1 &&& (2147483647 : Int32)).toInt64)), (.long ((p1 &&& (2147483647 : Int32)).toInt64))])) (fun t k => XS.i2l X99.here hx rfl (hb hby at_83) rfl k) ?_
      refine own_st (V := T99.setTop (mkF m 85 #[.val (.int p1), .val (.int p2), .val (.int p3), .val (.int p4), .val (.int (p1 &&& (2147483647 : Int32))), .val (.int (p1 &&& (2147483647 : Int32))), .val (.ref b91), .val (.ref b93), .val (.ref b97), .unset, .unset, .unset, .unset, .unset] [(.long (((p1 &&& (2147483647 : Int32)).toInt64) - ((p1 &&& (2147483647 : Int32)).toInt64)))])) (fun t k => XS.lsub X99.here hx rfl (hb hby at_84) rfl k) ?_
      refine own_st (V := T99.setTop (mkF m 87 #[.val (.int p1), .val (.int p2), .val (.int p3), .val (.int p4), .val (.int (p1 &&& (2147483647 : Int32))), .val (.int (p1 &&& (2147483647 : Int32))), .val (.ref b91), .val (.ref b93), .val (.ref b97), .val (.long (((p1 &&& (2147483647 : Int32)).toInt64) - ((p1 &&& (2147483647 : Int32)).toInt64))), .second, .unset, .unset, .unset] [])) (fun t k => XS.lstore X99.here hx rfl (hb hby at_85) rfl (l' := #[.val (.int p1), .val (.int p2), .val (.int p3), .val (.int p4), .val (.int (p1 &&& (2147483647 : Int32))), .val (.int (p1 &&& (2147483647 : Int32))), .val (.ref b91), .val (.ref b93), .val (.ref b97), .val (.long (((p1 &&& (2147483647 : Int32)).toInt64) - ((p1 &&& (2147483647 : Int32)).toInt64))), .second, .unset, .unset, .unset]) rfl k) ?_
      refine own_st (V := T99.setTop (mkF m 89 #[.val (.int p1), .val (.int p2), .val (.int p3), .val (.int p4), .val (.int (p1 &&& (2147483647 : Int32))), .val (.int (p1 &&& (2147483647 : Int32))), .val (.ref b91), .val (.ref b93), .val (.ref b97), .val (.long (((p1 &&& (2147483647 : Int32)).toInt64) - ((p1 &&& (2147483647 : Int32)).toInt64))), .second, .unset, .unset, .unset] [(.ref b93)])) (fun t k => XS.aload X99.here hx rfl (hb hby at_87) rfl rfl k) ?_
      refine own_st (V := T99.setTop (mkF m 91 #[.val (.int p1), .val (.int p2), .val (.int p3), .val (.int p4), .val (.int (p1 &&& (2147483647 : Int32))), .val (.int (p1 &&& (2147483647 : Int32))), .val (.ref b91), .val (.ref b93), .val (.ref b97), .val (.long (((p1 &&& (2147483647 : Int32)).toInt64) - ((p1 &&& (2147483647 : Int32)).toInt64))), .second, .unset, .unset, .unset] [(.ref b97), (.ref b93)])) (fun t k => XS.aload X99.here hx rfl (hb hby at_89) rfl rfl k) ?_
      obtain ⟨cq100, kq100, q100a, q100b, q100c⟩ := isOf hZ rfl Ex99_b93
      obtain ⟨_, _, ⟨T100, L100, k100, n100⟩, -, X100, ⟨Lc100, hQ100, l100, y100, z100⟩, st100⟩ := X99.virtualBack hx (y := (⟨"com/example/trust_grade/trustgrade/network/Level", "isAbove", "(Lcom/example/trust_grade/trustgrade/network/Level;)Z"⟩ : MethodName)) (z := (⟨"com/example/trust_grade/trustgrade/network/Level", "isAbove", "(Lcom/example/trust_grade/trustgrade/network/Level;)Z"⟩ : MethodName)) hown (mvT hZ (hw _ (List.mem_of_getElem? (i := 56) rfl))) (mvT hZ (hw _ (List.mem_of_getElem? (i := 57) rfl))) (notFace_of_selects (args := #[]) (mvT hZ (hw _ (List.mem_of_getElem? (i := 59) rfl)))) (mvT hZ (hw _ (List.mem_of_getElem? (i := 59) rfl))) (mvT hZ (hw _ (List.mem_of_getElem? (i := 58) rfl))) (by decide) (backOf (W := 0) (own_ab0 l Z a0 hw [] b93 b97 (p1 &&& (2147483647 : Int32)) (p1 &&& (2147483647 : Int32)) T99.heap n0 Z0_99 F99_b93_rank Fq99_0 hg) hZ (hw _ (List.mem_of_getElem? (i := 60) rfl)) (hw _ (List.mem_of_getElem? (i := 4) rfl)) (by decide) (by decide)) q100a q100c (g := (mkF m 91 #[.val (.int p1), .val (.int p2), .val (.int p3), .val (.int p4), .val (.int (p1 &&& (2147483647 : Int32))), .val (.int (p1 &&& (2147483647 : Int32))), .val (.ref b91), .val (.ref b93), .val (.ref b97), .val (.long (((p1 &&& (2147483647 : Int32)).toInt64) - ((p1 &&& (2147483647 : Int32)).toInt64))), .second, .unset, .unset, .unset] [(.ref b97), (.ref b93)])) rfl (by rw [hml]; rfl) (Steps.refl _) (argsL := [(.ref b97)]) (rest := []) (lenOf own_pd10 rfl) rfl (by show 2 * 0 + _ ≤ _; exact Nat.le_of_eq rfl) (hb hby at_91) (fun _ _ => ⟨rfl, rfl, (by decide : 7 + 0 ≤ _), (by decide : 15 + 0 ≤ _)⟩)
      dsimp only [Pt.U, Pt.locs, Pt.cells, Pt.slots] at X100 l100 y100 z100 st100 hQ100
      subst l100 y100 z100
      obtain ⟨rfl, N100q, e100⟩ := hQ100
      have N100 := Fr.app N99 N100q
      refine own_st (V := T100.setTop (mkF m 94 #[.val (.int p1), .val (.int p2), .val (.int p3), .val (.int p4), .val (.int (p1 &&& (2147483647 : Int32))), .val (.int (p1 &&& (2147483647 : Int32))), .val (.ref b91), .val (.ref b93), .val (.ref b97), .val (.long (((p1 &&& (2147483647 : Int32)).toInt64) - ((p1 &&& (2147483647 : Int32)).toInt64))), .second, .unset, .unset, .unset] [(.int (0 : Int32))])) (fun t k => st100.trans k) ?_
      refine own_st (V := T100.setTop (mkF m 96 #[.val (.int p1), .val (.int p2), .val (.int p3), .val (.int p4), .val (.int (p1 &&& (2147483647 : Int32))), .val (.int (p1 &&& (2147483647 : Int32))), .val (.ref b91), .val (.ref b93), .val (.ref b97), .val (.long (((p1 &&& (2147483647 : Int32)).toInt64) - ((p1 &&& (2147483647 : Int32)).toInt64))), .second, .val (.int (0 : Int32)), .unset, .unset] [])) (fun t k => XS.istore X100.here hx rfl (hb hby at_94) rfl (l' := #[.val (.int p1), .val (.int p2), .val (.int p3), .val (.int p4), .val (.int (p1 &&& (2147483647 : Int32))), .val (.int (p1 &&& (2147483647 : Int32))), .val (.ref b91), .val (.ref b93), .val (.ref b97), .val (.long (((p1 &&& (2147483647 : Int32)).toInt64) - ((p1 &&& (2147483647 : Int32)).toInt64))), .second, .val (.int (0 : Int32)), .unset, .unset]) rfl k) ?_
      refine own_st (V := T100.setTop (mkF m 98 #[.val (.int p1), .val (.int p2), .val (.int p3), .val (.int p4), .val (.int (p1 &&& (2147483647 : Int32))), .val (.int (p1 &&& (2147483647 : Int32))), .val (.ref b91), .val (.ref b93), .val (.ref b97), .val (.long (((p1 &&& (2147483647 : Int32)).toInt64) - ((p1 &&& (2147483647 : Int32)).toInt64))), .second, .val (.int (0 : Int32)), .unset, .unset] [(.ref b97)])) (fun t k => XS.aload X100.here hx rfl (hb hby at_96) rfl rfl k) ?_
      refine own_st (V := T100.setTop (mkF m 100 #[.val (.int p1), .val (.int p2), .val (.int p3), .val (.int p4), .val (.int (p1 &&& (2147483647 : Int32))), .val (.int (p1 &&& (2147483647 : Int32))), .val (.ref b91), .val (.ref b93), .val (.ref b97), .val (.long (((p1 &&& (2147483647 : Int32)).toInt64) - ((p1 &&& (2147483647 : Int32)).toInt64))), .second, .val (.int (0 : Int32)), .unset, .unset] [(.ref b93), (.ref b97)])) (fun t k => XS.aload X100.here hx rfl (hb hby at_98) rfl rfl k) ?_
      obtain ⟨cq101, kq101, q101a, q101b, q101c⟩ := isOf hZ e100 Ex99_q
      obtain ⟨_, _, ⟨T101, L101, k101, n101⟩, -, X101, ⟨Lc101, hQ101, l101, y101, z101⟩, st101⟩ := X100.virtualBack hx (y := (⟨"com/example/trust_grade/trustgrade/network/Level", "isAbove", "(Lcom/example/trust_grade/trustgrade/network/Level;)Z"⟩ : MethodName)) (z := (⟨"com/example/trust_grade/trustgrade/network/Level", "isAbove", "(Lcom/example/trust_grade/trustgrade/network/Level;)Z"⟩ : MethodName)) hown (mvT hZ (hw _ (List.mem_of_getElem? (i := 56) rfl))) (mvT hZ (hw _ (List.mem_of_getElem? (i := 57) rfl))) (notFace_of_selects (args := #[]) (mvT hZ (hw _ (List.mem_of_getElem? (i := 59) rfl)))) (mvT hZ (hw _ (List.mem_of_getElem? (i := 59) rfl))) (mvT hZ (hw _ (List.mem_of_getElem? (i := 58) rfl))) (by decide) (backOf (W := 0) (own_ab0 l Z a0 hw [] b97 b93 (p1 &&& (2147483647 : Int32)) (p1 &&& (2147483647 : Int32)) T99.heap n0 Z0_99 Fq99_0 F99_b93_rank hl) hZ (hw _ (List.mem_of_getElem? (i := 60) rfl)) (hw _ (List.mem_of_getElem? (i := 4) rfl)) (by decide) (by decide)) q101a q101c (g := (mkF m 100 #[.val (.int p1), .val (.int p2), .val (.int p3), .val (.int p4), .val (.int (p1 &&& (2147483647 : Int32))), .val (.int (p1 &&& (2147483647 : Int32))), .val (.ref b91), .val (.ref b93), .val (.ref b97), .val (.long (((p1 &&& (2147483647 : Int32)).toInt64) - ((p1 &&& (2147483647 : Int32)).toInt64))), .second, .val (.int (0 : Int32)), .unset, .unset] [(.ref b93), (.ref b97)])) rfl (by rw [hml]; rfl) (Steps.refl _) (argsL := [(.ref b93)]) (rest := []) (lenOf own_pd10 rfl) rfl (by show 2 * 0 + _ ≤ _; exact Nat.le_of_eq rfl) (hb hby at_100) (fun _ _ => ⟨rfl, e100, (by decide : 7 + 0 ≤ _), (by decide : 15 + 0 ≤ _)⟩)
      dsimp only [Pt.U, Pt.locs, Pt.cells, Pt.slots] at X101 l101 y101 z101 st101 hQ101
      subst l101 y101 z101
      obtain ⟨rfl, N101q, e101⟩ := hQ101
      have N101 := Fr.app N100 N101q
      refine own_st (V := T101.setTop (mkF m 103 #[.val (.int p1), .val (.int p2), .val (.int p3), .val (.int p4), .val (.int (p1 &&& (2147483647 : Int32))), .val (.int (p1 &&& (2147483647 : Int32))), .val (.ref b91), .val (.ref b93), .val (.ref b97), .val (.long (((p1 &&& (2147483647 : Int32)).toInt64) - ((p1 &&& (2147483647 : Int32)).toInt64))), .second, .val (.int (0 : Int32)), .unset, .unset] [(.int (0 : Int32))])) (fun t k => st101.trans k) ?_
      refine own_st (V := T101.setTop (mkF m 105 #[.val (.int p1), .val (.int p2), .val (.int p3), .val (.int p4), .val (.int (p1 &&& (2147483647 : Int32))), .val (.int (p1 &&& (2147483647 : Int32))), .val (.ref b91), .val (.ref b93), .val (.ref b97), .val (.long (((p1 &&& (2147483647 : Int32)).toInt64) - ((p1 &&& (2147483647 : Int32)).toInt64))), .second, .val (.int (0 : Int32)), .val (.int (0 : Int32)), .unset] [])) (fun t k => XS.istore X101.here hx rfl (hb hby at_103) rfl (l' := #[.val (.int p1), .val (.int p2), .val (.int p3), .val (.int p4), .val (.int (p1 &&& (2147483647 : Int32))), .val (.int (p1 &&& (2147483647 : Int32))), .val (.ref b91), .val (.ref b93), .val (.ref b97), .val (.long (((p1 &&& (2147483647 : Int32)).toInt64) - ((p1 &&& (2147483647 : Int32)).toInt64))), .second, .val (.int (0 : Int32)), .val (.int (0 : Int32)), .unset]) rfl k) ?_
      refine own_st (V := T101.setTop (mkF m 107 #[.val (.int p1), .val (.int p2), .val (.int p3), .val (.int p4), .val (.int (p1 &&& (2147483647 : Int32))), .val (.int (p1 &&& (2147483647 : Int32))), .val (.ref b91), .val (.ref b93), .val (.ref b97), .val (.long (((p1 &&& (2147483647 : Int32)).toInt64) - ((p1 &&& (2147483647 : Int32)).toInt64))), .second, .val (.int (0 : Int32)), .val (.int (0 : Int32)), .unset] [(.ref b93)])) (fun t k => XS.aload X101.here hx rfl (hb hby at_105) rfl rfl k) ?_
      refine own_st (V := T101.setTop (mkF m 109 #[.val (.int p1), .val (.int p2), .val (.int p3), .val (.int p4), .val (.int (p1 &&& (2147483647 : Int32))), .val (.int (p1 &&& (2147483647 : Int32))), .val (.ref b91), .val (.ref b93), .val (.ref b97), .val (.long (((p1 &&& (2147483647 : Int32)).toInt64) - ((p1 &&& (2147483647 : Int32)).toInt64))), .second, .val (.int (0 : Int32)), .val (.int (0 : Int32)), .unset] [(.ref b93), (.ref b93)])) (fun t k => XS.aload X101.here hx rfl (hb hby at_107) rfl rfl k) ?_
      obtain ⟨cq102, kq102, q102a, q102b, q102c⟩ := isOf hZ e101 Ex99_b93
      obtain ⟨_, _, ⟨T102, L102, k102, n102⟩, -, X102, ⟨Lc102, hQ102, l102, y102, z102⟩, st102⟩ := X101.virtualBack hx (y := (⟨"com/example/trust_grade/trustgrade/network/Level", "isAbove", "(Lcom/example/trust_grade/trustgrade/network/Level;)Z"⟩ : MethodName)) (z := (⟨"com/example/trust_grade/trustgrade/network/Level", "isAbove", "(Lcom/example/trust_grade/trustgrade/network/Level;)Z"⟩ : MethodName)) hown (mvT hZ (hw _ (List.mem_of_getElem? (i := 56) rfl))) (mvT hZ (hw _ (List.mem_of_getElem? (i := 57) rfl))) (notFace_of_selects (args := #[]) (mvT hZ (hw _ (List.mem_of_getElem? (i := 59) rfl)))) (mvT hZ (hw _ (List.mem_of_getElem? (i := 59) rfl))) (mvT hZ (hw _ (List.mem_of_getElem? (i := 58) rfl))) (by decide) (backOf (W := 0) (own_ab0 l Z a0 hw [] b93 b93 (p1 &&& (2147483647 : Int32)) (p1 &&& (2147483647 : Int32)) T99.heap n0 Z0_99 F99_b93_rank F99_b93_rank (own_irr _)) hZ (hw _ (List.mem_of_getElem? (i := 60) rfl)) (hw _ (List.mem_of_getElem? (i := 4) rfl)) (by decide) (by decide)) q102a q102c (g := (mkF m 109 #[.val (.int p1), .val (.int p2), .val (.int p3), .val (.int p4), .val (.int (p1 &&& (2147483647 : Int32))), .val (.int (p1 &&& (2147483647 : Int32))), .val (.ref b91), .val (.ref b93), .val (.ref b97), .val (.long (((p1 &&& (2147483647 : Int32)).toInt64) - ((p1 &&& (2147483647 : Int32)).toInt64))), .second, .val (.int (0 : Int32)), .val (.int (0 : Int32)), .unset] [(.ref b93), (.ref b93)])) rfl (by rw [hml]; rfl) (Steps.refl _) (argsL := [(.ref b93)]) (rest := []) (lenOf own_pd10 rfl) rfl (by show 2 * 0 + _ ≤ _; exact Nat.le_of_eq rfl) (hb hby at_109) (fun _ _ => ⟨rfl, e101, (by decide : 7 + 0 ≤ _), (by decide : 15 + 0 ≤ _)⟩)
      dsimp only [Pt.U, Pt.locs, Pt.cells, Pt.slots] at X102 l102 y102 z102 st102 hQ102
      subst l102 y102 z102
      obtain ⟨rfl, N102q, e102⟩ := hQ102
      have N102 := Fr.app N101 N102q
      refine own_st (V := T102.setTop (mkF m 112 #[.val (.int p1), .val (.int p2), .val (.int p3), .val (.int p4), .val (.int (p1 &&& (2147483647 : Int32))), .val (.int (p1 &&& (2147483647 : Int32))), .val (.ref b91), .val (.ref b93), .val (.ref b97), .val (.long (((p1 &&& (2147483647 : Int32)).toInt64) - ((p1 &&& (2147483647 : Int32)).toInt64))), .second, .val (.int (0 : Int32)), .val (.int (0 : Int32)), .unset] [(.int (0 : Int32))])) (fun t k => st102.trans k) ?_
      refine own_st (V := T102.setTop (mkF m 114 #[.val (.int p1), .val (.int p2), .val (.int p3), .val (.int p4), .val (.int (p1 &&& (2147483647 : Int32))), .val (.int (p1 &&& (2147483647 : Int32))), .val (.ref b91), .val (.ref b93), .val (.ref b97), .val (.long (((p1 &&& (2147483647 : Int32)).toInt64) - ((p1 &&& (2147483647 : Int32)).toInt64))), .second, .val (.int (0 : Int32)), .val (.int (0 : Int32)), .val (.int (0 : Int32))] [])) (fun t k => XS.istore X102.here hx rfl (hb hby at_112) rfl (l' := #[.val (.int p1), .val (.int p2), .val (.int p3), .val (.int p4), .val (.int (p1 &&& (2147483647 : Int32))), .val (.int (p1 &&& (2147483647 : Int32))), .val (.ref b91), .val (.ref b93), .val (.ref b97), .val (.long (((p1 &&& (2147483647 : Int32)).toInt64) - ((p1 &&& (2147483647 : Int32)).toInt64))), .second, .val (.int (0 : Int32)), .val (.int (0 : Int32)), .val (.int (0 : Int32))]) rfl k) ?_
      refine own_st (V := T102.setTop (mkF m 116 #[.val (.int p1), .val (.int p2), .val (.int p3), .val (.int p4), .val (.int (p1 &&& (2147483647 : Int32))), .val (.int (p1 &&& (2147483647 : Int32))), .val (.ref b91), .val (.ref b93), .val (.ref b97), .val (.long (((p1 &&& (2147483647 : Int32)).toInt64) - ((p1 &&& (2147483647 : Int32)).toInt64))), .second, .val (.int (0 : Int32)), .val (.int (0 : Int32)), .val (.int (0 : Int32))] [(.int (0 : Int32))])) (fun t k => XS.iload X102.here hx rfl (hb hby at_114) rfl k) ?_
      refine own_st (V := T102.setTop (mkF m 118 #[.val (.int p1), .val (.int p2), .val (.int p3), .val (.int p4), .val (.int (p1 &&& (2147483647 : Int32))), .val (.int (p1 &&& (2147483647 : Int32))), .val (.ref b91), .val (.ref b93), .val (.ref b97), .val (.long (((p1 &&& (2147483647 : Int32)).toInt64) - ((p1 &&& (2147483647 : Int32)).toInt64))), .second, .val (.int (0 : Int32)), .val (.int (0 : Int32)), .val (.int (0 : Int32))] [(.long (((p1 &&& (2147483647 : Int32)).toInt64) - ((p1 &&& (2147483647 : Int32)).toInt64))), (.int (0 : Int32))])) (fun t k => XS.lload X102.here hx rfl (hb hby at_116) rfl k) ?_
      refine own_st (V := T102.setTop (mkF m 119 #[.val (.int p1), .val (.int p2), .val (.int p3), .val (.int p4), .val (.int (p1 &&& (2147483647 : Int32))), .val (.int (p1 &&& (2147483647 : Int32))), .val (.ref b91), .val (.ref b93), .val (.ref b97), .val (.long (((p1 &&& (2147483647 : Int32)).toInt64) - ((p1 &&& (2147483647 : Int32)).toInt64))), .second, .val (.int (0 : Int32)), .val (.int (0 : Int32)), .val (.int (0 : Int32))] [(.long (0 : Int64)), (.long (((p1 &&& (2147483647 : Int32)).toInt64) - ((p1 &&& (2147483647 : Int32)).toInt64))), (.int (0 : Int32))])) (fun t k => XS.lconst X102.here hx rfl (hb hby at_118) k) ?_
      refine own_st (V := T102.setTop (mkF m 120 #[.val (.int p1), .val (.int p2), .val (.int p3), .val (.int p4), .val (.int (p1 &&& (2147483647 : Int32))), .val (.int (p1 &&& (2147483647 : Int32))), .val (.ref b91), .val (.ref b93), .val (.ref b97), .val (.long (((p1 &&& (2147483647 : Int32)).toInt64) - ((p1 &&& (2147483647 : Int32)).toInt64))), .second, .val (.int (0 : Int32)), .val (.int (0 : Int32)), .val (.int (0 : Int32))] [(.int (lcmpW (((p1 &&& (2147483647 : Int32)).toInt64) - ((p1 &&& (2147483647 : Int32)).toInt64)) (0 : Int64))), (.int (0 : Int32))])) (fun t k => XS.lcmp X102.here hx rfl (hb hby at_119) rfl k) ?_
      refine own_st (V := T102.setTop (mkF m 127 #[.val (.int p1), .val (.int p2), .val (.int p3), .val (.int p4), .val (.int (p1 &&& (2147483647 : Int32))), .val (.int (p1 &&& (2147483647 : Int32))), .val (.ref b91), .val (.ref b93), .val (.ref b97), .val (.long (((p1 &&& (2147483647 : Int32)).toInt64) - ((p1 &&& (2147483647 : Int32)).toInt64))), .second, .val (.int (0 : Int32)), .val (.int (0 : Int32)), .val (.int (0 : Int32))] [(.int (0 : Int32))])) (fun t k => XS.ifYes X102.here hx rfl (pc0 := 120) (pc' := 127) rfl (hb hby at_120) rfl ((if0 _ _).trans (flt (own_lgn hg)).2.2.2) (by decide) (by decide) k) ?_
      refine own_st (V := T102.setTop (mkF m 128 #[.val (.int p1), .val (.int p2), .val (.int p3), .val (.int p4), .val (.int (p1 &&& (2147483647 : Int32))), .val (.int (p1 &&& (2147483647 : Int32))), .val (.ref b91), .val (.ref b93), .val (.ref b97), .val (.long (((p1 &&& (2147483647 : Int32)).toInt64) - ((p1 &&& (2147483647 : Int32)).toInt64))), .second, .val (.int (0 : Int32)), .val (.int (0 : Int32)), .val (.int (0 : Int32))] [(.int (0 : Int32)), (.int (0 : Int32))])) (fun t k => XS.iconst X102.here hx rfl (hb hby at_127) k) ?_
      refine own_st (V := T102.setTop (mkF m 131 #[.val (.int p1), .val (.int p2), .val (.int p3), .val (.int p4), .val (.int (p1 &&& (2147483647 : Int32))), .val (.int (p1 &&& (2147483647 : Int32))), .val (.ref b91), .val (.ref b93), .val (.ref b97), .val (.long (((p1 &&& (2147483647 : Int32)).toInt64) - ((p1 &&& (2147483647 : Int32)).toInt64))), .second, .val (.int (0 : Int32)), .val (.int (0 : Int32)), .val (.int (0 : Int32))] [])) (fun t k => XS.icmpNo X102.here hx rfl (hb hby at_128) rfl (teq (by decide : (0 : Int32) = (0 : Int32))).2 k) ?_
      refine own_st (V := T102.setTop (mkF m 133 #[.val (.int p1), .val (.int p2), .val (.int p3), .val (.int p4), .val (.int (p1 &&& (2147483647 : Int32))), .val (.int (p1 &&& (2147483647 : Int32))), .val (.ref b91), .val (.ref b93), .val (.ref b97), .val (.long (((p1 &&& (2147483647 : Int32)).toInt64) - ((p1 &&& (2147483647 : Int32)).toInt64))), .second, .val (.int (0 : Int32)), .val (.int (0 : Int32)), .val (.int (0 : Int32))] [(.int (0 : Int32))])) (fun t k => XS.iload X102.here hx rfl (hb hby at_131) rfl k) ?_
      refine own_st (V := T102.setTop (mkF m 135 #[.val (.int p1), .val (.int p2), .val (.int p3), .val (.int p4), .val (.int (p1 &&& (2147483647 : Int32))), .val (.int (p1 &&& (2147483647 : Int32))), .val (.ref b91), .val (.ref b93), .val (.ref b97), .val (.long (((p1 &&& (2147483647 : Int32)).toInt64) - ((p1 &&& (2147483647 : Int32)).toInt64))), .second, .val (.int (0 : Int32)), .val (.int (0 : Int32)), .val (.int (0 : Int32))] [(.long (((p1 &&& (2147483647 : Int32)).toInt64) - ((p1 &&& (2147483647 : Int32)).toInt64))), (.int (0 : Int32))])) (fun t k => XS.lload X102.here hx rfl (hb hby at_133) rfl k) ?_
      refine own_st (V := T102.setTop (mkF m 136 #[.val (.int p1), .val (.int p2), .val (.int p3), .val (.int p4), .val (.int (p1 &&& (2147483647 : Int32))), .val (.int (p1 &&& (2147483647 : Int32))), .val (.ref b91), .val (.ref b93), .val (.ref b97), .val (.long (((p1 &&& (2147483647 : Int32)).toInt64) - ((p1 &&& (2147483647 : Int32)).toInt64))), .second, .val (.int (0 : Int32)), .val (.int (0 : Int32)), .val (.int (0 : Int32))] [(.long (0 : Int64)), (.long (((p1 &&& (2147483647 : Int32)).toInt64) - ((p1 &&& (2147483647 : Int32)).toInt64))), (.int (0 : Int32))])) (fun t k => XS.lconst X102.here hx rfl (hb hby at_135) k) ?_
      refine own_st (V := T102.setTop (mkF m 137 #[.val (.int p1), .val (.int p2), .val (.int p3), .val (.int p4), .val (.int (p1 &&& (2147483647 : Int32))), .val (.int (p1 &&& (2147483647 : Int32))), .val (.ref b91), .val (.ref b93), .val (.ref b97), .val (.long (((p1 &&& (2147483647 : Int32)).toInt64) - ((p1 &&& (2147483647 : Int32)).toInt64))), .second, .val (.int (0 : Int32)), .val (.int (0 : Int32)), .val (.int (0 : Int32))] [(.int (lcmpW (((p1 &&& (2147483647 : Int32)).toInt64) - ((p1 &&& (2147483647 : Int32)).toInt64)) (0 : Int64))), (.int (0 : Int32))])) (fun t k => XS.lcmp X102.here hx rfl (hb hby at_136) rfl k) ?_
      refine own_st (V := T102.setTop (mkF m 144 #[.val (.int p1), .val (.int p2), .val (.int p3), .val (.int p4), .val (.int (p1 &&& (2147483647 : Int32))), .val (.int (p1 &&& (2147483647 : Int32))), .val (.ref b91), .val (.ref b93), .val (.ref b97), .val (.long (((p1 &&& (2147483647 : Int32)).toInt64) - ((p1 &&& (2147483647 : Int32)).toInt64))), .second, .val (.int (0 : Int32)), .val (.int (0 : Int32)), .val (.int (0 : Int32))] [(.int (0 : Int32))])) (fun t k => XS.ifYes X102.here hx rfl (pc0 := 137) (pc' := 144) rfl (hb hby at_137) rfl ((if0 _ _).trans (flt (own_lln hl)).2.1) (by decide) (by decide) k) ?_
      refine own_st (V := T102.setTop (mkF m 145 #[.val (.int p1), .val (.int p2), .val (.int p3), .val (.int p4), .val (.int (p1 &&& (2147483647 : Int32))), .val (.int (p1 &&& (2147483647 : Int32))), .val (.ref b91), .val (.ref b93), .val (.ref b97), .val (.long (((p1 &&& (2147483647 : Int32)).toInt64) - ((p1 &&& (2147483647 : Int32)).toInt64))), .second, .val (.int (0 : Int32)), .val (.int (0 : Int32)), .val (.int (0 : Int32))] [(.int (0 : Int32)), (.int (0 : Int32))])) (fun t k => XS.iconst X102.here hx rfl (hb hby at_144) k) ?_
      refine own_st (V := T102.setTop (mkF m 148 #[.val (.int p1), .val (.int p2), .val (.int p3), .val (.int p4), .val (.int (p1 &&& (2147483647 : Int32))), .val (.int (p1 &&& (2147483647 : Int32))), .val (.ref b91), .val (.ref b93), .val (.ref b97), .val (.long (((p1 &&& (2147483647 : Int32)).toInt64) - ((p1 &&& (2147483647 : Int32)).toInt64))), .second, .val (.int (0 : Int32)), .val (.int (0 : Int32)), .val (.int (0 : Int32))] [])) (fun t k => XS.icmpNo X102.here hx rfl (hb hby at_145) rfl (teq (by decide : (0 : Int32) = (0 : Int32))).2 k) ?_
      refine own_st (V := T102.setTop (mkF m 150 #[.val (.int p1), .val (.int p2), .val (.int p3), .val (.int p4), .val (.int (p1 &&& (2147483647 : Int32))), .val (.int (p1 &&& (2147483647 : Int32))), .val (.ref b91), .val (.ref b93), .val (.ref b97), .val (.long (((p1 &&& (2147483647 : Int32)).toInt64) - ((p1 &&& (2147483647 : Int32)).toInt64))), .second, .val (.int (0 : Int32)), .val (.int (0 : Int32)), .val (.int (0 : Int32))] [(.int (0 : Int32))])) (fun t k => XS.iload X102.here hx rfl (hb hby at_148) rfl k) ?_
      refine own_st (V := T102.setTop (mkF m 153 #[.val (.int p1), .val (.int p2), .val (.int p3), .val (.int p4), .val (.int (p1 &&& (2147483647 : Int32))), .val (.int (p1 &&& (2147483647 : Int32))), .val (.ref b91), .val (.ref b93), .val (.ref b97), .val (.long (((p1 &&& (2147483647 : Int32)).toInt64) - ((p1 &&& (2147483647 : Int32)).toInt64))), .second, .val (.int (0 : Int32)), .val (.int (0 : Int32)), .val (.int (0 : Int32))] [])) (fun t k => XS.ifNo X102.here hx rfl (hb hby at_150) rfl ((if0 _ _).trans (teq (by decide : (0 : Int32) = (0 : Int32))).2) k) ?_
      refine own_st (V := T102.setTop (mkF m 154 #[.val (.int p1), .val (.int p2), .val (.int p3), .val (.int p4), .val (.int (p1 &&& (2147483647 : Int32))), .val (.int (p1 &&& (2147483647 : Int32))), .val (.ref b91), .val (.ref b93), .val (.ref b97), .val (.long (((p1 &&& (2147483647 : Int32)).toInt64) - ((p1 &&& (2147483647 : Int32)).toInt64))), .second, .val (.int (0 : Int32)), .val (.int (0 : Int32)), .val (.int (0 : Int32))] [(.int (1 : Int32))])) (fun t k => XS.iconst X102.here hx rfl (hb hby at_153) k) ?_
      refine own_st (V := T102.setTop (mkF m 158 #[.val (.int p1), .val (.int p2), .val (.int p3), .val (.int p4), .val (.int (p1 &&& (2147483647 : Int32))), .val (.int (p1 &&& (2147483647 : Int32))), .val (.ref b91), .val (.ref b93), .val (.ref b97), .val (.long (((p1 &&& (2147483647 : Int32)).toInt64) - ((p1 &&& (2147483647 : Int32)).toInt64))), .second, .val (.int (0 : Int32)), .val (.int (0 : Int32)), .val (.int (0 : Int32))] [(.int (1 : Int32))])) (fun t k => XS.goto X102.here hx rfl (pc0 := 154) (pc' := 158) rfl (hb hby at_154) (by decide) (by decide) k) ?_
      exact own_ret X102 hx hlk Bd.returns (by decide +kernel) (Or.inl ⟨rfl, by simp, _, rfl⟩) (hb hby at_158) (by decide) (by decide) ⟨rfl, N102⟩
theorem own_nz {Z : State} {args : Array Value} {t : Jvm.Term} {x : Int32} (ev : t.eval args Z none [] Z = some (.int x)) (h : (Jvm.Cond.not (.eq t (.int (0 : Int32)))).value args Z none Z [] = some true) : ¬ (x = (0 : Int32)) := by
  have q := not_v h
  intro e
  simp [Cond.value, Term.eval, ev, e] at q
set_option maxRecDepth 65536 in
set_option maxHeartbeats 40000000 in
theorem comes_1 {Post : Tables → Env → Array Value → State → Outcome → State → Prop} (hpost : ∀ tb e args s v u, (limb_1_1.after args s (.returned v) u = true ∧ limb_1_2.after args s (.returned v) u = true ∧ True) → FrameEnd s (.returned v) u (Jvm.fieldLocs frame_1_writes args s ++ Jvm.arrayLocs frame_1_arrays args s ++ Jvm.staticLocs frame_1_statics s) 24 128 → Post tb e args s (.returned v) u) :
    ArmFor flags0 classFile x code maxLocals ret World_1 tables_1 room_1 Calls_1 rest_1 Pre_1 Post := by
  intro l hfl _ _ p e ha hc hk s m args below hf hA hF happ hP
  obtain ⟨hcalls, hrest, hpre⟩ := hP
  obtain ⟨-, -, -, hnamed, -, -, -, hat⟩ := (Spec.applies_iff hf).mp happ
  obtain ⟨hg, hn⟩ := and_e (Cond.before_iff.mp (show (Jvm.Cond.and given_1 narrow_1).before args s = true from hpre))
  obtain ⟨g0, g1⟩ := and_e hg
  obtain ⟨ga0, gr0⟩ := and_e g1
  obtain ⟨ga1, gr1⟩ := and_e gr0
  obtain ⟨ga2, gr2⟩ := and_e gr1
  obtain ⟨w0, w1, w2, w3, rfl⟩ : ∃ w0 w1 w2 w3 : Value, args = #[w0, w1, w2, w3] := by
    have hs : args.size = 4 := by simpa [Cond.value, given_1] using g0
    obtain ⟨L⟩ := args
    match L, hs with
    | [w0, w1, w2, w3], _ => exact ⟨w0, w1, w2, w3, rfl⟩
  have hw := fun d (hd : d ∈ tables_1) => atoms_spec (ws := Jvm.Cond.code x code maxLocals ret :: tables_1) hat d (List.mem_cons_of_mem _ hd)
  have hfit : Fit s := fun {y c} hc i hi => by
    obtain ⟨ha, rfl⟩ := Array.getElem?_eq_some_iff.mp hc
    have q := List.all_eq_true.mp ((Array.all_eq_true_iff_forall_mem.mp hF) _ (Array.getElem_mem ha)) i (List.mem_range.mpr hi)
    simpa [Array.getElem?_eq_getElem hi] using q
  obtain ⟨hsets, hown0⟩ := atoms_of _ (rest_1_c_eq ▸ (show rest_1_c.before _ s = true from hrest))
  obtain ⟨i0, ei0⟩ := is_v ga0
  obtain rfl : w0 = (.int i0) := Option.some.inj ei0
  obtain ⟨i1, ei1⟩ := is_v ga1
  obtain rfl : w1 = (.int i1) := Option.some.inj ei1
  obtain ⟨i2, ei2⟩ := is_v ga2
  obtain rfl : w2 = (.int i2) := Option.some.inj ei2
  obtain ⟨i3, ei3⟩ := is_v gr2
  obtain rfl : w3 = (.int i3) := Option.some.inj ei3
  obtain ⟨cs, ecs⟩ := is_v (Cond.before_iff.mp (hsets _ (List.mem_of_getElem? (i := 1) rfl)))
  have SC := Sta.start ecs (Or.inl (hsets _ (List.mem_of_getElem? (i := 0) rfl)))
  have hcs : ¬ (cs = (0 : Int32)) := own_nz ecs (Cond.before_iff.mp (hsets _ (List.mem_of_getElem? (i := 2) rfl)))
  obtain ⟨n, o, h1, h2, h3, _, L, rfl, ⟨rfl, N⟩, hq⟩ := own_law l s _ hw tables_1 i0 i1 i2 i3 cs s.heap s.heap.size (Nat.le_refl _) (Old.start s) SC hcs p e ha hc hk s m _ below hf ((Spec.applies_iff_loose hf).mp happ).1 ⟨rfl, State.Warmed39.refl s, rfl⟩ trivial
  refine ⟨n, _, h1, h2, h3, hpost _ _ _ _ _ _ ⟨Cond.after_iff.mpr rfl, Cond.after_iff.mpr (eq_i res_at (Term.int_eval (1)) rfl), trivial⟩ ⟨hq.1, hq.2.1, (hq.2.2.sift fun y hy => Or.inr (N y hy)).mono (by decide) (by decide)⟩⟩
theorem main_1_1 : Claimed_1_1 := comes_1 fun _ _ _ _ _ _ h hF => ⟨h.1, hF⟩
theorem main_1_2 : Claimed_1_2 := comes_1 fun _ _ _ _ _ _ h hF => ⟨h.2.1, hF⟩
end Jvm.Pilot.@@N@@
namespace Jvm.Pilot.@@N@@
open Jvm Jvm.ClassFile Sem Op Lib Jvm.Free Jvm.Stand Jvm.Pilot.@@N@@.Jvm.D
/-! MADE BY PROGRAM (witnessworld.py) out of the Statement's table words and the real class files: 20 classes; the members and pool entries that the words name. The judged class is class 1, her method 1. -/
namespace start1
open Jvm.ClassFile
def u (s : String) : CpInfo := .utf8 (stringToUtf16 s)
/-- a pool by its gaps: so many unusable entries, then the entry; so many at the end -/
def gap : Nat → List CpInfo → List CpInfo
  | 0, r => r
  | n + 1, r => .unusable :: gap n r
def poolList (es : List (Nat × CpInfo)) (last : Nat) : List CpInfo := es.foldr (fun e r => gap e.1 (e.2 :: r)) (gap last [])
def pool (es : List (Nat × CpInfo)) (last : Nat) : Array CpInfo := ⟨poolList es last⟩
def fileOf (pool : Array CpInfo) (this : Nat) (attrs : Array Attribute := #[]) (ms : Array MethodInfo := #[]) (fl : Nat := 33) (sup : Nat := 0) (ifs : Array Nat := #[]) (fds : Array FieldInfo := #[]) : ClassFile where
  minorVersion := 0
  majorVersion := 65
  constantPool := pool
  accessFlags := fl
  thisClass := this
  superClass := sup
  interfaces := ifs
  fields := fds
  methods := ms
  attributes := attrs
def plain (name : String) (sup : Option ClassId) : Class where
  name := name
  kind := .ordinary
  loader := none
  accessFlags := 33
  super := sup
  interfaces := #[]
  cf := none
  fields := #[]
  methods := #[]
  instanceTypes := #[]
  staticTypes := #[]
  resolved := #[]
  callSites := []
  init := .initialized
  statics := none
  mirror := none

def pool0 : Array CpInfo := pool [(5, u "<init>"), (0, u "()V"), (1, .class_ 10), (1, u "java/lang/Object")] 113

def k0c0 : Code := { maxStack := 0, maxLocals := 1, code := object_method_1_code, exceptionTable := #[], attributes := #[] }
def k0m0 : Method := { name := "<init>", desc := "()V", sig := { parameters := [], returnType := none }, accessFlags := 1, code := some k0c0 }
/-- java/lang/Object -/
def k0 : Class := { plain "java/lang/Object" none with
  accessFlags := 33
  interfaces := #[]
  cf := some (fileOf pool0 8 #[] #[{ accessFlags := 1, nameIndex := 5, descriptorIndex := 6, attributes := #[] }] 33 0 #[] #[])
  fields := #[]
  methods := #[k0m0]
  instanceTypes := #[]
  staticTypes := #[]
  resolved := Array.replicate 124 none
  statics := none }

def pool1 : Array CpInfo := pool [(2, .class_ 4), (1, u "java/lang/Object"), (0, u "<init>"), (0, u "()V"), (0, .integer 2147483647), (0, .class_ 9), (0, u "com/example/trust_grade/trustgrade/network/Level"), (0, .class_ 11), (0, u "java/lang/String"), (0, .methodref 10 13), (0, .nameAndType 5 14), (0, u "([C)V"), (0, .methodref 8 16), (0, .nameAndType 5 17), (0, u "(Ljava/lang/String;I)V"), (0, .methodref 10 19), (0, .nameAndType 20 21), (0, u "valueOf"), (0, u "(C)Ljava/lang/String;"), (0, .methodref 8 23), (0, .nameAndType 24 25), (0, u "isAbove"), (0, u "(Lcom/example/trust_grade/trustgrade/network/Level;)Z"), (0, .class_ 27), (0, u "com/example/trust_grade/trustgrade/network/LevelIsAbovePinLaw"), (2, u "law"), (0, u "(IIII)Z")] 5

def k1m0 : Method := { name := "<init>", desc := "()V", sig := { parameters := [], returnType := none }, accessFlags := 1, code := none }
def k1c1 : Code := { maxStack := 5, maxLocals := 14, code := code, exceptionTable := #[], attributes := #[] }
def k1m1 : Method := { name := "law", desc := "(IIII)Z", sig := { parameters := [.int, .int, .int, .int], returnType := some .boolean }, accessFlags := 9, code := some k1c1 }
/-- com/example/trust_grade/trustgrade/network/LevelIsAbovePinLaw -/
def k1 : Class := { plain "com/example/trust_grade/trustgrade/network/LevelIsAbovePinLaw" (some 0) with
  accessFlags := 49
  interfaces := #[]
  cf := some (fileOf pool1 26 #[] #[{ accessFlags := 1, nameIndex := 5, descriptorIndex := 6, attributes := #[] }, { accessFlags := 9, nameIndex := 30, descriptorIndex := 31, attributes := #[] }] 49 2 #[] #[])
  fields := #[]
  methods := #[k1m0, k1m1]
  instanceTypes := #[]
  staticTypes := #[]
  resolved := Array.replicate 37 none
  statics := none }

def pool2 : Array CpInfo := pool [(1, .methodref 2 3), (0, .class_ 4), (0, .nameAndType 5 6), (0, u "java/lang/Object"), (0, u "<init>"), (0, u "()V"), (0, .fieldref 8 9), (0, .class_ 10), (0, .nameAndType 11 12), (0, u "com/example/trust_grade/trustgrade/network/Level"), (0, u "name"), (0, u "Ljava/lang/String;"), (0, .fieldref 8 14), (0, .nameAndType 15 16), (0, u "rank"), (0, u "I"), (0, u "(Ljava/lang/String;I)V"), (6, u "isAbove"), (0, u "(Lcom/example/trust_grade/trustgrade/network/Level;)Z")] 3

def k2c0 : Code := { maxStack := 2, maxLocals := 3, code := prog_31_method_1_code, exceptionTable := #[], attributes := #[] }
def k2m0 : Method := { name := "<init>", desc := "(Ljava/lang/String;I)V", sig := { parameters := [(.object "java/lang/String"), .int], returnType := none }, accessFlags := 0, code := some k2c0 }
def k2c1 : Code := { maxStack := 2, maxLocals := 2, code := prog_31_method_4_code, exceptionTable := #[], attributes := #[] }
def k2m1 : Method := { name := "isAbove", desc := "(Lcom/example/trust_grade/trustgrade/network/Level;)Z", sig := { parameters := [(.object "com/example/trust_grade/trustgrade/network/Level")], returnType := some .boolean }, accessFlags := 1, code := some k2c1 }
/-- com/example/trust_grade/trustgrade/network/Level -/
def k2 : Class := { plain "com/example/trust_grade/trustgrade/network/Level" (some 0) with
  accessFlags := 33
  interfaces := #[]
  cf := some (fileOf pool2 8 #[] #[{ accessFlags := 0, nameIndex := 5, descriptorIndex := 17, attributes := #[] }, { accessFlags := 1, nameIndex := 24, descriptorIndex := 25, attributes := #[] }] 33 2 #[] #[{ accessFlags := 18, nameIndex := 11, descriptorIndex := 12, attributes := #[] }, { accessFlags := 18, nameIndex := 15, descriptorIndex := 16, attributes := #[] }])
  fields := #[{ name := "name", type := (.object "java/lang/String"), accessFlags := 18, slot := 0, constantValue := 0 }, { name := "rank", type := .int, accessFlags := 18, slot := 1, constantValue := 0 }]
  methods := #[k2m0, k2m1]
  instanceTypes := #[(.object "java/lang/String"), .int]
  staticTypes := #[]
  resolved := Array.replicate 29 none
  statics := none }

def pool3 : Array CpInfo := pool [(1, .class_ 2), (0, u "java/io/Serializable"), (0, .class_ 4), (0, u "java/lang/Object")] 2

/-- java/io/Serializable -/
def k3 : Class := { plain "java/io/Serializable" (some 0) with
  accessFlags := 1537
  interfaces := #[]
  cf := some (fileOf pool3 1 #[] #[] 1537 3 #[] #[])
  fields := #[]
  methods := #[]
  instanceTypes := #[]
  staticTypes := #[]
  resolved := Array.replicate 7 none
  statics := none }

def pool4 : Array CpInfo := pool [(1, .class_ 2), (0, u "java/lang/Comparable"), (0, .class_ 4), (0, u "java/lang/Object")] 7

/-- java/lang/Comparable -/
def k4 : Class := { plain "java/lang/Comparable" (some 0) with
  accessFlags := 1537
  interfaces := #[]
  cf := some (fileOf pool4 1 #[] #[] 1537 3 #[] #[])
  fields := #[]
  methods := #[]
  instanceTypes := #[]
  staticTypes := #[]
  resolved := Array.replicate 12 none
  statics := none }

def pool5 : Array CpInfo := pool [(2, .class_ 4), (1, u "java/lang/CharSequence"), (42, .class_ 48), (0, u "java/lang/CharSequence$1CodePointIterator"), (10, .class_ 60), (0, u "java/lang/CharSequence$1CharIterator"), (5, .class_ 67), (0, u "java/lang/Object")] 63

/-- java/lang/CharSequence -/
def k5 : Class := { plain "java/lang/CharSequence" (some 0) with
  accessFlags := 1537
  interfaces := #[]
  cf := some (fileOf pool5 2 #[.nestMembers #[47, 59]] #[] 1537 66 #[] #[])
  fields := #[]
  methods := #[]
  instanceTypes := #[]
  staticTypes := #[]
  resolved := Array.replicate 131 none
  statics := none }

def pool6 : Array CpInfo := pool [(1, .class_ 2), (0, u "java/lang/constant/Constable"), (0, .class_ 4), (0, u "java/lang/Object")] 6

/-- java/lang/constant/Constable -/
def k6 : Class := { plain "java/lang/constant/Constable" (some 0) with
  accessFlags := 1537
  interfaces := #[]
  cf := some (fileOf pool6 1 #[] #[] 1537 3 #[] #[])
  fields := #[]
  methods := #[]
  instanceTypes := #[]
  staticTypes := #[]
  resolved := Array.replicate 11 none
  statics := none }

def pool7 : Array CpInfo := pool [(1, .class_ 2), (0, u "java/lang/constant/ConstantDesc"), (0, .class_ 4), (0, u "java/lang/Object")] 32

/-- java/lang/constant/ConstantDesc -/
def k7 : Class := { plain "java/lang/constant/ConstantDesc" (some 0) with
  accessFlags := 1537
  interfaces := #[]
  cf := some (fileOf pool7 1 #[] #[] 1537 3 #[] #[])
  fields := #[]
  methods := #[]
  instanceTypes := #[]
  staticTypes := #[]
  resolved := Array.replicate 37 none
  statics := none }

def pool8 : Array CpInfo := pool [(1, .methodref 2 3), (0, .class_ 4), (0, .nameAndType 5 6), (0, u "java/lang/Object"), (0, u "<init>"), (0, u "()V"), (2, .fieldref 10 11), (0, .class_ 12), (0, .nameAndType 13 14), (0, u "java/lang/String"), (0, u "value"), (0, u "[B"), (0, .fieldref 10 16), (0, .nameAndType 17 18), (0, u "coder"), (0, u "B"), (2, u "hash"), (0, u "I"), (2, u "hashIsZero"), (0, u "Z"), (0, .methodref 10 28), (0, .nameAndType 5 29), (0, u "([CIILjava/lang/Void;)V"), (8, .fieldref 10 39), (0, .nameAndType 40 26), (0, u "COMPACT_STRINGS"), (1, .class_ 44), (1, u "java/lang/StringUTF16"), (0, u "compress"), (1, .methodref 42 48), (0, .nameAndType 49 50), (0, u "coderFromArrayLen"), (0, u "([BI)B"), (2, u "toBytes"), (53, .class_ 109), (1, u "java/lang/StringLatin1"), (67, .methodref 42 178), (0, .nameAndType 45 179), (0, u "([CII)[B"), (29, .methodref 10 210), (0, .nameAndType 5 211), (0, u "([BB)V"), (157, u "(C)Z"), (205, .class_ 576), (0, u "java/lang/CharSequence"), (22, u "CASE_INSENSITIVE_ORDER"), (0, u "Ljava/util/Comparator;"), (181, u "valueOf"), (0, u "(C)Ljava/lang/String;"), (226, u "([C)V"), (4, .methodref 107 1016), (0, .nameAndType 1017 369), (0, u "canEncode"), (0, .methodref 107 1019), (0, .nameAndType 53 1020), (0, u "(C)[B"), (80, u "serialPersistentFields"), (0, u "[Ljava/io/ObjectStreamField;"), (0, .class_ 1104), (0, u "java/lang/String$CaseInsensitiveComparator"), (1, .class_ 1107), (0, u "java/io/Serializable"), (0, .class_ 1109), (0, u "java/lang/Comparable"), (0, .class_ 1111), (0, u "java/lang/constant/Constable"), (0, .class_ 1113), (0, u "java/lang/constant/ConstantDesc"), (2, u "serialVersionUID"), (0, u "J"), (3, u "REPL"), (0, u "C"), (2, u "LATIN1"), (1, u "UTF16")] 323

def k8m0 : Method := { name := "<init>", desc := "()V", sig := { parameters := [], returnType := none }, accessFlags := 1, code := none }
def k8c1 : Code := { maxStack := 5, maxLocals := 2, code := jdk_42_method_3_code, exceptionTable := #[], attributes := #[] }
def k8m1 : Method := { name := "<init>", desc := "([C)V", sig := { parameters := [(.array .char)], returnType := none }, accessFlags := 1, code := some k8c1 }
def k8c2 : Code := { maxStack := 4, maxLocals := 1, code := jdk_42_method_139_code, exceptionTable := #[], attributes := #[] }
def k8m2 : Method := { name := "valueOf", desc := "(C)Ljava/lang/String;", sig := { parameters := [.char], returnType := some (.object "java/lang/String") }, accessFlags := 9, code := some k8c2 }
def k8c3 : Code := { maxStack := 4, maxLocals := 6, code := jdk_42_method_149_code, exceptionTable := #[], attributes := #[] }
def k8m3 : Method := { name := "<init>", desc := "([CIILjava/lang/Void;)V", sig := { parameters := [(.array .char), .int, .int, (.object "java/lang/Void")], returnType := none }, accessFlags := 2, code := some k8c3 }
def k8c4 : Code := { maxStack := 2, maxLocals := 3, code := jdk_42_method_151_code, exceptionTable := #[], attributes := #[] }
def k8m4 : Method := { name := "<init>", desc := "([BB)V", sig := { parameters := [(.array .byte), .byte], returnType := none }, accessFlags := 0, code := some k8c4 }
/-- java/lang/String -/
def k8 : Class := { plain "java/lang/String" (some 0) with
  accessFlags := 49
  interfaces := #[3, 4, 5, 6, 7]
  cf := some (fileOf pool8 10 #[.nestMembers #[1103]] #[{ accessFlags := 1, nameIndex := 5, descriptorIndex := 6, attributes := #[] }, { accessFlags := 1, nameIndex := 5, descriptorIndex := 1010, attributes := #[] }, { accessFlags := 9, nameIndex := 782, descriptorIndex := 783, attributes := #[] }, { accessFlags := 2, nameIndex := 5, descriptorIndex := 29, attributes := #[] }, { accessFlags := 0, nameIndex := 5, descriptorIndex := 211, attributes := #[] }] 49 2 #[1106, 1108, 575, 1110, 1112] #[{ accessFlags := 18, nameIndex := 13, descriptorIndex := 14, attributes := #[] }, { accessFlags := 18, nameIndex := 17, descriptorIndex := 18, attributes := #[] }, { accessFlags := 2, nameIndex := 21, descriptorIndex := 22, attributes := #[] }, { accessFlags := 2, nameIndex := 25, descriptorIndex := 26, attributes := #[] }, { accessFlags := 26, nameIndex := 1116, descriptorIndex := 1117, attributes := #[] }, { accessFlags := 24, nameIndex := 40, descriptorIndex := 26, attributes := #[] }, { accessFlags := 26, nameIndex := 1101, descriptorIndex := 1102, attributes := #[] }, { accessFlags := 26, nameIndex := 1121, descriptorIndex := 1122, attributes := #[] }, { accessFlags := 25, nameIndex := 599, descriptorIndex := 600, attributes := #[] }, { accessFlags := 24, nameIndex := 1125, descriptorIndex := 18, attributes := #[] }, { accessFlags := 24, nameIndex := 1127, descriptorIndex := 18, attributes := #[] }])
  fields := #[{ name := "value", type := (.array .byte), accessFlags := 18, slot := 0, constantValue := 0 }, { name := "coder", type := .byte, accessFlags := 18, slot := 1, constantValue := 0 }, { name := "hash", type := .int, accessFlags := 2, slot := 2, constantValue := 0 }, { name := "hashIsZero", type := .boolean, accessFlags := 2, slot := 3, constantValue := 0 }, { name := "serialVersionUID", type := .long, accessFlags := 26, slot := 0, constantValue := 0 }, { name := "COMPACT_STRINGS", type := .boolean, accessFlags := 24, slot := 1, constantValue := 0 }, { name := "serialPersistentFields", type := (.array (.object "java/io/ObjectStreamField")), accessFlags := 26, slot := 2, constantValue := 0 }, { name := "REPL", type := .char, accessFlags := 26, slot := 3, constantValue := 0 }, { name := "CASE_INSENSITIVE_ORDER", type := (.object "java/util/Comparator"), accessFlags := 25, slot := 4, constantValue := 0 }, { name := "LATIN1", type := .byte, accessFlags := 24, slot := 5, constantValue := 0 }, { name := "UTF16", type := .byte, accessFlags := 24, slot := 6, constantValue := 0 }]
  methods := #[k8m0, k8m1, k8m2, k8m3, k8m4]
  instanceTypes := #[(.array .byte), .byte, .int, .boolean]
  staticTypes := #[.long, .boolean, (.array (.object "java/io/ObjectStreamField")), .char, (.object "java/util/Comparator"), .byte, .byte]
  resolved := Array.replicate 1451 none
  statics := some 0 }

def pool9 : Array CpInfo := pool [(6, .class_ 8), (1, u "java/lang/Object"), (0, u "<init>"), (0, u "()V"), (1, .class_ 14), (1, u "java/lang/StringUTF16"), (31, u "$assertionsDisabled"), (0, u "Z"), (13, u "HI_BYTE_SHIFT"), (0, u "I"), (2, u "LO_BYTE_SHIFT"), (49, .methodref 12 116), (0, .nameAndType 117 118), (0, u "compress"), (0, u "([CI[BII)I"), (3, u "([CII)[B"), (138, u "coderFromArrayLen"), (0, u "([BI)B"), (106, .class_ 371), (1, u "java/lang/StringUTF16$LinesSpliterator"), (58, u "MAX_LENGTH"), (196, .class_ 628), (0, u "java/lang/StringUTF16$CodePointsSpliterator"), (0, .class_ 630), (0, u "java/lang/StringUTF16$CharsSpliterator")] 4

def k9m0 : Method := { name := "<init>", desc := "()V", sig := { parameters := [], returnType := none }, accessFlags := 0, code := none }
def k9c1 : Code := { maxStack := 2, maxLocals := 2, code := jdk_52_method_15_code, exceptionTable := #[], attributes := #[] }
def k9m1 : Method := { name := "coderFromArrayLen", desc := "([BI)B", sig := { parameters := [(.array .byte), .int], returnType := some .byte }, accessFlags := 8, code := some k9c1 }
def k9c2 : Code := { maxStack := 5, maxLocals := 6, code := jdk_52_method_16_code, exceptionTable := #[], attributes := #[] }
def k9m2 : Method := { name := "compress", desc := "([CII)[B", sig := { parameters := [(.array .char), .int, .int], returnType := some (.array .byte) }, accessFlags := 9, code := some k9c2 }
def k9c3 : Code := { maxStack := 3, maxLocals := 7, code := jdk_52_method_21_code, exceptionTable := #[], attributes := #[] }
def k9m3 : Method := { name := "compress", desc := "([CI[BII)I", sig := { parameters := [(.array .char), .int, (.array .byte), .int, .int], returnType := some .int }, accessFlags := 9, code := some k9c3 }
/-- java/lang/StringUTF16 -/
def k9 : Class := { plain "java/lang/StringUTF16" (some 0) with
  accessFlags := 48
  interfaces := #[]
  cf := some (fileOf pool9 12 #[.nestMembers #[627, 629, 369]] #[{ accessFlags := 0, nameIndex := 9, descriptorIndex := 10, attributes := #[] }, { accessFlags := 8, nameIndex := 261, descriptorIndex := 262, attributes := #[] }, { accessFlags := 9, nameIndex := 117, descriptorIndex := 122, attributes := #[] }, { accessFlags := 9, nameIndex := 117, descriptorIndex := 118, attributes := #[] }] 48 6 #[] #[{ accessFlags := 26, nameIndex := 61, descriptorIndex := 62, attributes := #[] }, { accessFlags := 26, nameIndex := 65, descriptorIndex := 62, attributes := #[] }, { accessFlags := 24, nameIndex := 430, descriptorIndex := 62, attributes := #[] }, { accessFlags := 4120, nameIndex := 46, descriptorIndex := 47, attributes := #[] }])
  fields := #[{ name := "HI_BYTE_SHIFT", type := .int, accessFlags := 26, slot := 0, constantValue := 0 }, { name := "LO_BYTE_SHIFT", type := .int, accessFlags := 26, slot := 1, constantValue := 0 }, { name := "MAX_LENGTH", type := .int, accessFlags := 24, slot := 2, constantValue := 0 }, { name := "$assertionsDisabled", type := .boolean, accessFlags := 4120, slot := 3, constantValue := 0 }]
  methods := #[k9m0, k9m1, k9m2, k9m3]
  instanceTypes := #[]
  staticTypes := #[.int, .int, .int, .boolean]
  resolved := Array.replicate 635 none
  statics := none }

def pool10 : Array CpInfo := pool [(4, .class_ 6), (1, u "java/lang/Object"), (0, u "<init>"), (0, u "()V"), (5, .class_ 16), (1, u "java/lang/StringLatin1"), (73, u "canEncode"), (14, u "(C)Z"), (15, u "$assertionsDisabled"), (0, u "Z"), (98, .class_ 223), (1, u "java/lang/StringLatin1$LinesSpliterator"), (156, u "toBytes"), (1, u "(C)[B"), (7, .class_ 391), (0, u "java/lang/StringLatin1$CharsSpliterator")] 3

def k10m0 : Method := { name := "<init>", desc := "()V", sig := { parameters := [], returnType := none }, accessFlags := 0, code := none }
def k10c1 : Code := { maxStack := 2, maxLocals := 1, code := jdk_43_method_3_code, exceptionTable := #[], attributes := #[] }
def k10m1 : Method := { name := "canEncode", desc := "(C)Z", sig := { parameters := [.char], returnType := some .boolean }, accessFlags := 9, code := some k10c1 }
def k10c2 : Code := { maxStack := 4, maxLocals := 1, code := jdk_43_method_46_code, exceptionTable := #[], attributes := #[] }
def k10m2 : Method := { name := "toBytes", desc := "(C)[B", sig := { parameters := [.char], returnType := some (.array .byte) }, accessFlags := 9, code := some k10c2 }
/-- java/lang/StringLatin1 -/
def k10 : Class := { plain "java/lang/StringLatin1" (some 0) with
  accessFlags := 48
  interfaces := #[]
  cf := some (fileOf pool10 14 #[.nestMembers #[390, 221]] #[{ accessFlags := 0, nameIndex := 7, descriptorIndex := 8, attributes := #[] }, { accessFlags := 9, nameIndex := 90, descriptorIndex := 105, attributes := #[] }, { accessFlags := 9, nameIndex := 380, descriptorIndex := 382, attributes := #[] }] 48 4 #[] #[{ accessFlags := 4120, nameIndex := 121, descriptorIndex := 122, attributes := #[] }])
  fields := #[{ name := "$assertionsDisabled", type := .boolean, accessFlags := 4120, slot := 0, constantValue := 0 }]
  methods := #[k10m0, k10m1, k10m2]
  instanceTypes := #[]
  staticTypes := #[.boolean]
  resolved := Array.replicate 395 none
  statics := none }

def pool11 : Array CpInfo := pool [(2, .class_ 4), (1, u "java/lang/Object"), (0, u "<init>"), (0, u "()V"), (17, .class_ 26), (1, u "jdk/internal/util/Preconditions"), (28, .class_ 56), (0, u "jdk/internal/util/Preconditions$4"), (57, .class_ 115), (0, u "jdk/internal/util/Preconditions$1"), (7, u "SIOOBE_FORMATTER"), (0, u "Ljava/util/function/BiFunction;"), (0, .class_ 126), (0, u "jdk/internal/util/Preconditions$2"), (3, u "AIOOBE_FORMATTER"), (0, .class_ 132), (0, u "jdk/internal/util/Preconditions$3"), (3, u "IOOBE_FORMATTER")] 57

def k11m0 : Method := { name := "<init>", desc := "()V", sig := { parameters := [], returnType := none }, accessFlags := 1, code := none }
/-- jdk/internal/util/Preconditions -/
def k11 : Class := { plain "jdk/internal/util/Preconditions" (some 0) with
  accessFlags := 33
  interfaces := #[]
  cf := some (fileOf pool11 24 #[.nestMembers #[55, 131, 125, 114]] #[{ accessFlags := 1, nameIndex := 5, descriptorIndex := 6, attributes := #[] }] 33 2 #[] #[{ accessFlags := 25, nameIndex := 123, descriptorIndex := 124, attributes := #[] }, { accessFlags := 25, nameIndex := 130, descriptorIndex := 124, attributes := #[] }, { accessFlags := 25, nameIndex := 136, descriptorIndex := 124, attributes := #[] }])
  fields := #[{ name := "SIOOBE_FORMATTER", type := (.object "java/util/function/BiFunction"), accessFlags := 25, slot := 0, constantValue := 0 }, { name := "AIOOBE_FORMATTER", type := (.object "java/util/function/BiFunction"), accessFlags := 25, slot := 1, constantValue := 0 }, { name := "IOOBE_FORMATTER", type := (.object "java/util/function/BiFunction"), accessFlags := 25, slot := 2, constantValue := 0 }]
  methods := #[k11m0]
  instanceTypes := #[]
  staticTypes := #[(.object "java/util/function/BiFunction"), (.object "java/util/function/BiFunction"), (.object "java/util/function/BiFunction")]
  resolved := Array.replicate 194 none
  statics := some 1 }

def pool12 : Array CpInfo := pool [(9, u "<init>"), (6, .class_ 18), (1, u "java/lang/Object"), (0, u "()V"), (1, .class_ 23), (1, u "jdk/internal/util/ArraysSupport"), (0, u "LOG2_ARRAY_LONG_INDEX_SCALE"), (0, u "I"), (2, u "U"), (0, u "Ljdk/internal/misc/Unsafe;"), (8, u "BIG_ENDIAN"), (0, u "Z"), (8, u "LOG2_BYTE_BIT_SIZE"), (4, u "LOG2_ARRAY_INT_INDEX_SCALE"), (54, u "JLA"), (0, u "Ljdk/internal/access/JavaLangAccess;"), (11, u "LOG2_ARRAY_BOOLEAN_INDEX_SCALE"), (9, u "LOG2_ARRAY_BYTE_INDEX_SCALE"), (5, u "LOG2_ARRAY_CHAR_INDEX_SCALE"), (5, u "LOG2_ARRAY_SHORT_INDEX_SCALE"), (18, u "LOG2_ARRAY_FLOAT_INDEX_SCALE"), (24, u "LOG2_ARRAY_DOUBLE_INDEX_SCALE"), (89, u "T_BOOLEAN"), (2, u "T_CHAR"), (1, u "T_FLOAT"), (1, u "T_DOUBLE"), (1, u "T_BYTE"), (1, u "T_SHORT"), (1, u "T_INT"), (1, u "T_LONG"), (1, u "SOFT_MAX_ARRAY_LENGTH")] 83

def k12m0 : Method := { name := "<init>", desc := "()V", sig := { parameters := [], returnType := none }, accessFlags := 2, code := none }
/-- jdk/internal/util/ArraysSupport -/
def k12 : Class := { plain "jdk/internal/util/ArraysSupport" (some 0) with
  accessFlags := 33
  interfaces := #[]
  cf := some (fileOf pool12 21 #[] #[{ accessFlags := 2, nameIndex := 9, descriptorIndex := 19, attributes := #[] }] 33 16 #[] #[{ accessFlags := 24, nameIndex := 28, descriptorIndex := 29, attributes := #[] }, { accessFlags := 26, nameIndex := 38, descriptorIndex := 39, attributes := #[] }, { accessFlags := 25, nameIndex := 121, descriptorIndex := 25, attributes := #[] }, { accessFlags := 25, nameIndex := 131, descriptorIndex := 25, attributes := #[] }, { accessFlags := 25, nameIndex := 137, descriptorIndex := 25, attributes := #[] }, { accessFlags := 25, nameIndex := 143, descriptorIndex := 25, attributes := #[] }, { accessFlags := 25, nameIndex := 53, descriptorIndex := 25, attributes := #[] }, { accessFlags := 25, nameIndex := 24, descriptorIndex := 25, attributes := #[] }, { accessFlags := 25, nameIndex := 162, descriptorIndex := 25, attributes := #[] }, { accessFlags := 25, nameIndex := 187, descriptorIndex := 25, attributes := #[] }, { accessFlags := 26, nameIndex := 48, descriptorIndex := 25, attributes := #[] }, { accessFlags := 25, nameIndex := 277, descriptorIndex := 25, attributes := #[] }, { accessFlags := 25, nameIndex := 280, descriptorIndex := 25, attributes := #[] }, { accessFlags := 25, nameIndex := 282, descriptorIndex := 25, attributes := #[] }, { accessFlags := 25, nameIndex := 284, descriptorIndex := 25, attributes := #[] }, { accessFlags := 25, nameIndex := 286, descriptorIndex := 25, attributes := #[] }, { accessFlags := 25, nameIndex := 288, descriptorIndex := 25, attributes := #[] }, { accessFlags := 25, nameIndex := 290, descriptorIndex := 25, attributes := #[] }, { accessFlags := 25, nameIndex := 292, descriptorIndex := 25, attributes := #[] }, { accessFlags := 26, nameIndex := 108, descriptorIndex := 109, attributes := #[] }, { accessFlags := 25, nameIndex := 294, descriptorIndex := 25, attributes := #[] }])
  fields := #[{ name := "U", type := (.object "jdk/internal/misc/Unsafe"), accessFlags := 24, slot := 0, constantValue := 0 }, { name := "BIG_ENDIAN", type := .boolean, accessFlags := 26, slot := 1, constantValue := 0 }, { name := "LOG2_ARRAY_BOOLEAN_INDEX_SCALE", type := .int, accessFlags := 25, slot := 2, constantValue := 0 }, { name := "LOG2_ARRAY_BYTE_INDEX_SCALE", type := .int, accessFlags := 25, slot := 3, constantValue := 0 }, { name := "LOG2_ARRAY_CHAR_INDEX_SCALE", type := .int, accessFlags := 25, slot := 4, constantValue := 0 }, { name := "LOG2_ARRAY_SHORT_INDEX_SCALE", type := .int, accessFlags := 25, slot := 5, constantValue := 0 }, { name := "LOG2_ARRAY_INT_INDEX_SCALE", type := .int, accessFlags := 25, slot := 6, constantValue := 0 }, { name := "LOG2_ARRAY_LONG_INDEX_SCALE", type := .int, accessFlags := 25, slot := 7, constantValue := 0 }, { name := "LOG2_ARRAY_FLOAT_INDEX_SCALE", type := .int, accessFlags := 25, slot := 8, constantValue := 0 }, { name := "LOG2_ARRAY_DOUBLE_INDEX_SCALE", type := .int, accessFlags := 25, slot := 9, constantValue := 0 }, { name := "LOG2_BYTE_BIT_SIZE", type := .int, accessFlags := 26, slot := 10, constantValue := 0 }, { name := "T_BOOLEAN", type := .int, accessFlags := 25, slot := 11, constantValue := 0 }, { name := "T_CHAR", type := .int, accessFlags := 25, slot := 12, constantValue := 0 }, { name := "T_FLOAT", type := .int, accessFlags := 25, slot := 13, constantValue := 0 }, { name := "T_DOUBLE", type := .int, accessFlags := 25, slot := 14, constantValue := 0 }, { name := "T_BYTE", type := .int, accessFlags := 25, slot := 15, constantValue := 0 }, { name := "T_SHORT", type := .int, accessFlags := 25, slot := 16, constantValue := 0 }, { name := "T_INT", type := .int, accessFlags := 25, slot := 17, constantValue := 0 }, { name := "T_LONG", type := .int, accessFlags := 25, slot := 18, constantValue := 0 }, { name := "JLA", type := (.object "jdk/internal/access/JavaLangAccess"), accessFlags := 26, slot := 19, constantValue := 0 }, { name := "SOFT_MAX_ARRAY_LENGTH", type := .int, accessFlags := 25, slot := 20, constantValue := 0 }]
  methods := #[k12m0]
  instanceTypes := #[]
  staticTypes := #[(.object "jdk/internal/misc/Unsafe"), .boolean, .int, .int, .int, .int, .int, .int, .int, .int, .int, .int, .int, .int, .int, .int, .int, .int, .int, (.object "jdk/internal/access/JavaLangAccess"), .int]
  resolved := Array.replicate 378 none
  statics := none }

def pool13 : Array CpInfo := pool [(1, u "java/lang/Cloneable"), (0, .class_ 1), (0, u "java/lang/Object"), (0, .class_ 3)] 3

/-- java/lang/Cloneable -/
def k13 : Class := { plain "java/lang/Cloneable" (some 0) with
  accessFlags := 1537
  interfaces := #[]
  cf := some (fileOf pool13 2 #[] #[] 1537 4 #[] #[])
  fields := #[]
  methods := #[]
  instanceTypes := #[]
  staticTypes := #[]
  resolved := Array.replicate 8 none
  statics := none }

/-- the primitive byte -/
def k14 : Class := { plain "byte" none with kind := .primitive 'B', accessFlags := 0x411 }
/-- [B -/
def k15 : Class := { plain "[B" (some 0) with kind := .array 14 .byte, interfaces := #[13, 3], accessFlags := 1041 }

/-- the primitive char -/
def k16 : Class := { plain "char" none with kind := .primitive 'C', accessFlags := 0x411 }
/-- [C -/
def k17 : Class := { plain "[C" (some 0) with kind := .array 16 .char, interfaces := #[13, 3], accessFlags := 1041 }

/-- the primitive int -/
def k18 : Class := { plain "int" none with kind := .primitive 'I', accessFlags := 0x411 }
/-- [I -/
def k19 : Class := { plain "[I" (some 0) with kind := .array 18 .int, interfaces := #[13, 3], accessFlags := 1041 }

def heap : Heap := #[{ cls := 8, slots := #[.long 0, .int 1, .null, .int 0, .null, .int 0, .int 0], vm := .statics 8 },
  { cls := 11, slots := #[.null, .null, .null], vm := .statics 11 }]
def classes : Array Class := #[k0, k1, k2, k3, k4, k5, k6, k7, k8, k9, k10, k11, k12, k13, k14, k15, k16, k17, k18, k19]
def interned : List (Array UInt16 × Addr) := []
def slotsUsed : Nat := 10
def theMethod : MethodId := ⟨1, 1⟩
def args0 : Array Value := #[.int 5, .int 7, .int 65, .int 97]
def aboutOver (below : List Frame) : State where
  vm := { classes := classes, interned := interned.toArray }
  heap := heap
  slotsUsed := slotsUsed
  threads := #[{ frames := .invoking theMethod args0 :: below }]
def below0 : List Frame := [.native { method := ⟨0, 0⟩, args := #[] }]
def about1 : State := aboutOver below0
def p0 : Program := .bare "" "" ""
def e0 : Env := launch0.env 0 0 0
theorem w_frames : about1.frames = Frame.invoking theMethod args0 :: below0 := rfl
set_option maxRecDepth 65536 in
theorem w_args : argsFit about1.vm theMethod args0 = true := by decide +kernel
set_option maxRecDepth 65536 in
theorem w_heap : heapFits about1 = true := by decide +kernel
set_option maxRecDepth 65536 in
theorem w_runnable : about1.curStatus? = some .runnable := by decide +kernel
set_option maxRecDepth 65536 in
theorem w_alone : about1.alone = true := by decide +kernel
set_option maxRecDepth 65536 in
theorem w_named : about1.methodNamed? x = some theMethod := by decide +kernel
set_option maxRecDepth 65536 in
theorem w_hears : about1.hears theMethod below0 = true := by decide +kernel
set_option maxRecDepth 65536 in
theorem w_ripe : about1.ripe theMethod args0 below0 = true := by decide +kernel
theorem w_running : about1.status = .running := rfl
set_option maxRecDepth 65536 in
theorem w_room : about1.hasRoom e0.platform room_1 = true :=
  launch0.hasRoom_least _ room_1 (by decide +kernel) (by decide +kernel) (by decide +kernel) (by decide +kernel) (by decide +kernel) (by decide +kernel)
theorem allAtoms_all (ts : List Jvm.Cond) (a : Array Jvm.Value) (st : Jvm.State) : (allAtoms ts).before a st = ts.all (fun c => c.before a st) := by
  induction ts with
  | nil => rfl
  | cons c t ih =>
    show (Jvm.Cond.and c (allAtoms t)).before a st = _
    rw [Jvm.Cond.before_and, ih, List.all_cons]
def words1 : List Jvm.Cond := Jvm.Cond.code x code maxLocals ret :: tables_1
/-- a 'code' word, met by the world's own term for the bytes: nothing is compared byte by byte -/
theorem code_word {y : MethodName} {bytes : ByteArray} {mx : Nat} {rt : Option FieldType} {a : Array Value} {s : State} {m : MethodId} {meth : Method} {c : Code} (h1 : s.methodNamed? y = some m) (h2 : s.vm.method? m = some meth) (h3 : meth.code = some c) (h4 : c.code = bytes)
    (h5 : (c.maxLocals == mx && c.exceptionTable.isEmpty && decide (c.maxStack ≤ mostOperands) && decide (meth.sig.returnType = rt) && !meth.locks && decide (parseMethodDescriptor y.desc = some meth.sig)) = true) : (Jvm.Cond.code y bytes mx rt).before a s = true := by
  simp only [Bool.and_eq_true, beq_iff_eq, Bool.not_eq_true', decide_eq_true_eq] at h5
  obtain ⟨⟨⟨⟨⟨g1, g2⟩, g3⟩, g4⟩, g5⟩, g6⟩ := h5
  simp [Cond.before, Cond.holds, Cond.value, h1, h2, h3, h4, g1, g2, g3, g4, g5, g6]
def isCode : Jvm.Cond → Bool
  | .code _ _ _ _ => true
  | _ => false
theorem all_split {L : List Jvm.Cond} {P : Jvm.Cond → Bool} (h1 : L.all (fun c => isCode c || P c) = true) (h2 : ∀ c ∈ L.filter isCode, P c = true) : L.all P = true := by
  refine List.all_eq_true.mpr fun c hc => ?_
  have h := List.all_eq_true.mp h1 c hc
  rcases Bool.eq_false_or_eq_true (isCode c) with hi | hi
  · exact h2 c (List.mem_filter.mpr ⟨hc, hi⟩)
  · simpa [hi] using h
set_option maxRecDepth 65536 in
theorem w_c0 : (Jvm.Cond.code x code maxLocals ret).before args0 about1 = true := code_word (m := ⟨1, 1⟩) (meth := k1m1) (c := k1c1) (by decide +kernel) rfl rfl rfl (by decide +kernel)
set_option maxRecDepth 65536 in
theorem w_c1 : (Jvm.Cond.code ({ cls := "java/lang/String", name := "<init>", desc := "([C)V" } : Jvm.MethodName) jdk_42_method_3_code (2 : Nat) (Option.none : Option Jvm.ClassFile.FieldType)).before args0 about1 = true := code_word (m := ⟨8, 1⟩) (meth := k8m1) (c := k8c1) (by decide +kernel) rfl rfl rfl (by decide +kernel)
set_option maxRecDepth 65536 in
theorem w_c2 : (Jvm.Cond.code ({ cls := "java/lang/String", name := "<init>", desc := "([CIILjava/lang/Void;)V" } : Jvm.MethodName) jdk_42_method_149_code (6 : Nat) (Option.none : Option Jvm.ClassFile.FieldType)).before args0 about1 = true := code_word (m := ⟨8, 3⟩) (meth := k8m3) (c := k8c3) (by decide +kernel) rfl rfl rfl (by decide +kernel)
set_option maxRecDepth 65536 in
theorem w_c3 : (Jvm.Cond.code ({ cls := "java/lang/Object", name := "<init>", desc := "()V" } : Jvm.MethodName) object_method_1_code (1 : Nat) (Option.none : Option Jvm.ClassFile.FieldType)).before args0 about1 = true := code_word (m := ⟨0, 0⟩) (meth := k0m0) (c := k0c0) (by decide +kernel) rfl rfl rfl (by decide +kernel)
set_option maxRecDepth 65536 in
theorem w_c4 : (Jvm.Cond.code ({ cls := "java/lang/StringUTF16", name := "compress", desc := "([CII)[B" } : Jvm.MethodName) jdk_52_method_16_code (6 : Nat) (Option.some (Jvm.ClassFile.FieldType.array Jvm.ClassFile.FieldType.byte))).before args0 about1 = true := code_word (m := ⟨9, 2⟩) (meth := k9m2) (c := k9c2) (by decide +kernel) rfl rfl rfl (by decide +kernel)
set_option maxRecDepth 65536 in
theorem w_c5 : (Jvm.Cond.code ({ cls := "java/lang/StringUTF16", name := "compress", desc := "([CI[BII)I" } : Jvm.MethodName) jdk_52_method_21_code (7 : Nat) (Option.some Jvm.ClassFile.FieldType.int)).before args0 about1 = true := code_word (m := ⟨9, 3⟩) (meth := k9m3) (c := k9c3) (by decide +kernel) rfl rfl rfl (by decide +kernel)
set_option maxRecDepth 65536 in
theorem w_c6 : (Jvm.Cond.code ({ cls := "java/lang/StringUTF16", name := "coderFromArrayLen", desc := "([BI)B" } : Jvm.MethodName) jdk_52_method_15_code (2 : Nat) (Option.some Jvm.ClassFile.FieldType.byte)).before args0 about1 = true := code_word (m := ⟨9, 1⟩) (meth := k9m1) (c := k9c1) (by decide +kernel) rfl rfl rfl (by decide +kernel)
set_option maxRecDepth 65536 in
theorem w_c7 : (Jvm.Cond.code ({ cls := "com/example/trust_grade/trustgrade/network/Level", name := "<init>", desc := "(Ljava/lang/String;I)V" } : Jvm.MethodName) prog_31_method_1_code (3 : Nat) (Option.none : Option Jvm.ClassFile.FieldType)).before args0 about1 = true := code_word (m := ⟨2, 0⟩) (meth := k2m0) (c := k2c0) (by decide +kernel) rfl rfl rfl (by decide +kernel)
set_option maxRecDepth 65536 in
theorem w_c8 : (Jvm.Cond.code ({ cls := "java/lang/String", name := "valueOf", desc := "(C)Ljava/lang/String;" } : Jvm.MethodName) jdk_42_method_139_code (1 : Nat) (Option.some (Jvm.ClassFile.FieldType.object "java/lang/String"))).before args0 about1 = true := code_word (m := ⟨8, 2⟩) (meth := k8m2) (c := k8c2) (by decide +kernel) rfl rfl rfl (by decide +kernel)
set_option maxRecDepth 65536 in
theorem w_c9 : (Jvm.Cond.code ({ cls := "java/lang/StringLatin1", name := "canEncode", desc := "(C)Z" } : Jvm.MethodName) jdk_43_method_3_code (1 : Nat) (Option.some Jvm.ClassFile.FieldType.boolean)).before args0 about1 = true := code_word (m := ⟨10, 1⟩) (meth := k10m1) (c := k10c1) (by decide +kernel) rfl rfl rfl (by decide +kernel)
set_option maxRecDepth 65536 in
theorem w_c10 : (Jvm.Cond.code ({ cls := "java/lang/StringLatin1", name := "toBytes", desc := "(C)[B" } : Jvm.MethodName) jdk_43_method_46_code (1 : Nat) (Option.some (Jvm.ClassFile.FieldType.array Jvm.ClassFile.FieldType.byte))).before args0 about1 = true := code_word (m := ⟨10, 2⟩) (meth := k10m2) (c := k10c2) (by decide +kernel) rfl rfl rfl (by decide +kernel)
set_option maxRecDepth 65536 in
theorem w_c11 : (Jvm.Cond.code ({ cls := "java/lang/String", name := "<init>", desc := "([BB)V" } : Jvm.MethodName) jdk_42_method_151_code (3 : Nat) (Option.none : Option Jvm.ClassFile.FieldType)).before args0 about1 = true := code_word (m := ⟨8, 4⟩) (meth := k8m4) (c := k8c4) (by decide +kernel) rfl rfl rfl (by decide +kernel)
set_option maxRecDepth 65536 in
theorem w_c12 : (Jvm.Cond.code ({ cls := "com/example/trust_grade/trustgrade/network/Level", name := "isAbove", desc := "(Lcom/example/trust_grade/trustgrade/network/Level;)Z" } : Jvm.MethodName) prog_31_method_4_code (2 : Nat) (Option.some Jvm.ClassFile.FieldType.boolean)).before args0 about1 = true := code_word (m := ⟨2, 1⟩) (meth := k2m1) (c := k2c1) (by decide +kernel) rfl rfl rfl (by decide +kernel)
def codes1 : List Jvm.Cond := [Jvm.Cond.code x code maxLocals ret, Jvm.Cond.code ({ cls := "java/lang/String", name := "<init>", desc := "([C)V" } : Jvm.MethodName) jdk_42_method_3_code (2 : Nat) (Option.none : Option Jvm.ClassFile.FieldType), Jvm.Cond.code ({ cls := "java/lang/String", name := "<init>", desc := "([CIILjava/lang/Void;)V" } : Jvm.MethodName) jdk_42_method_149_code (6 : Nat) (Option.none : Option Jvm.ClassFile.FieldType), Jvm.Cond.code ({ cls := "java/lang/Object", name := "<init>", desc := "()V" } : Jvm.MethodName) object_method_1_code (1 : Nat) (Option.none : Option Jvm.ClassFile.FieldType), Jvm.Cond.code ({ cls := "java/lang/StringUTF16", name := "compress", desc := "([CII)[B" } : Jvm.MethodName) jdk_52_method_16_code (6 : Nat) (Option.some (Jvm.ClassFile.FieldType.array Jvm.ClassFile.FieldType.byte)), Jvm.Cond.code ({ cls := "java/lang/StringUTF16", name := "compress", desc := "([CI[BII)I" } : Jvm.MethodName) jdk_52_method_21_code (7 : Nat) (Option.some Jvm.ClassFile.FieldType.int), Jvm.Cond.code ({ cls := "java/lang/StringUTF16", name := "coderFromArrayLen", desc := "([BI)B" } : Jvm.MethodName) jdk_52_method_15_code (2 : Nat) (Option.some Jvm.ClassFile.FieldType.byte), Jvm.Cond.code ({ cls := "com/example/trust_grade/trustgrade/network/Level", name := "<init>", desc := "(Ljava/lang/String;I)V" } : Jvm.MethodName) prog_31_method_1_code (3 : Nat) (Option.none : Option Jvm.ClassFile.FieldType), Jvm.Cond.code ({ cls := "java/lang/String", name := "valueOf", desc := "(C)Ljava/lang/String;" } : Jvm.MethodName) jdk_42_method_139_code (1 : Nat) (Option.some (Jvm.ClassFile.FieldType.object "java/lang/String")), Jvm.Cond.code ({ cls := "java/lang/StringLatin1", name := "canEncode", desc := "(C)Z" } : Jvm.MethodName) jdk_43_method_3_code (1 : Nat) (Option.some Jvm.ClassFile.FieldType.boolean), Jvm.Cond.code ({ cls := "java/lang/StringLatin1", name := "toBytes", desc := "(C)[B" } : Jvm.MethodName) jdk_43_method_46_code (1 : Nat) (Option.some (Jvm.ClassFile.FieldType.array Jvm.ClassFile.FieldType.byte)), Jvm.Cond.code ({ cls := "java/lang/String", name := "<init>", desc := "([BB)V" } : Jvm.MethodName) jdk_42_method_151_code (3 : Nat) (Option.none : Option Jvm.ClassFile.FieldType), Jvm.Cond.code ({ cls := "com/example/trust_grade/trustgrade/network/Level", name := "isAbove", desc := "(Lcom/example/trust_grade/trustgrade/network/Level;)Z" } : Jvm.MethodName) prog_31_method_4_code (2 : Nat) (Option.some Jvm.ClassFile.FieldType.boolean)]
set_option maxRecDepth 65536 in
theorem codes_eq : words1.filter isCode = codes1 := rfl
theorem w_codes : ∀ c ∈ words1.filter isCode, c.before args0 about1 = true := by
  rw [codes_eq]
  intro c hc
  simp only [codes1, List.mem_cons, List.not_mem_nil, or_false] at hc
  rcases hc with rfl | rfl | rfl | rfl | rfl | rfl | rfl | rfl | rfl | rfl | rfl | rfl | rfl
  · exact w_c0
  · exact w_c1
  · exact w_c2
  · exact w_c3
  · exact w_c4
  · exact w_c5
  · exact w_c6
  · exact w_c7
  · exact w_c8
  · exact w_c9
  · exact w_c10
  · exact w_c11
  · exact w_c12
set_option maxRecDepth 65536 in
theorem w_t1 : (words1.take 24).all (fun c => isCode c || c.before args0 about1) = true := by decide +kernel
set_option maxRecDepth 65536 in
theorem w_t2 : ((words1.drop 24).take 24).all (fun c => isCode c || c.before args0 about1) = true := by decide +kernel
set_option maxRecDepth 65536 in
theorem w_t3 : ((words1.drop 24).drop 24).all (fun c => isCode c || c.before args0 about1) = true := by decide +kernel
theorem w_tables : (allAtoms (Jvm.Cond.code x code maxLocals ret :: tables_1)).before args0 about1 = true := by
  rw [allAtoms_all]
  show words1.all (fun c => c.before args0 about1) = true
  refine all_split ?_ w_codes
  rw [← List.take_append_drop 24 words1, List.all_append, w_t1, ← List.take_append_drop 24 (words1.drop 24), List.all_append, w_t2, w_t3]
  rfl
set_option maxRecDepth 65536 in
theorem w_rest : rest_1_c.before args0 about1 = true := by decide +kernel
set_option maxRecDepth 65536 in
theorem w_case : (Jvm.Cond.and given_1 narrow_1).before args0 about1 = true := by decide +kernel
theorem w_applies : (headSpec (Jvm.Cond.code x code maxLocals ret :: tables_1) room_1).applies x e0.platform about1 = true :=
  (Spec.applies_iff w_frames).mpr ⟨w_running, w_runnable, w_alone, w_named, w_hears, w_ripe, w_room, w_tables⟩
theorem atStart : AtStart classFile x code maxLocals ret World_1 tables_1 room_1 Calls_1 rest_1 Pre_1 launch0 p0 e0 about1 theMethod args0 below0 :=
  ⟨lists_1, trivial, launch0.admits_env _ _ _, launch0.least_env, fairChoices_fair.cas, fairChoices_fair.clock, w_frames, w_args, w_heap, w_applies, trivial, w_rest, w_case⟩
end start1
theorem witness_1 : WitnessClaimed_1 := ⟨start1.p0, start1.e0, start1.about1, start1.theMethod, start1.args0, start1.below0, start1.atStart⟩
end Jvm.Pilot.@@N@@
