import JvmDerived
import JvmDerived.Pilot.@@N@@Statement
import JvmDerived.Pilot.@@N@@Code
set_option linter.unusedVariables false
set_option linter.unusedSimpArgs false
@@BLOCK:NumsL.lean.txt@@
namespace Jvm.Pilot.@@N@@
open Jvm Jvm.ClassFile Sem Op Lib Jvm.Free Jvm.Stand Jvm.LawKit Jvm.RoadKit Bundle Jvm.Pilot.@@N@@.Jvm.D
theorem own_retI {p : Program} {l : Launch} {e : Env} {R : Room} {s : State} {m : MethodId} {args : Array Value} {below : List Frame} {meth : Method} {c : Code} {T : State} {locs : List Loc} {cells slots : Nat} (X : Stand p l e R s m args below meth c T locs cells slots) (hx : p.tables.exec = Jvm.exec) {pc : Nat} {Ls : Array Slot} {z : Int32} {rest : List Value} (hret : meth.sig.returnType = some .int) (hd : decode c.code pc = .ok (.ireturn, 1)) {fs : List Frame}
    (hl : ∀ (f : JFrame) (acts : List Action), f.method = m → f.locked = none → f.entered = [] → (doReturn e (T.setTop f) acts (some (.int z))).1 = T.setFrames fs) : Steps p.tables e below (T.setTop (mkF m pc Ls (.int z :: rest))) (T.setFrames fs) :=
  retOut X hx hret rfl (Or.inl ⟨rfl, Or.inl rfl, z, rfl⟩) hd hl
theorem own_retA {p : Program} {l : Launch} {e : Env} {R : Room} {s : State} {m : MethodId} {args : Array Value} {below : List Frame} {meth : Method} {c : Code} {T : State} {locs : List Loc} {cells slots : Nat} (X : Stand p l e R s m args below meth c T locs cells slots) (hx : p.tables.exec = Jvm.exec) {pc : Nat} {Ls : Array Slot} {w : Value} {t : FieldType} {rest : List Value} (hret : meth.sig.returnType = some t) (ht : t.isReference = true) (hw : w.isRef = true) (hn : narrow t w = w) (hd : decode c.code pc = .ok (.areturn, 1)) {fs : List Frame}
    (hl : ∀ (f : JFrame) (acts : List Action), f.method = m → f.locked = none → f.entered = [] → (doReturn e (T.setTop f) acts (some w)).1 = T.setFrames fs) : Steps p.tables e below (T.setTop (mkF m pc Ls (w :: rest))) (T.setFrames fs) :=
  retOut X hx hret hn (Or.inr (Or.inr (Or.inr (Or.inr ⟨rfl, ht, hw⟩)))) hd hl
theorem own_retJ {p : Program} {l : Launch} {e : Env} {R : Room} {s : State} {m : MethodId} {args : Array Value} {below : List Frame} {meth : Method} {c : Code} {T : State} {locs : List Loc} {cells slots : Nat} (X : Stand p l e R s m args below meth c T locs cells slots) (hx : p.tables.exec = Jvm.exec) {pc : Nat} {Ls : Array Slot} {z : Int64} {rest : List Value} (hret : meth.sig.returnType = some .long) (hd : decode c.code pc = .ok (.lreturn, 1)) {fs : List Frame}
    (hl : ∀ (f : JFrame) (acts : List Action), f.method = m → f.locked = none → f.entered = [] → (doReturn e (T.setTop f) acts (some (.long z))).1 = T.setFrames fs) : Steps p.tables e below (T.setTop (mkF m pc Ls (.long z :: rest))) (T.setFrames fs) :=
  retOut X hx hret rfl (Or.inr (Or.inl ⟨rfl, rfl, z, rfl⟩)) hd hl
theorem own_exttr {h0 h h' : Heap} (E : Ext h0 h) (E' : Ext h h') : Ext h0 h' := ⟨Nat.le_trans E.1 E'.1, fun a c q => E'.2 _ _ (E.2 _ _ q)⟩
theorem own_extwr {h0 h h' : Heap} {a : Addr} {sl : Nat} {v : Value} (E : Ext h0 h) (W : Wr h h' a sl v) (q : h0.size ≤ a) : Ext h0 h' := by
  refine ⟨Nat.le_trans E.1 (Nat.le_of_eq W.size.symm), fun x c hc => ?_⟩
  obtain ⟨c', e1, -, -, -, e5, -⟩ := wr_at W (E.2 x c hc)
  have hx : x < h0.size := (Array.getElem?_eq_some_iff.mp hc).1
  rw [e5 (Nat.ne_of_lt (Nat.lt_of_lt_of_le hx q))] at e1
  exact e1
theorem own_wmono {s t : State} {o : Outcome} {L : List Loc} {k n k' n' : Nat} (h : ReturnedEndW s o t L k n) (hk : k ≤ k') (hn : n ≤ n') : ReturnedEndW s o t L k' n' := ⟨h.1, h.2.1, h.2.2.1, h.2.2.2.mono hk hn⟩
theorem own_strAtoms {Z : State} {a0 : Array Value} (w1 : (Jvm.Cond.initialized "java/lang/String").before a0 Z = true) (w2 : (Jvm.Cond.instantiable "java/lang/String" 4).before a0 Z = true) (w3 : (Jvm.Cond.arrayClass .byte).before a0 Z = true) (w4 : (Jvm.Cond.laysFinal "java/lang/String" "java/lang/String" "value" "[B").before a0 Z = true) (w5 : (Jvm.Cond.laysFinal "java/lang/String" "java/lang/String" "coder" "B").before a0 Z = true) (w6 : (Jvm.Cond.soleField "java/lang/String" "value").before a0 Z = true) (w7 : (Jvm.Cond.soleField "java/lang/String" "coder").before a0 Z = true) : ∀ a ∈ Bundle.stringAtoms, a.before a0 Z = true := by
  intro a ha
  simp only [Bundle.stringAtoms, List.mem_cons, List.not_mem_nil, or_false] at ha
  rcases ha with rfl | rfl | rfl | rfl | rfl | rfl | rfl <;> assumption
theorem own_extkeep {h0 h h' : Heap} {a : Addr} (E : Ext h0 h) (K : Keep h h' [a]) (q : h0.size ≤ a) : Ext h0 h' := ⟨Nat.le_trans E.1 K.1, fun x c hc => K.2.1 x c (E.2 x c hc) (fun hm => absurd (List.mem_singleton.mp hm) (Nat.ne_of_lt (Nat.lt_of_lt_of_le (Array.getElem?_eq_some_iff.mp hc).1 q)))⟩
theorem own_fld2 {Z : State} {h : Heap} {a : Addr} {C O n d O1 n1 d1 : String} {v1 : Value} {a0 : Array Value} {k : Nat} (E : Exa Z h a C) (F : Fld Z h a O1 n1 d1 v1) (L : Laid Z a0 C O n d) (wi : (Jvm.Cond.instantiable C k).before a0 Z = true) : ∃ v, Fld Z h a O n d v := by
  obtain ⟨cell, kc, h1, h2, h3, h4, h5⟩ := E
  obtain ⟨cell', cf', k', i', f', g1, -, -, g4, g5, -, -⟩ := F
  cases h1.symm.trans g1
  obtain ⟨c, k2, cf, kf, i, f, a1, a2, a3, a4, a5, a6, -⟩ := L.spec
  cases h2.symm.trans a1
  cases h3.symm.trans a2
  obtain ⟨c2, k3, i1, i2, i3, -⟩ := Cond.instantiable_spec wi
  cases h2.symm.trans i1
  cases h3.symm.trans i2
  have hs := h5 i3
  have hlt : f.slot < cell.slots.size := by rw [hs]; exact (Array.getElem?_eq_some_iff.mp a6).1
  exact ⟨cell.slots[f.slot], cell, cf, kf, i, f, h1, a3, a4, g4, g5, a5, Array.getElem?_eq_getElem hlt⟩
theorem own_retD {p : Program} {l : Launch} {e : Env} {R : Room} {s : State} {m : MethodId} {args : Array Value} {below : List Frame} {meth : Method} {c : Code} {T : State} {locs : List Loc} {cells slots : Nat} (X : Stand p l e R s m args below meth c T locs cells slots) (hx : p.tables.exec = Jvm.exec) {pc : Nat} {Ls : Array Slot} {z : UInt64} {rest : List Value} (hret : meth.sig.returnType = some .double) (hd : decode c.code pc = .ok (.dreturn, 1)) {fs : List Frame}
    (hl : ∀ (f : JFrame) (acts : List Action), f.method = m → f.locked = none → f.entered = [] → (doReturn e (T.setTop f) acts (some (.double z))).1 = T.setFrames fs) : Steps p.tables e below (T.setTop (mkF m pc Ls (.double z :: rest))) (T.setFrames fs) :=
  retOut X hx hret rfl (Or.inr (Or.inr (Or.inl ⟨rfl, rfl, z, rfl⟩))) hd hl
theorem own_eqk {args : Array Value} {first s : State} {o : Option Outcome} {idx : List Nat} {t : Term} {k : Int32} (h : (Jvm.Cond.eq t (.int k)).value args first o s idx = some true) : t.eval args first o idx s = some (.int k) := by
  have hk : (Term.int k).eval args first o idx s = some (.int k) := Term.int_eval k
  cases ht : t.eval args first o idx s with
  | none => simp [Cond.value, ht] at h
  | some x => cases x <;> simp [Cond.value, ht, hk] at h ⊢ <;> exact h
theorem own_pn0 : plainName "com/example/gard/gard/core/TruthOrPinLaw" = true := by first | (simp [plainName, overriddenIn]; done) | decide +kernel
theorem own_d_pick_0 : decode method_2_code 0 = .ok (.iload_n 0, 1) := by decide +kernel
theorem own_d_pick_1 : decode method_2_code 1 = .ok (.ifCond .ne 7, 3) := by decide +kernel
theorem own_d_pick_4 : decode method_2_code 4 = .ok (.getstatic 7, 3) := by decide +kernel
theorem own_d_pick_7 : decode method_2_code 7 = .ok (.areturn, 1) := by decide +kernel
theorem own_d_pick_8 : decode method_2_code 8 = .ok (.iload_n 0, 1) := by decide +kernel
theorem own_d_pick_9 : decode method_2_code 9 = .ok (.iconst 1, 1) := by decide +kernel
theorem own_d_pick_10 : decode method_2_code 10 = .ok (.if_icmp .ne 7, 3) := by decide +kernel
theorem own_d_pick_13 : decode method_2_code 13 = .ok (.getstatic 13, 3) := by decide +kernel
theorem own_d_pick_16 : decode method_2_code 16 = .ok (.areturn, 1) := by decide +kernel
theorem own_d_pick_17 : decode method_2_code 17 = .ok (.getstatic 16, 3) := by decide +kernel
theorem own_d_pick_20 : decode method_2_code 20 = .ok (.areturn, 1) := by decide +kernel
def F_pick (p0 : Int32) (w_TRUE : Addr) (w_FALSE : Addr) (w_UNKNOWN : Addr) : Addr := (if p0 = (0 : Int32) then w_FALSE else (if p0 = (1 : Int32) then w_UNKNOWN else w_TRUE))
theorem own_ef_pick (m : MethodId) (p0 : Int32) : entryFrame m #[(.int p0)] 1 = mkF m 0 #[.val (.int p0)] [] := by first | (simp [entryFrame, mkF, argsToLocals, Value.category]; done) | rfl
def Q_pick (Z : State) (p0 : Int32) (w_TRUE : Addr) (w_FALSE : Addr) (w_UNKNOWN : Addr) (h0 : Heap) (n0 : Nat) (v : Option Value) (h : Heap) (L : List Loc) : Prop := v = some (.ref (F_pick p0 w_TRUE w_FALSE w_UNKNOWN)) ∧ Fr n0 L ∧ h = h0
set_option maxRecDepth 65536 in
set_option maxHeartbeats 40000000 in
theorem rm_pick (l : Launch) (Z : State) (a0' : Array Value) (hw : ∀ d ∈ tables_1, d.before a0' Z = true) (ws : List Jvm.Cond) (p0 : Int32) (w_TRUE : Addr) (w_FALSE : Addr) (w_UNKNOWN : Addr) (h0 : Heap) (n0 : Nat) (Z0 : n0 ≤ h0.size) (S_TRUE : Sta Z h0 "com/example/gard/gard/core/Truth" "TRUE" "Lcom/example/gard/gard/core/Truth;" (.ref w_TRUE)) (S_FALSE : Sta Z h0 "com/example/gard/gard/core/Truth" "FALSE" "Lcom/example/gard/gard/core/Truth;" (.ref w_FALSE)) (S_UNKNOWN : Sta Z h0 "com/example/gard/gard/core/Truth" "UNKNOWN" "Lcom/example/gard/gard/core/Truth;" (.ref w_UNKNOWN)) :
    MetFree l (⟨"com/example/gard/gard/core/TruthOrPinLaw", "pick", "(I)Lcom/example/gard/gard/core/Truth;"⟩ : MethodName) (head1 (Jvm.Cond.code (⟨"com/example/gard/gard/core/TruthOrPinLaw", "pick", "(I)Lcom/example/gard/gard/core/Truth;"⟩ : MethodName) method_2_code 1 (some (.object "com/example/gard/gard/core/Truth")) :: ws) ({ frames := 0, cells := 0, slots := 0, locals := 0 } : Room)) (fun a U => a = #[(.int p0)] ∧ Z.Warmed39 U.vm ∧ U.heap = h0) (fun _ _ _ _ _ => True) (fun _ U o U' => ∃ v L, o = .returned v ∧ Q_pick Z p0 w_TRUE w_FALSE w_UNKNOWN h0 n0 v U'.heap L ∧ FrameEnd U o U' L ({ frames := 0, cells := 0, slots := 0, locals := 0 } : Room).cells ({ frames := 0, cells := 0, slots := 0, locals := 0 } : Room).slots) := by
  refine MetFree.of_bodySF (plainFor_of_name own_pn0) hisR ?_
  intro p e s m args below meth c s₁ Bd hml0 hP hK
  obtain ⟨rfl, hZ, hh⟩ := hP
  have hx := Bd.exec
  have hby := Bd.bytes
  have hml : c.maxLocals = 1 := hml0
  have hown : s.vm.findClass "com/example/gard/gard/core/TruthOrPinLaw" = some m.cls := findClass_of_methodNamed Bd.named
  have hnm := (name_of_methodNamed Bd.named Bd.method).1
  have X0 : Stand p l e ({ frames := 0, cells := 0, slots := 0, locals := 0 } : Room) s m #[(.int p0)] below meth c s₁ [] 0 0 := Stand.of_body Bd
  have e0 : s₁.heap = h0 := by rw [← hh, Bd.state]; rfl
  have N0 := Fr.nil n0
  have pre0 : ∀ t, Steps p.tables e below (s₁.setTop (mkF m 0 #[.val (.int p0)] [])) t → Steps p.tables e below (s₁.setTop (entryFrame m #[(.int p0)] 1)) t := fun t k => castTop (own_ef_pick m p0) k
  have pre2 : ∀ t, Steps p.tables e below (s₁.setTop (mkF m 1 #[.val (.int p0)] [(.int p0)])) t → Steps p.tables e below (s₁.setTop (entryFrame m #[(.int p0)] 1)) t := fun t k => pre0 t (by
    show Steps p.tables e below (s₁.setTop (mkF m 0 #[.val (.int p0)] [])) _
    refine XS.iloadN X0.here hx rfl (hb hby own_d_pick_0) rfl ?_
    exact k)
  by_cases hc1_1 : p0 = (0 : Int32)
  · obtain ⟨T3, X3, e3, st3⟩ := getS2 X0 hx hZ hown (host := "") (Or.inl (hw _ (List.mem_of_getElem? (i := 5) rfl))) Via.refl e0 S_FALSE (g := (mkF m 4 #[.val (.int p0)] [])) rfl (hb hby own_d_pick_4)
    obtain ⟨fs, hr, hrun, hended, hW, hsame⟩ := X3.leave (v := some (.ref w_FALSE)) (fun h => by rw [Bd.returns] at h; cases h)
    refine ⟨_, _, pre2 _ ?_, hrun, hended, _, _, rfl, ?_, ⟨_, rfl⟩, hW, hsame.mono (by decide) (by decide)⟩
    · show Steps p.tables e below (s₁.setTop (mkF m 1 #[.val (.int p0)] [(.int p0)])) _
      refine XS.ifNo X0.here hx rfl (hb hby own_d_pick_1) rfl ((if0 _ _).trans (teq hc1_1).2) ?_
      show Steps p.tables e below (s₁.setTop (mkF m 4 #[.val (.int p0)] [])) _
      refine st3 _ ?_
      show Steps p.tables e below (T3.setTop (mkF m 7 #[.val (.int p0)] [(.ref w_FALSE)])) _
      exact own_retA X3 hx Bd.returns rfl rfl rfl (hb hby own_d_pick_7) hr
    · show Q_pick Z p0 w_TRUE w_FALSE w_UNKNOWN h0 n0 _ T3.heap _
      refine ⟨?_, N0, e3⟩
      rw [F_pick, if_pos hc1_1]
  · have pre5 : ∀ t, Steps p.tables e below (s₁.setTop (mkF m 10 #[.val (.int p0)] [(.int (1 : Int32)), (.int p0)])) t → Steps p.tables e below (s₁.setTop (entryFrame m #[(.int p0)] 1)) t := fun t k => pre2 t (by
      show Steps p.tables e below (s₁.setTop (mkF m 1 #[.val (.int p0)] [(.int p0)])) _
      refine XS.ifYes X0.here hx rfl (pc0 := 1) (pc' := 8) rfl (hb hby own_d_pick_1) rfl ((if0 _ _).trans (feq hc1_1).2) (by decide) (by decide) ?_
      show Steps p.tables e below (s₁.setTop (mkF m 8 #[.val (.int p0)] [])) _
      refine XS.iloadN X0.here hx rfl (hb hby own_d_pick_8) rfl ?_
      show Steps p.tables e below (s₁.setTop (mkF m 9 #[.val (.int p0)] [(.int p0)])) _
      refine XS.iconst X0.here hx rfl (hb hby own_d_pick_9) ?_
      exact k)
    by_cases hc10_4 : p0 = (1 : Int32)
    · obtain ⟨T6, X6, e6, st6⟩ := getS2 X0 hx hZ hown (host := "") (Or.inl (hw _ (List.mem_of_getElem? (i := 24) rfl))) Via.refl e0 S_UNKNOWN (g := (mkF m 13 #[.val (.int p0)] [])) rfl (hb hby own_d_pick_13)
      obtain ⟨fs, hr, hrun, hended, hW, hsame⟩ := X6.leave (v := some (.ref w_UNKNOWN)) (fun h => by rw [Bd.returns] at h; cases h)
      refine ⟨_, _, pre5 _ ?_, hrun, hended, _, _, rfl, ?_, ⟨_, rfl⟩, hW, hsame.mono (by decide) (by decide)⟩
      · show Steps p.tables e below (s₁.setTop (mkF m 10 #[.val (.int p0)] [(.int (1 : Int32)), (.int p0)])) _
        refine XS.icmpNo X0.here hx rfl (hb hby own_d_pick_10) rfl (teq hc10_4).2 ?_
        show Steps p.tables e below (s₁.setTop (mkF m 13 #[.val (.int p0)] [])) _
        refine st6 _ ?_
        show Steps p.tables e below (T6.setTop (mkF m 16 #[.val (.int p0)] [(.ref w_UNKNOWN)])) _
        exact own_retA X6 hx Bd.returns rfl rfl rfl (hb hby own_d_pick_16) hr
      · show Q_pick Z p0 w_TRUE w_FALSE w_UNKNOWN h0 n0 _ T6.heap _
        refine ⟨?_, N0, e6⟩
        rw [F_pick, if_neg hc1_1, if_pos hc10_4]
    · obtain ⟨T7, X7, e7, st7⟩ := getS2 X0 hx hZ hown (host := "") (Or.inl (hw _ (List.mem_of_getElem? (i := 23) rfl))) Via.refl e0 S_TRUE (g := (mkF m 17 #[.val (.int p0)] [])) rfl (hb hby own_d_pick_17)
      obtain ⟨fs, hr, hrun, hended, hW, hsame⟩ := X7.leave (v := some (.ref w_TRUE)) (fun h => by rw [Bd.returns] at h; cases h)
      refine ⟨_, _, pre5 _ ?_, hrun, hended, _, _, rfl, ?_, ⟨_, rfl⟩, hW, hsame.mono (by decide) (by decide)⟩
      · show Steps p.tables e below (s₁.setTop (mkF m 10 #[.val (.int p0)] [(.int (1 : Int32)), (.int p0)])) _
        refine XS.icmpYes X0.here hx rfl (pc0 := 10) (pc' := 17) rfl (hb hby own_d_pick_10) rfl (feq hc10_4).2 (by decide) (by decide) ?_
        show Steps p.tables e below (s₁.setTop (mkF m 17 #[.val (.int p0)] [])) _
        refine st7 _ ?_
        show Steps p.tables e below (T7.setTop (mkF m 20 #[.val (.int p0)] [(.ref w_TRUE)])) _
        exact own_retA X7 hx Bd.returns rfl rfl rfl (hb hby own_d_pick_20) hr
      · show Q_pick Z p0 w_TRUE w_FALSE w_UNKNOWN h0 n0 _ T7.heap _
        refine ⟨?_, N0, e7⟩
        rw [F_pick, if_neg hc1_1, if_neg hc10_4]
theorem own_pn1 : plainName "com/example/gard/gard/core/Truth" = true := by first | (simp [plainName, overriddenIn]; done) | decide +kernel
theorem own_d_disj_0 : decode prog_57_method_7_code 0 = .ok (.aload_n 0, 1) := by decide +kernel
theorem own_d_disj_1 : decode prog_57_method_7_code 1 = .ok (.getstatic 3, 3) := by decide +kernel
theorem own_d_disj_4 : decode prog_57_method_7_code 4 = .ok (.if_acmp .eq 10, 3) := by decide +kernel
theorem own_d_disj_14 : decode prog_57_method_7_code 14 = .ok (.getstatic 3, 3) := by decide +kernel
theorem own_d_disj_17 : decode prog_57_method_7_code 17 = .ok (.astore_n 2, 1) := by decide +kernel
theorem own_d_disj_18 : decode prog_57_method_7_code 18 = .ok (.goto 27, 3) := by decide +kernel
theorem own_d_disj_45 : decode prog_57_method_7_code 45 = .ok (.aload_n 2, 1) := by decide +kernel
theorem own_d_disj_46 : decode prog_57_method_7_code 46 = .ok (.areturn, 1) := by decide +kernel
theorem own_d_disj_7 : decode prog_57_method_7_code 7 = .ok (.aload_n 1, 1) := by decide +kernel
theorem own_d_disj_8 : decode prog_57_method_7_code 8 = .ok (.getstatic 3, 3) := by decide +kernel
theorem own_d_disj_11 : decode prog_57_method_7_code 11 = .ok (.if_acmp .ne 10, 3) := by decide +kernel
theorem own_d_disj_21 : decode prog_57_method_7_code 21 = .ok (.aload_n 0, 1) := by decide +kernel
theorem own_d_disj_22 : decode prog_57_method_7_code 22 = .ok (.getstatic 7, 3) := by decide +kernel
theorem own_d_disj_25 : decode prog_57_method_7_code 25 = .ok (.if_acmp .ne 16, 3) := by decide +kernel
theorem own_d_disj_28 : decode prog_57_method_7_code 28 = .ok (.aload_n 1, 1) := by decide +kernel
theorem own_d_disj_29 : decode prog_57_method_7_code 29 = .ok (.getstatic 7, 3) := by decide +kernel
theorem own_d_disj_32 : decode prog_57_method_7_code 32 = .ok (.if_acmp .ne 9, 3) := by decide +kernel
theorem own_d_disj_35 : decode prog_57_method_7_code 35 = .ok (.getstatic 7, 3) := by decide +kernel
theorem own_d_disj_38 : decode prog_57_method_7_code 38 = .ok (.goto 6, 3) := by decide +kernel
theorem own_d_disj_44 : decode prog_57_method_7_code 44 = .ok (.astore_n 2, 1) := by decide +kernel
theorem own_d_disj_41 : decode prog_57_method_7_code 41 = .ok (.getstatic 10, 3) := by decide +kernel
def F_disj (a0 : Addr) (a1 : Addr) (w_TRUE : Addr) (w_FALSE : Addr) (w_UNKNOWN : Addr) : Addr := (if a0 = w_TRUE then w_TRUE else (if a1 = w_TRUE then w_TRUE else (if a0 = w_FALSE then (if a1 = w_FALSE then w_FALSE else w_UNKNOWN) else w_UNKNOWN)))
theorem own_ef_disj (m : MethodId) (a0 : Addr) (a1 : Addr) : entryFrame m #[(.ref a0), (.ref a1)] 3 = mkF m 0 #[.val (.ref a0), .val (.ref a1), .unset] [] := by first | (simp [entryFrame, mkF, argsToLocals, Value.category]; done) | rfl
def Q_disj (Z : State) (a0 : Addr) (a1 : Addr) (w_TRUE : Addr) (w_FALSE : Addr) (w_UNKNOWN : Addr) (h0 : Heap) (n0 : Nat) (v : Option Value) (h : Heap) (L : List Loc) : Prop := v = some (.ref (F_disj a0 a1 w_TRUE w_FALSE w_UNKNOWN)) ∧ Fr n0 L ∧ h = h0
set_option maxRecDepth 65536 in
set_option maxHeartbeats 40000000 in
theorem rm_disj (l : Launch) (Z : State) (a0' : Array Value) (hw : ∀ d ∈ tables_1, d.before a0' Z = true) (ws : List Jvm.Cond) (a0 : Addr) (a1 : Addr) (w_TRUE : Addr) (w_FALSE : Addr) (w_UNKNOWN : Addr) (h0 : Heap) (n0 : Nat) (Z0 : n0 ≤ h0.size) (S_TRUE : Sta Z h0 "com/example/gard/gard/core/Truth" "TRUE" "Lcom/example/gard/gard/core/Truth;" (.ref w_TRUE)) (S_FALSE : Sta Z h0 "com/example/gard/gard/core/Truth" "FALSE" "Lcom/example/gard/gard/core/Truth;" (.ref w_FALSE)) (S_UNKNOWN : Sta Z h0 "com/example/gard/gard/core/Truth" "UNKNOWN" "Lcom/example/gard/gard/core/Truth;" (.ref w_UNKNOWN)) :
    MetFree l (⟨"com/example/gard/gard/core/Truth", "or", "(Lcom/example/gard/gard/core/Truth;)Lcom/example/gard/gard/core/Truth;"⟩ : MethodName) (head1 (Jvm.Cond.code (⟨"com/example/gard/gard/core/Truth", "or", "(Lcom/example/gard/gard/core/Truth;)Lcom/example/gard/gard/core/Truth;"⟩ : MethodName) prog_57_method_7_code 3 (some (.object "com/example/gard/gard/core/Truth")) :: ws) ({ frames := 0, cells := 0, slots := 0, locals := 0 } : Room)) (fun a U => a = #[(.ref a0), (.ref a1)] ∧ Z.Warmed39 U.vm ∧ U.heap = h0) (fun _ _ _ _ _ => True) (fun _ U o U' => ∃ v L, o = .returned v ∧ Q_disj Z a0 a1 w_TRUE w_FALSE w_UNKNOWN h0 n0 v U'.heap L ∧ FrameEnd U o U' L ({ frames := 0, cells := 0, slots := 0, locals := 0 } : Room).cells ({ frames := 0, cells := 0, slots := 0, locals := 0 } : Room).slots) := by
  refine MetFree.of_bodySF (plainFor_of_name own_pn1) hisR ?_
  intro p e s m args below meth c s₁ Bd hml0 hP hK
  obtain ⟨rfl, hZ, hh⟩ := hP
  have hx := Bd.exec
  have hby := Bd.bytes
  have hml : c.maxLocals = 3 := hml0
  have hown : s.vm.findClass "com/example/gard/gard/core/Truth" = some m.cls := findClass_of_methodNamed Bd.named
  have hnm := (name_of_methodNamed Bd.named Bd.method).1
  have X0 : Stand p l e ({ frames := 0, cells := 0, slots := 0, locals := 0 } : Room) s m #[(.ref a0), (.ref a1)] below meth c s₁ [] 0 0 := Stand.of_body Bd
  have e0 : s₁.heap = h0 := by rw [← hh, Bd.state]; rfl
  have N0 := Fr.nil n0
  have pre0 : ∀ t, Steps p.tables e below (s₁.setTop (mkF m 0 #[.val (.ref a0), .val (.ref a1), .unset] [])) t → Steps p.tables e below (s₁.setTop (entryFrame m #[(.ref a0), (.ref a1)] 3)) t := fun t k => castTop (own_ef_disj m a0 a1) k
  obtain ⟨T8, X8, e8, st8⟩ := getS2 X0 hx hZ hown (host := "") (Or.inl (hw _ (List.mem_of_getElem? (i := 13) rfl))) Via.refl e0 S_TRUE (g := (mkF m 1 #[.val (.ref a0), .val (.ref a1), .unset] [(.ref a0)])) rfl (hb hby own_d_disj_1)
  have pre10 : ∀ t, Steps p.tables e below (T8.setTop (mkF m 4 #[.val (.ref a0), .val (.ref a1), .unset] [(.ref w_TRUE), (.ref a0)])) t → Steps p.tables e below (s₁.setTop (entryFrame m #[(.ref a0), (.ref a1)] 3)) t := fun t k => pre0 t (by
    show Steps p.tables e below (s₁.setTop (mkF m 0 #[.val (.ref a0), .val (.ref a1), .unset] [])) _
    refine XS.aloadN X0.here hx rfl (hb hby own_d_disj_0) rfl rfl ?_
    show Steps p.tables e below (s₁.setTop (mkF m 1 #[.val (.ref a0), .val (.ref a1), .unset] [(.ref a0)])) _
    refine st8 _ ?_
    exact k)
  by_cases hc4_9 : a0 = w_TRUE
  · obtain ⟨T11, X11, e11, st11⟩ := getS2 X8 hx hZ hown (host := "") (Or.inl (hw _ (List.mem_of_getElem? (i := 13) rfl))) Via.refl e8 S_TRUE (g := (mkF m 14 #[.val (.ref a0), .val (.ref a1), .unset] [])) rfl (hb hby own_d_disj_14)
    obtain ⟨fs, hr, hrun, hended, hW, hsame⟩ := X11.leave (v := some (.ref w_TRUE)) (fun h => by rw [Bd.returns] at h; cases h)
    refine ⟨_, _, pre10 _ ?_, hrun, hended, _, _, rfl, ?_, ⟨_, rfl⟩, hW, hsame.mono (by decide) (by decide)⟩
    · show Steps p.tables e below (T8.setTop (mkF m 4 #[.val (.ref a0), .val (.ref a1), .unset] [(.ref w_TRUE), (.ref a0)])) _
      refine Jvm.RoadKit.acmp (g := (mkF m 4 #[.val (.ref a0), .val (.ref a1), .unset] [(.ref w_TRUE), (.ref a0)])) X8 hx rfl rfl rfl (pc0 := 4) (pc' := 14) (same := true) rfl (hb hby own_d_disj_4) rfl (decide_eq_true (congrArg Value.ref hc4_9)) (by decide) (by decide) ?_
      show Steps p.tables e below (T8.setTop (mkF m 14 #[.val (.ref a0), .val (.ref a1), .unset] [])) _
      refine st11 _ ?_
      show Steps p.tables e below (T11.setTop (mkF m 17 #[.val (.ref a0), .val (.ref a1), .unset] [(.ref w_TRUE)])) _
      refine XS.astoreN X11.here hx rfl (hb hby own_d_disj_17) rfl rfl (l' := #[.val (.ref a0), .val (.ref a1), .val (.ref w_TRUE)]) rfl ?_
      show Steps p.tables e below (T11.setTop (mkF m 18 #[.val (.ref a0), .val (.ref a1), .val (.ref w_TRUE)] [])) _
      refine XS.goto X11.here hx rfl (pc0 := 18) (pc' := 45) rfl (hb hby own_d_disj_18) (by decide) (by decide) ?_
      show Steps p.tables e below (T11.setTop (mkF m 45 #[.val (.ref a0), .val (.ref a1), .val (.ref w_TRUE)] [])) _
      refine XS.aloadN X11.here hx rfl (hb hby own_d_disj_45) rfl rfl ?_
      show Steps p.tables e below (T11.setTop (mkF m 46 #[.val (.ref a0), .val (.ref a1), .val (.ref w_TRUE)] [(.ref w_TRUE)])) _
      exact own_retA X11 hx Bd.returns rfl rfl rfl (hb hby own_d_disj_46) hr
    · show Q_disj Z a0 a1 w_TRUE w_FALSE w_UNKNOWN h0 n0 _ T11.heap _
      refine ⟨?_, N0, e11⟩
      rw [F_disj, if_pos hc4_9]
  · obtain ⟨T12, X12, e12, st12⟩ := getS2 X8 hx hZ hown (host := "") (Or.inl (hw _ (List.mem_of_getElem? (i := 13) rfl))) Via.refl e8 S_TRUE (g := (mkF m 8 #[.val (.ref a0), .val (.ref a1), .unset] [(.ref a1)])) rfl (hb hby own_d_disj_8)
    have pre14 : ∀ t, Steps p.tables e below (T12.setTop (mkF m 11 #[.val (.ref a0), .val (.ref a1), .unset] [(.ref w_TRUE), (.ref a1)])) t → Steps p.tables e below (s₁.setTop (entryFrame m #[(.ref a0), (.ref a1)] 3)) t := fun t k => pre10 t (by
      show Steps p.tables e below (T8.setTop (mkF m 4 #[.val (.ref a0), .val (.ref a1), .unset] [(.ref w_TRUE), (.ref a0)])) _
      refine Jvm.RoadKit.acmp (g := (mkF m 4 #[.val (.ref a0), .val (.ref a1), .unset] [(.ref w_TRUE), (.ref a0)])) X8 hx rfl rfl rfl (pc0 := 4) (pc' := 7) (same := false) rfl (hb hby own_d_disj_4) rfl (decide_eq_false fun q => hc4_9 (Value.ref.inj q)) (by decide) (by decide) ?_
      show Steps p.tables e below (T8.setTop (mkF m 7 #[.val (.ref a0), .val (.ref a1), .unset] [])) _
      refine XS.aloadN X8.here hx rfl (hb hby own_d_disj_7) rfl rfl ?_
      show Steps p.tables e below (T8.setTop (mkF m 8 #[.val (.ref a0), .val (.ref a1), .unset] [(.ref a1)])) _
      refine st12 _ ?_
      exact k)
    by_cases hc11_13 : a1 = w_TRUE
    · obtain ⟨T15, X15, e15, st15⟩ := getS2 X12 hx hZ hown (host := "") (Or.inl (hw _ (List.mem_of_getElem? (i := 13) rfl))) Via.refl e12 S_TRUE (g := (mkF m 14 #[.val (.ref a0), .val (.ref a1), .unset] [])) rfl (hb hby own_d_disj_14)
      obtain ⟨fs, hr, hrun, hended, hW, hsame⟩ := X15.leave (v := some (.ref w_TRUE)) (fun h => by rw [Bd.returns] at h; cases h)
      refine ⟨_, _, pre14 _ ?_, hrun, hended, _, _, rfl, ?_, ⟨_, rfl⟩, hW, hsame.mono (by decide) (by decide)⟩
      · show Steps p.tables e below (T12.setTop (mkF m 11 #[.val (.ref a0), .val (.ref a1), .unset] [(.ref w_TRUE), (.ref a1)])) _
        refine Jvm.RoadKit.acmp (g := (mkF m 11 #[.val (.ref a0), .val (.ref a1), .unset] [(.ref w_TRUE), (.ref a1)])) X12 hx rfl rfl rfl (pc0 := 11) (pc' := 14) (same := true) rfl (hb hby own_d_disj_11) rfl (decide_eq_true (congrArg Value.ref hc11_13)) (by decide) (by decide) ?_
        show Steps p.tables e below (T12.setTop (mkF m 14 #[.val (.ref a0), .val (.ref a1), .unset] [])) _
        refine st15 _ ?_
        show Steps p.tables e below (T15.setTop (mkF m 17 #[.val (.ref a0), .val (.ref a1), .unset] [(.ref w_TRUE)])) _
        refine XS.astoreN X15.here hx rfl (hb hby own_d_disj_17) rfl rfl (l' := #[.val (.ref a0), .val (.ref a1), .val (.ref w_TRUE)]) rfl ?_
        show Steps p.tables e below (T15.setTop (mkF m 18 #[.val (.ref a0), .val (.ref a1), .val (.ref w_TRUE)] [])) _
        refine XS.goto X15.here hx rfl (pc0 := 18) (pc' := 45) rfl (hb hby own_d_disj_18) (by decide) (by decide) ?_
        show Steps p.tables e below (T15.setTop (mkF m 45 #[.val (.ref a0), .val (.ref a1), .val (.ref w_TRUE)] [])) _
        refine XS.aloadN X15.here hx rfl (hb hby own_d_disj_45) rfl rfl ?_
        show Steps p.tables e below (T15.setTop (mkF m 46 #[.val (.ref a0), .val (.ref a1), .val (.ref w_TRUE)] [(.ref w_TRUE)])) _
        exact own_retA X15 hx Bd.returns rfl rfl rfl (hb hby own_d_disj_46) hr
      · show Q_disj Z a0 a1 w_TRUE w_FALSE w_UNKNOWN h0 n0 _ T15.heap _
        refine ⟨?_, N0, e15⟩
        rw [F_disj, if_neg hc4_9, if_pos hc11_13]
    · obtain ⟨T16, X16, e16, st16⟩ := getS2 X12 hx hZ hown (host := "") (Or.inl (hw _ (List.mem_of_getElem? (i := 15) rfl))) Via.refl e12 S_FALSE (g := (mkF m 22 #[.val (.ref a0), .val (.ref a1), .unset] [(.ref a0)])) rfl (hb hby own_d_disj_22)
      have pre18 : ∀ t, Steps p.tables e below (T16.setTop (mkF m 25 #[.val (.ref a0), .val (.ref a1), .unset] [(.ref w_FALSE), (.ref a0)])) t → Steps p.tables e below (s₁.setTop (entryFrame m #[(.ref a0), (.ref a1)] 3)) t := fun t k => pre14 t (by
        show Steps p.tables e below (T12.setTop (mkF m 11 #[.val (.ref a0), .val (.ref a1), .unset] [(.ref w_TRUE), (.ref a1)])) _
        refine Jvm.RoadKit.acmp (g := (mkF m 11 #[.val (.ref a0), .val (.ref a1), .unset] [(.ref w_TRUE), (.ref a1)])) X12 hx rfl rfl rfl (pc0 := 11) (pc' := 21) (same := false) rfl (hb hby own_d_disj_11) rfl (decide_eq_false fun q => hc11_13 (Value.ref.inj q)) (by decide) (by decide) ?_
        show Steps p.tables e below (T12.setTop (mkF m 21 #[.val (.ref a0), .val (.ref a1), .unset] [])) _
        refine XS.aloadN X12.here hx rfl (hb hby own_d_disj_21) rfl rfl ?_
        show Steps p.tables e below (T12.setTop (mkF m 22 #[.val (.ref a0), .val (.ref a1), .unset] [(.ref a0)])) _
        refine st16 _ ?_
        exact k)
      by_cases hc25_17 : a0 = w_FALSE
      · obtain ⟨T19, X19, e19, st19⟩ := getS2 X16 hx hZ hown (host := "") (Or.inl (hw _ (List.mem_of_getElem? (i := 15) rfl))) Via.refl e16 S_FALSE (g := (mkF m 29 #[.val (.ref a0), .val (.ref a1), .unset] [(.ref a1)])) rfl (hb hby own_d_disj_29)
        have pre21 : ∀ t, Steps p.tables e below (T19.setTop (mkF m 32 #[.val (.ref a0), .val (.ref a1), .unset] [(.ref w_FALSE), (.ref a1)])) t → Steps p.tables e below (s₁.setTop (entryFrame m #[(.ref a0), (.ref a1)] 3)) t := fun t k => pre18 t (by
          show Steps p.tables e below (T16.setTop (mkF m 25 #[.val (.ref a0), .val (.ref a1), .unset] [(.ref w_FALSE), (.ref a0)])) _
          refine Jvm.RoadKit.acmp (g := (mkF m 25 #[.val (.ref a0), .val (.ref a1), .unset] [(.ref w_FALSE), (.ref a0)])) X16 hx rfl rfl rfl (pc0 := 25) (pc' := 28) (same := true) rfl (hb hby own_d_disj_25) rfl (decide_eq_true (congrArg Value.ref hc25_17)) (by decide) (by decide) ?_
          show Steps p.tables e below (T16.setTop (mkF m 28 #[.val (.ref a0), .val (.ref a1), .unset] [])) _
          refine XS.aloadN X16.here hx rfl (hb hby own_d_disj_28) rfl rfl ?_
          show Steps p.tables e below (T16.setTop (mkF m 29 #[.val (.ref a0), .val (.ref a1), .unset] [(.ref a1)])) _
          refine st19 _ ?_
          exact k)
        by_cases hc32_20 : a1 = w_FALSE
        · obtain ⟨T22, X22, e22, st22⟩ := getS2 X19 hx hZ hown (host := "") (Or.inl (hw _ (List.mem_of_getElem? (i := 15) rfl))) Via.refl e19 S_FALSE (g := (mkF m 35 #[.val (.ref a0), .val (.ref a1), .unset] [])) rfl (hb hby own_d_disj_35)
          obtain ⟨fs, hr, hrun, hended, hW, hsame⟩ := X22.leave (v := some (.ref w_FALSE)) (fun h => by rw [Bd.returns] at h; cases h)
          refine ⟨_, _, pre21 _ ?_, hrun, hended, _, _, rfl, ?_, ⟨_, rfl⟩, hW, hsame.mono (by decide) (by decide)⟩
          · show Steps p.tables e below (T19.setTop (mkF m 32 #[.val (.ref a0), .val (.ref a1), .unset] [(.ref w_FALSE), (.ref a1)])) _
            refine Jvm.RoadKit.acmp (g := (mkF m 32 #[.val (.ref a0), .val (.ref a1), .unset] [(.ref w_FALSE), (.ref a1)])) X19 hx rfl rfl rfl (pc0 := 32) (pc' := 35) (same := true) rfl (hb hby own_d_disj_32) rfl (decide_eq_true (congrArg Value.ref hc32_20)) (by decide) (by decide) ?_
            show Steps p.tables e below (T19.setTop (mkF m 35 #[.val (.ref a0), .val (.ref a1), .unset] [])) _
            refine st22 _ ?_
            show Steps p.tables e below (T22.setTop (mkF m 38 #[.val (.ref a0), .val (.ref a1), .unset] [(.ref w_FALSE)])) _
            refine XS.goto X22.here hx rfl (pc0 := 38) (pc' := 44) rfl (hb hby own_d_disj_38) (by decide) (by decide) ?_
            show Steps p.tables e below (T22.setTop (mkF m 44 #[.val (.ref a0), .val (.ref a1), .unset] [(.ref w_FALSE)])) _
            refine XS.astoreN X22.here hx rfl (hb hby own_d_disj_44) rfl rfl (l' := #[.val (.ref a0), .val (.ref a1), .val (.ref w_FALSE)]) rfl ?_
            show Steps p.tables e below (T22.setTop (mkF m 45 #[.val (.ref a0), .val (.ref a1), .val (.ref w_FALSE)] [])) _
            refine XS.aloadN X22.here hx rfl (hb hby own_d_disj_45) rfl rfl ?_
            show Steps p.tables e below (T22.setTop (mkF m 46 #[.val (.ref a0), .val (.ref a1), .val (.ref w_FALSE)] [(.ref w_FALSE)])) _
            exact own_retA X22 hx Bd.returns rfl rfl rfl (hb hby own_d_disj_46) hr
          · show Q_disj Z a0 a1 w_TRUE w_FALSE w_UNKNOWN h0 n0 _ T22.heap _
            refine ⟨?_, N0, e22⟩
            rw [F_disj, if_neg hc4_9, if_neg hc11_13, if_pos hc25_17, if_pos hc32_20]
        · obtain ⟨T23, X23, e23, st23⟩ := getS2 X19 hx hZ hown (host := "") (Or.inl (hw _ (List.mem_of_getElem? (i := 26) rfl))) Via.refl e19 S_UNKNOWN (g := (mkF m 41 #[.val (.ref a0), .val (.ref a1), .unset] [])) rfl (hb hby own_d_disj_41)
          obtain ⟨fs, hr, hrun, hended, hW, hsame⟩ := X23.leave (v := some (.ref w_UNKNOWN)) (fun h => by rw [Bd.returns] at h; cases h)
          refine ⟨_, _, pre21 _ ?_, hrun, hended, _, _, rfl, ?_, ⟨_, rfl⟩, hW, hsame.mono (by decide) (by decide)⟩
          · show Steps p.tables e below (T19.setTop (mkF m 32 #[.val (.ref a0), .val (.ref a1), .unset] [(.ref w_FALSE), (.ref a1)])) _
            refine Jvm.RoadKit.acmp (g := (mkF m 32 #[.val (.ref a0), .val (.ref a1), .unset] [(.ref w_FALSE), (.ref a1)])) X19 hx rfl rfl rfl (pc0 := 32) (pc' := 41) (same := false) rfl (hb hby own_d_disj_32) rfl (decide_eq_false fun q => hc32_20 (Value.ref.inj q)) (by decide) (by decide) ?_
            show Steps p.tables e below (T19.setTop (mkF m 41 #[.val (.ref a0), .val (.ref a1), .unset] [])) _
            refine st23 _ ?_
            show Steps p.tables e below (T23.setTop (mkF m 44 #[.val (.ref a0), .val (.ref a1), .unset] [(.ref w_UNKNOWN)])) _
            refine XS.astoreN X23.here hx rfl (hb hby own_d_disj_44) rfl rfl (l' := #[.val (.ref a0), .val (.ref a1), .val (.ref w_UNKNOWN)]) rfl ?_
            show Steps p.tables e below (T23.setTop (mkF m 45 #[.val (.ref a0), .val (.ref a1), .val (.ref w_UNKNOWN)] [])) _
            refine XS.aloadN X23.here hx rfl (hb hby own_d_disj_45) rfl rfl ?_
            show Steps p.tables e below (T23.setTop (mkF m 46 #[.val (.ref a0), .val (.ref a1), .val (.ref w_UNKNOWN)] [(.ref w_UNKNOWN)])) _
            exact own_retA X23 hx Bd.returns rfl rfl rfl (hb hby own_d_disj_46) hr
          · show Q_disj Z a0 a1 w_TRUE w_FALSE w_UNKNOWN h0 n0 _ T23.heap _
            refine ⟨?_, N0, e23⟩
            rw [F_disj, if_neg hc4_9, if_neg hc11_13, if_pos hc25_17, if_neg hc32_20]
      · obtain ⟨T24, X24, e24, st24⟩ := getS2 X16 hx hZ hown (host := "") (Or.inl (hw _ (List.mem_of_getElem? (i := 26) rfl))) Via.refl e16 S_UNKNOWN (g := (mkF m 41 #[.val (.ref a0), .val (.ref a1), .unset] [])) rfl (hb hby own_d_disj_41)
        obtain ⟨fs, hr, hrun, hended, hW, hsame⟩ := X24.leave (v := some (.ref w_UNKNOWN)) (fun h => by rw [Bd.returns] at h; cases h)
        refine ⟨_, _, pre18 _ ?_, hrun, hended, _, _, rfl, ?_, ⟨_, rfl⟩, hW, hsame.mono (by decide) (by decide)⟩
        · show Steps p.tables e below (T16.setTop (mkF m 25 #[.val (.ref a0), .val (.ref a1), .unset] [(.ref w_FALSE), (.ref a0)])) _
          refine Jvm.RoadKit.acmp (g := (mkF m 25 #[.val (.ref a0), .val (.ref a1), .unset] [(.ref w_FALSE), (.ref a0)])) X16 hx rfl rfl rfl (pc0 := 25) (pc' := 41) (same := false) rfl (hb hby own_d_disj_25) rfl (decide_eq_false fun q => hc25_17 (Value.ref.inj q)) (by decide) (by decide) ?_
          show Steps p.tables e below (T16.setTop (mkF m 41 #[.val (.ref a0), .val (.ref a1), .unset] [])) _
          refine st24 _ ?_
          show Steps p.tables e below (T24.setTop (mkF m 44 #[.val (.ref a0), .val (.ref a1), .unset] [(.ref w_UNKNOWN)])) _
          refine XS.astoreN X24.here hx rfl (hb hby own_d_disj_44) rfl rfl (l' := #[.val (.ref a0), .val (.ref a1), .val (.ref w_UNKNOWN)]) rfl ?_
          show Steps p.tables e below (T24.setTop (mkF m 45 #[.val (.ref a0), .val (.ref a1), .val (.ref w_UNKNOWN)] [])) _
          refine XS.aloadN X24.here hx rfl (hb hby own_d_disj_45) rfl rfl ?_
          show Steps p.tables e below (T24.setTop (mkF m 46 #[.val (.ref a0), .val (.ref a1), .val (.ref w_UNKNOWN)] [(.ref w_UNKNOWN)])) _
          exact own_retA X24 hx Bd.returns rfl rfl rfl (hb hby own_d_disj_46) hr
        · show Q_disj Z a0 a1 w_TRUE w_FALSE w_UNKNOWN h0 n0 _ T24.heap _
          refine ⟨?_, N0, e24⟩
          rw [F_disj, if_neg hc4_9, if_neg hc11_13, if_neg hc25_17]
theorem own_d_rank_0 : decode method_3_code 0 = .ok (.aload_n 0, 1) := by decide +kernel
theorem own_d_rank_1 : decode method_3_code 1 = .ok (.getstatic 7, 3) := by decide +kernel
theorem own_d_rank_4 : decode method_3_code 4 = .ok (.if_acmp .ne 5, 3) := by decide +kernel
theorem own_d_rank_7 : decode method_3_code 7 = .ok (.iconst 0, 1) := by decide +kernel
theorem own_d_rank_8 : decode method_3_code 8 = .ok (.ireturn, 1) := by decide +kernel
theorem own_d_rank_9 : decode method_3_code 9 = .ok (.aload_n 0, 1) := by decide +kernel
theorem own_d_rank_10 : decode method_3_code 10 = .ok (.getstatic 13, 3) := by decide +kernel
theorem own_d_rank_13 : decode method_3_code 13 = .ok (.if_acmp .ne 5, 3) := by decide +kernel
theorem own_d_rank_16 : decode method_3_code 16 = .ok (.iconst 1, 1) := by decide +kernel
theorem own_d_rank_17 : decode method_3_code 17 = .ok (.ireturn, 1) := by decide +kernel
theorem own_d_rank_18 : decode method_3_code 18 = .ok (.aload_n 0, 1) := by decide +kernel
theorem own_d_rank_19 : decode method_3_code 19 = .ok (.getstatic 16, 3) := by decide +kernel
theorem own_d_rank_22 : decode method_3_code 22 = .ok (.if_acmp .ne 5, 3) := by decide +kernel
theorem own_d_rank_25 : decode method_3_code 25 = .ok (.iconst 2, 1) := by decide +kernel
theorem own_d_rank_26 : decode method_3_code 26 = .ok (.ireturn, 1) := by decide +kernel
theorem own_d_rank_27 : decode method_3_code 27 = .ok (.iconst (-1), 1) := by decide +kernel
theorem own_d_rank_28 : decode method_3_code 28 = .ok (.ireturn, 1) := by decide +kernel
def F_rank (a0 : Addr) (w_TRUE : Addr) (w_FALSE : Addr) (w_UNKNOWN : Addr) : Int32 := (if a0 = w_FALSE then (0 : Int32) else (if a0 = w_UNKNOWN then (1 : Int32) else (if a0 = w_TRUE then (2 : Int32) else (-1 : Int32))))
theorem own_ef_rank (m : MethodId) (a0 : Addr) : entryFrame m #[(.ref a0)] 1 = mkF m 0 #[.val (.ref a0)] [] := by first | (simp [entryFrame, mkF, argsToLocals, Value.category]; done) | rfl
def Q_rank (Z : State) (a0 : Addr) (w_TRUE : Addr) (w_FALSE : Addr) (w_UNKNOWN : Addr) (h0 : Heap) (n0 : Nat) (v : Option Value) (h : Heap) (L : List Loc) : Prop := v = some (.int (F_rank a0 w_TRUE w_FALSE w_UNKNOWN)) ∧ Fr n0 L ∧ h = h0
set_option maxRecDepth 65536 in
set_option maxHeartbeats 40000000 in
theorem rm_rank (l : Launch) (Z : State) (a0' : Array Value) (hw : ∀ d ∈ tables_1, d.before a0' Z = true) (ws : List Jvm.Cond) (a0 : Addr) (w_TRUE : Addr) (w_FALSE : Addr) (w_UNKNOWN : Addr) (h0 : Heap) (n0 : Nat) (Z0 : n0 ≤ h0.size) (S_TRUE : Sta Z h0 "com/example/gard/gard/core/Truth" "TRUE" "Lcom/example/gard/gard/core/Truth;" (.ref w_TRUE)) (S_FALSE : Sta Z h0 "com/example/gard/gard/core/Truth" "FALSE" "Lcom/example/gard/gard/core/Truth;" (.ref w_FALSE)) (S_UNKNOWN : Sta Z h0 "com/example/gard/gard/core/Truth" "UNKNOWN" "Lcom/example/gard/gard/core/Truth;" (.ref w_UNKNOWN)) :
    MetFree l (⟨"com/example/gard/gard/core/TruthOrPinLaw", "rank", "(Lcom/example/gard/gard/core/Truth;)I"⟩ : MethodName) (head1 (Jvm.Cond.code (⟨"com/example/gard/gard/core/TruthOrPinLaw", "rank", "(Lcom/example/gard/gard/core/Truth;)I"⟩ : MethodName) method_3_code 1 (some .int) :: ws) ({ frames := 0, cells := 0, slots := 0, locals := 0 } : Room)) (fun a U => a = #[(.ref a0)] ∧ Z.Warmed39 U.vm ∧ U.heap = h0) (fun _ _ _ _ _ => True) (fun _ U o U' => ∃ v L, o = .returned v ∧ Q_rank Z a0 w_TRUE w_FALSE w_UNKNOWN h0 n0 v U'.heap L ∧ FrameEnd U o U' L ({ frames := 0, cells := 0, slots := 0, locals := 0 } : Room).cells ({ frames := 0, cells := 0, slots := 0, locals := 0 } : Room).slots) := by
  refine MetFree.of_bodySF (plainFor_of_name own_pn0) hisR ?_
  intro p e s m args below meth c s₁ Bd hml0 hP hK
  obtain ⟨rfl, hZ, hh⟩ := hP
  have hx := Bd.exec
  have hby := Bd.bytes
  have hml : c.maxLocals = 1 := hml0
  have hown : s.vm.findClass "com/example/gard/gard/core/TruthOrPinLaw" = some m.cls := findClass_of_methodNamed Bd.named
  have hnm := (name_of_methodNamed Bd.named Bd.method).1
  have X0 : Stand p l e ({ frames := 0, cells := 0, slots := 0, locals := 0 } : Room) s m #[(.ref a0)] below meth c s₁ [] 0 0 := Stand.of_body Bd
  have e0 : s₁.heap = h0 := by rw [← hh, Bd.state]; rfl
  have N0 := Fr.nil n0
  have pre0 : ∀ t, Steps p.tables e below (s₁.setTop (mkF m 0 #[.val (.ref a0)] [])) t → Steps p.tables e below (s₁.setTop (entryFrame m #[(.ref a0)] 1)) t := fun t k => castTop (own_ef_rank m a0) k
  obtain ⟨T25, X25, e25, st25⟩ := getS2 X0 hx hZ hown (host := "") (Or.inl (hw _ (List.mem_of_getElem? (i := 5) rfl))) Via.refl e0 S_FALSE (g := (mkF m 1 #[.val (.ref a0)] [(.ref a0)])) rfl (hb hby own_d_rank_1)
  have pre27 : ∀ t, Steps p.tables e below (T25.setTop (mkF m 4 #[.val (.ref a0)] [(.ref w_FALSE), (.ref a0)])) t → Steps p.tables e below (s₁.setTop (entryFrame m #[(.ref a0)] 1)) t := fun t k => pre0 t (by
    show Steps p.tables e below (s₁.setTop (mkF m 0 #[.val (.ref a0)] [])) _
    refine XS.aloadN X0.here hx rfl (hb hby own_d_rank_0) rfl rfl ?_
    show Steps p.tables e below (s₁.setTop (mkF m 1 #[.val (.ref a0)] [(.ref a0)])) _
    refine st25 _ ?_
    exact k)
  by_cases hc4_26 : a0 = w_FALSE
  · obtain ⟨fs, hr, hrun, hended, hW, hsame⟩ := X25.leave (v := some (.int (0 : Int32))) (fun h => by rw [Bd.returns] at h; cases h)
    refine ⟨_, _, pre27 _ ?_, hrun, hended, _, _, rfl, ?_, ⟨_, rfl⟩, hW, hsame.mono (by decide) (by decide)⟩
    · show Steps p.tables e below (T25.setTop (mkF m 4 #[.val (.ref a0)] [(.ref w_FALSE), (.ref a0)])) _
      refine Jvm.RoadKit.acmp (g := (mkF m 4 #[.val (.ref a0)] [(.ref w_FALSE), (.ref a0)])) X25 hx rfl rfl rfl (pc0 := 4) (pc' := 7) (same := true) rfl (hb hby own_d_rank_4) rfl (decide_eq_true (congrArg Value.ref hc4_26)) (by decide) (by decide) ?_
      show Steps p.tables e below (T25.setTop (mkF m 7 #[.val (.ref a0)] [])) _
      refine XS.iconst X25.here hx rfl (hb hby own_d_rank_7) ?_
      show Steps p.tables e below (T25.setTop (mkF m 8 #[.val (.ref a0)] [(.int (0 : Int32))])) _
      exact own_retI X25 hx Bd.returns (hb hby own_d_rank_8) hr
    · show Q_rank Z a0 w_TRUE w_FALSE w_UNKNOWN h0 n0 _ T25.heap _
      refine ⟨?_, N0, e25⟩
      rw [F_rank, if_pos hc4_26]
  · obtain ⟨T28, X28, e28, st28⟩ := getS2 X25 hx hZ hown (host := "") (Or.inl (hw _ (List.mem_of_getElem? (i := 24) rfl))) Via.refl e25 S_UNKNOWN (g := (mkF m 10 #[.val (.ref a0)] [(.ref a0)])) rfl (hb hby own_d_rank_10)
    have pre30 : ∀ t, Steps p.tables e below (T28.setTop (mkF m 13 #[.val (.ref a0)] [(.ref w_UNKNOWN), (.ref a0)])) t → Steps p.tables e below (s₁.setTop (entryFrame m #[(.ref a0)] 1)) t := fun t k => pre27 t (by
      show Steps p.tables e below (T25.setTop (mkF m 4 #[.val (.ref a0)] [(.ref w_FALSE), (.ref a0)])) _
      refine Jvm.RoadKit.acmp (g := (mkF m 4 #[.val (.ref a0)] [(.ref w_FALSE), (.ref a0)])) X25 hx rfl rfl rfl (pc0 := 4) (pc' := 9) (same := false) rfl (hb hby own_d_rank_4) rfl (decide_eq_false fun q => hc4_26 (Value.ref.inj q)) (by decide) (by decide) ?_
      show Steps p.tables e below (T25.setTop (mkF m 9 #[.val (.ref a0)] [])) _
      refine XS.aloadN X25.here hx rfl (hb hby own_d_rank_9) rfl rfl ?_
      show Steps p.tables e below (T25.setTop (mkF m 10 #[.val (.ref a0)] [(.ref a0)])) _
      refine st28 _ ?_
      exact k)
    by_cases hc13_29 : a0 = w_UNKNOWN
    · obtain ⟨fs, hr, hrun, hended, hW, hsame⟩ := X28.leave (v := some (.int (1 : Int32))) (fun h => by rw [Bd.returns] at h; cases h)
      refine ⟨_, _, pre30 _ ?_, hrun, hended, _, _, rfl, ?_, ⟨_, rfl⟩, hW, hsame.mono (by decide) (by decide)⟩
      · show Steps p.tables e below (T28.setTop (mkF m 13 #[.val (.ref a0)] [(.ref w_UNKNOWN), (.ref a0)])) _
        refine Jvm.RoadKit.acmp (g := (mkF m 13 #[.val (.ref a0)] [(.ref w_UNKNOWN), (.ref a0)])) X28 hx rfl rfl rfl (pc0 := 13) (pc' := 16) (same := true) rfl (hb hby own_d_rank_13) rfl (decide_eq_true (congrArg Value.ref hc13_29)) (by decide) (by decide) ?_
        show Steps p.tables e below (T28.setTop (mkF m 16 #[.val (.ref a0)] [])) _
        refine XS.iconst X28.here hx rfl (hb hby own_d_rank_16) ?_
        show Steps p.tables e below (T28.setTop (mkF m 17 #[.val (.ref a0)] [(.int (1 : Int32))])) _
        exact own_retI X28 hx Bd.returns (hb hby own_d_rank_17) hr
      · show Q_rank Z a0 w_TRUE w_FALSE w_UNKNOWN h0 n0 _ T28.heap _
        refine ⟨?_, N0, e28⟩
        rw [F_rank, if_neg hc4_26, if_pos hc13_29]
    · obtain ⟨T31, X31, e31, st31⟩ := getS2 X28 hx hZ hown (host := "") (Or.inl (hw _ (List.mem_of_getElem? (i := 23) rfl))) Via.refl e28 S_TRUE (g := (mkF m 19 #[.val (.ref a0)] [(.ref a0)])) rfl (hb hby own_d_rank_19)
      have pre33 : ∀ t, Steps p.tables e below (T31.setTop (mkF m 22 #[.val (.ref a0)] [(.ref w_TRUE), (.ref a0)])) t → Steps p.tables e below (s₁.setTop (entryFrame m #[(.ref a0)] 1)) t := fun t k => pre30 t (by
        show Steps p.tables e below (T28.setTop (mkF m 13 #[.val (.ref a0)] [(.ref w_UNKNOWN), (.ref a0)])) _
        refine Jvm.RoadKit.acmp (g := (mkF m 13 #[.val (.ref a0)] [(.ref w_UNKNOWN), (.ref a0)])) X28 hx rfl rfl rfl (pc0 := 13) (pc' := 18) (same := false) rfl (hb hby own_d_rank_13) rfl (decide_eq_false fun q => hc13_29 (Value.ref.inj q)) (by decide) (by decide) ?_
        show Steps p.tables e below (T28.setTop (mkF m 18 #[.val (.ref a0)] [])) _
        refine XS.aloadN X28.here hx rfl (hb hby own_d_rank_18) rfl rfl ?_
        show Steps p.tables e below (T28.setTop (mkF m 19 #[.val (.ref a0)] [(.ref a0)])) _
        refine st31 _ ?_
        exact k)
      by_cases hc22_32 : a0 = w_TRUE
      · obtain ⟨fs, hr, hrun, hended, hW, hsame⟩ := X31.leave (v := some (.int (2 : Int32))) (fun h => by rw [Bd.returns] at h; cases h)
        refine ⟨_, _, pre33 _ ?_, hrun, hended, _, _, rfl, ?_, ⟨_, rfl⟩, hW, hsame.mono (by decide) (by decide)⟩
        · show Steps p.tables e below (T31.setTop (mkF m 22 #[.val (.ref a0)] [(.ref w_TRUE), (.ref a0)])) _
          refine Jvm.RoadKit.acmp (g := (mkF m 22 #[.val (.ref a0)] [(.ref w_TRUE), (.ref a0)])) X31 hx rfl rfl rfl (pc0 := 22) (pc' := 25) (same := true) rfl (hb hby own_d_rank_22) rfl (decide_eq_true (congrArg Value.ref hc22_32)) (by decide) (by decide) ?_
          show Steps p.tables e below (T31.setTop (mkF m 25 #[.val (.ref a0)] [])) _
          refine XS.iconst X31.here hx rfl (hb hby own_d_rank_25) ?_
          show Steps p.tables e below (T31.setTop (mkF m 26 #[.val (.ref a0)] [(.int (2 : Int32))])) _
          exact own_retI X31 hx Bd.returns (hb hby own_d_rank_26) hr
        · show Q_rank Z a0 w_TRUE w_FALSE w_UNKNOWN h0 n0 _ T31.heap _
          refine ⟨?_, N0, e31⟩
          rw [F_rank, if_neg hc4_26, if_neg hc13_29, if_pos hc22_32]
      · obtain ⟨fs, hr, hrun, hended, hW, hsame⟩ := X31.leave (v := some (.int (-1 : Int32))) (fun h => by rw [Bd.returns] at h; cases h)
        refine ⟨_, _, pre33 _ ?_, hrun, hended, _, _, rfl, ?_, ⟨_, rfl⟩, hW, hsame.mono (by decide) (by decide)⟩
        · show Steps p.tables e below (T31.setTop (mkF m 22 #[.val (.ref a0)] [(.ref w_TRUE), (.ref a0)])) _
          refine Jvm.RoadKit.acmp (g := (mkF m 22 #[.val (.ref a0)] [(.ref w_TRUE), (.ref a0)])) X31 hx rfl rfl rfl (pc0 := 22) (pc' := 27) (same := false) rfl (hb hby own_d_rank_22) rfl (decide_eq_false fun q => hc22_32 (Value.ref.inj q)) (by decide) (by decide) ?_
          show Steps p.tables e below (T31.setTop (mkF m 27 #[.val (.ref a0)] [])) _
          refine XS.iconst X31.here hx rfl (hb hby own_d_rank_27) ?_
          show Steps p.tables e below (T31.setTop (mkF m 28 #[.val (.ref a0)] [(.int (-1 : Int32))])) _
          exact own_retI X31 hx Bd.returns (hb hby own_d_rank_28) hr
        · show Q_rank Z a0 w_TRUE w_FALSE w_UNKNOWN h0 n0 _ T31.heap _
          refine ⟨?_, N0, e31⟩
          rw [F_rank, if_neg hc4_26, if_neg hc13_29, if_neg hc22_32]
theorem own_d_max_0 : decode jdk_29_method_65_code 0 = .ok (.iload_n 0, 1) := by decide +kernel
theorem own_d_max_1 : decode jdk_29_method_65_code 1 = .ok (.iload_n 1, 1) := by decide +kernel
theorem own_d_max_2 : decode jdk_29_method_65_code 2 = .ok (.if_icmp .lt 7, 3) := by decide +kernel
theorem own_d_max_9 : decode jdk_29_method_65_code 9 = .ok (.iload_n 1, 1) := by decide +kernel
theorem own_d_max_10 : decode jdk_29_method_65_code 10 = .ok (.ireturn, 1) := by decide +kernel
theorem own_d_max_5 : decode jdk_29_method_65_code 5 = .ok (.iload_n 0, 1) := by decide +kernel
theorem own_d_max_6 : decode jdk_29_method_65_code 6 = .ok (.goto 4, 3) := by decide +kernel
def F_max (p0 : Int32) (p1 : Int32) : Int32 := (if p0 < p1 then p1 else p0)
theorem own_ef_max (m : MethodId) (p0 : Int32) (p1 : Int32) : entryFrame m #[(.int p0), (.int p1)] 2 = mkF m 0 #[.val (.int p0), .val (.int p1)] [] := by first | (simp [entryFrame, mkF, argsToLocals, Value.category]; done) | rfl
def Q_max (Z : State) (p0 : Int32) (p1 : Int32) (h0 : Heap) (n0 : Nat) (v : Option Value) (h : Heap) (L : List Loc) : Prop := v = some (.int (F_max p0 p1)) ∧ Fr n0 L ∧ h = h0
set_option maxRecDepth 65536 in
set_option maxHeartbeats 40000000 in
theorem rm_max (l : Launch) (Z : State) (a0' : Array Value) (hw : ∀ d ∈ tables_1, d.before a0' Z = true) (ws : List Jvm.Cond) (p0 : Int32) (p1 : Int32) (h0 : Heap) (n0 : Nat) (Z0 : n0 ≤ h0.size) :
    MetFree l (⟨"java/lang/Math", "max", "(II)I"⟩ : MethodName) (head1 (Jvm.Cond.code (⟨"java/lang/Math", "max", "(II)I"⟩ : MethodName) jdk_29_method_65_code 2 (some .int) :: ws) ({ frames := 0, cells := 0, slots := 0, locals := 0 } : Room)) (fun a U => a = #[(.int p0), (.int p1)] ∧ Z.Warmed39 U.vm ∧ U.heap = h0) (fun _ _ _ _ _ => True) (fun _ U o U' => ∃ v L, o = .returned v ∧ Q_max Z p0 p1 h0 n0 v U'.heap L ∧ FrameEnd U o U' L ({ frames := 0, cells := 0, slots := 0, locals := 0 } : Room).cells ({ frames := 0, cells := 0, slots := 0, locals := 0 } : Room).slots) := by
  refine MetFree.of_bodySF (Jvm.Free.JP.mathPlain rfl (by decide +kernel)) hisR ?_
  intro p e s m args below meth c s₁ Bd hml0 hP hK
  obtain ⟨rfl, hZ, hh⟩ := hP
  have hx := Bd.exec
  have hby := Bd.bytes
  have hml : c.maxLocals = 2 := hml0
  have hown : s.vm.findClass "java/lang/Math" = some m.cls := findClass_of_methodNamed Bd.named
  have hnm := (name_of_methodNamed Bd.named Bd.method).1
  have X0 : Stand p l e ({ frames := 0, cells := 0, slots := 0, locals := 0 } : Room) s m #[(.int p0), (.int p1)] below meth c s₁ [] 0 0 := Stand.of_body Bd
  have e0 : s₁.heap = h0 := by rw [← hh, Bd.state]; rfl
  have N0 := Fr.nil n0
  have pre0 : ∀ t, Steps p.tables e below (s₁.setTop (mkF m 0 #[.val (.int p0), .val (.int p1)] [])) t → Steps p.tables e below (s₁.setTop (entryFrame m #[(.int p0), (.int p1)] 2)) t := fun t k => castTop (own_ef_max m p0 p1) k
  have pre35 : ∀ t, Steps p.tables e below (s₁.setTop (mkF m 2 #[.val (.int p0), .val (.int p1)] [(.int p1), (.int p0)])) t → Steps p.tables e below (s₁.setTop (entryFrame m #[(.int p0), (.int p1)] 2)) t := fun t k => pre0 t (by
    show Steps p.tables e below (s₁.setTop (mkF m 0 #[.val (.int p0), .val (.int p1)] [])) _
    refine XS.iloadN X0.here hx rfl (hb hby own_d_max_0) rfl ?_
    show Steps p.tables e below (s₁.setTop (mkF m 1 #[.val (.int p0), .val (.int p1)] [(.int p0)])) _
    refine XS.iloadN X0.here hx rfl (hb hby own_d_max_1) rfl ?_
    exact k)
  by_cases hc2_34 : p0 < p1
  · obtain ⟨fs, hr, hrun, hended, hW, hsame⟩ := X0.leave (v := some (.int p1)) (fun h => by rw [Bd.returns] at h; cases h)
    refine ⟨_, _, pre35 _ ?_, hrun, hended, _, _, rfl, ?_, ⟨_, rfl⟩, hW, hsame.mono (by decide) (by decide)⟩
    · show Steps p.tables e below (s₁.setTop (mkF m 2 #[.val (.int p0), .val (.int p1)] [(.int p1), (.int p0)])) _
      refine XS.icmpYes X0.here hx rfl (pc0 := 2) (pc' := 9) rfl (hb hby own_d_max_2) rfl (tlt hc2_34).1 (by decide) (by decide) ?_
      show Steps p.tables e below (s₁.setTop (mkF m 9 #[.val (.int p0), .val (.int p1)] [])) _
      refine XS.iloadN X0.here hx rfl (hb hby own_d_max_9) rfl ?_
      show Steps p.tables e below (s₁.setTop (mkF m 10 #[.val (.int p0), .val (.int p1)] [(.int p1)])) _
      exact own_retI X0 hx Bd.returns (hb hby own_d_max_10) hr
    · show Q_max Z p0 p1 h0 n0 _ s₁.heap _
      refine ⟨?_, N0, e0⟩
      rw [F_max, if_pos hc2_34]
  · obtain ⟨fs, hr, hrun, hended, hW, hsame⟩ := X0.leave (v := some (.int p0)) (fun h => by rw [Bd.returns] at h; cases h)
    refine ⟨_, _, pre35 _ ?_, hrun, hended, _, _, rfl, ?_, ⟨_, rfl⟩, hW, hsame.mono (by decide) (by decide)⟩
    · show Steps p.tables e below (s₁.setTop (mkF m 2 #[.val (.int p0), .val (.int p1)] [(.int p1), (.int p0)])) _
      refine XS.icmpNo X0.here hx rfl (hb hby own_d_max_2) rfl (flt hc2_34).1 ?_
      show Steps p.tables e below (s₁.setTop (mkF m 5 #[.val (.int p0), .val (.int p1)] [])) _
      refine XS.iloadN X0.here hx rfl (hb hby own_d_max_5) rfl ?_
      show Steps p.tables e below (s₁.setTop (mkF m 6 #[.val (.int p0), .val (.int p1)] [(.int p0)])) _
      refine XS.goto X0.here hx rfl (pc0 := 6) (pc' := 10) rfl (hb hby own_d_max_6) (by decide) (by decide) ?_
      show Steps p.tables e below (s₁.setTop (mkF m 10 #[.val (.int p0), .val (.int p1)] [(.int p0)])) _
      exact own_retI X0 hx Bd.returns (hb hby own_d_max_10) hr
    · show Q_max Z p0 p1 h0 n0 _ s₁.heap _
      refine ⟨?_, N0, e0⟩
      rw [F_max, if_neg hc2_34]
theorem own_pd0 : parseMethodDescriptor "(I)Lcom/example/gard/gard/core/Truth;" = some ⟨[.int], some (.object "com/example/gard/gard/core/Truth")⟩ := by decide +kernel
theorem own_pd1 : parseMethodDescriptor "(Lcom/example/gard/gard/core/Truth;)Lcom/example/gard/gard/core/Truth;" = some ⟨[(.object "com/example/gard/gard/core/Truth")], some (.object "com/example/gard/gard/core/Truth")⟩ := by decide +kernel
theorem own_pd2 : parseMethodDescriptor "(Lcom/example/gard/gard/core/Truth;)I" = some ⟨[(.object "com/example/gard/gard/core/Truth")], some .int⟩ := by decide +kernel
theorem own_pd3 : parseMethodDescriptor "(II)I" = some ⟨[.int, .int], some .int⟩ := by decide +kernel
def F_law (p0 : Int32) (p1 : Int32) : Int32 := (if ((p0 &&& (2147483647 : Int32)) % (3 : Int32)) = (0 : Int32) then (if ((p1 &&& (2147483647 : Int32)) % (3 : Int32)) = (0 : Int32) then (if (0 : Int32) = (F_max ((p0 &&& (2147483647 : Int32)) % (3 : Int32)) ((p1 &&& (2147483647 : Int32)) % (3 : Int32))) then (1 : Int32) else (0 : Int32)) else (if ((p1 &&& (2147483647 : Int32)) % (3 : Int32)) = (1 : Int32) then (if (1 : Int32) = (F_max ((p0 &&& (2147483647 : Int32)) % (3 : Int32)) ((p1 &&& (2147483647 : Int32)) % (3 : Int32))) then (1 : Int32) else (0 : Int32)) else (if (2 : Int32) = (F_max ((p0 &&& (2147483647 : Int32)) % (3 : Int32)) ((p1 &&& (2147483647 : Int32)) % (3 : Int32))) then (1 : Int32) else (0 : Int32)))) else (if ((p0 &&& (2147483647 : Int32)) % (3 : Int32)) = (1 : Int32) then (if ((p1 &&& (2147483647 : Int32)) % (3 : Int32)) = (0 : Int32) then (if (1 : Int32) = (F_max ((p0 &&& (2147483647 : Int32)) % (3 : Int32)) ((p1 &&& (2147483647 : Int32)) % (3 : Int32))) then (1 : Int32) else (0 : Int32)) else (if ((p1 &&& (2147483647 : Int32)) % (3 : Int32)) = (1 : Int32) then (if (1 : Int32) = (F_max ((p0 &&& (2147483647 : Int32)) % (3 : Int32)) ((p1 &&& (2147483647 : Int32)) % (3 : Int32))) then (1 : Int32) else (0 : Int32)) else (if (2 : Int32) = (F_max ((p0 &&& (2147483647 : Int32)) % (3 : Int32)) ((p1 &&& (2147483647 : Int32)) % (3 : Int32))) then (1 : Int32) else (0 : Int32)))) else (if ((p1 &&& (2147483647 : Int32)) % (3 : Int32)) = (0 : Int32) then (if (2 : Int32) = (F_max ((p0 &&& (2147483647 : Int32)) % (3 : Int32)) ((p1 &&& (2147483647 : Int32)) % (3 : Int32))) then (1 : Int32) else (0 : Int32)) else (if ((p1 &&& (2147483647 : Int32)) % (3 : Int32)) = (1 : Int32) then (if (2 : Int32) = (F_max ((p0 &&& (2147483647 : Int32)) % (3 : Int32)) ((p1 &&& (2147483647 : Int32)) % (3 : Int32))) then (1 : Int32) else (0 : Int32)) else (if (2 : Int32) = (F_max ((p0 &&& (2147483647 : Int32)) % (3 : Int32)) ((p1 &&& (2147483647 : Int32)) % (3 : Int32))) then (1 : Int32) else (0 : Int32))))))
theorem own_ef_law (m : MethodId) (p0 : Int32) (p1 : Int32) : entryFrame m #[(.int p0), (.int p1)] maxLocals = mkF m 0 #[.val (.int p0), .val (.int p1), .unset, .unset, .unset, .unset, .unset] [] := by first | (simp [entryFrame, mkF, argsToLocals, Value.category, maxLocals]; done) | rfl
def Q_law (Z : State) (p0 : Int32) (p1 : Int32) (w_TRUE : Addr) (w_FALSE : Addr) (w_UNKNOWN : Addr) (h0 : Heap) (n0 : Nat) (v : Option Value) (h : Heap) (L : List Loc) : Prop := v = some (.int (F_law p0 p1)) ∧ Fr n0 L ∧ True
set_option maxRecDepth 65536 in
set_option maxHeartbeats 40000000 in
theorem rm_law (l : Launch) (Z : State) (a0' : Array Value) (hw : ∀ d ∈ tables_1, d.before a0' Z = true) (ws : List Jvm.Cond) (p0 : Int32) (p1 : Int32) (w_TRUE : Addr) (w_FALSE : Addr) (w_UNKNOWN : Addr) (h0 : Heap) (n0 : Nat) (Z0 : n0 ≤ h0.size) (S_TRUE : Sta Z h0 "com/example/gard/gard/core/Truth" "TRUE" "Lcom/example/gard/gard/core/Truth;" (.ref w_TRUE)) (E_TRUE : Exa Z h0 w_TRUE "com/example/gard/gard/core/Truth") (S_FALSE : Sta Z h0 "com/example/gard/gard/core/Truth" "FALSE" "Lcom/example/gard/gard/core/Truth;" (.ref w_FALSE)) (E_FALSE : Exa Z h0 w_FALSE "com/example/gard/gard/core/Truth") (S_UNKNOWN : Sta Z h0 "com/example/gard/gard/core/Truth" "UNKNOWN" "Lcom/example/gard/gard/core/Truth;" (.ref w_UNKNOWN)) (E_UNKNOWN : Exa Z h0 w_UNKNOWN "com/example/gard/gard/core/Truth") (ne_TRUE_FALSE : ¬ (w_TRUE = w_FALSE)) (ne_TRUE_UNKNOWN : ¬ (w_TRUE = w_UNKNOWN)) (ne_FALSE_TRUE : ¬ (w_FALSE = w_TRUE)) (ne_UNKNOWN_TRUE : ¬ (w_UNKNOWN = w_TRUE)) (ne_UNKNOWN_FALSE : ¬ (w_UNKNOWN = w_FALSE)) :
    MetFree l x (head1 (Jvm.Cond.code x code maxLocals ret :: ws) room_1) (fun a U => a = #[(.int p0), (.int p1)] ∧ Z.Warmed39 U.vm ∧ U.heap = h0) (fun _ _ _ _ _ => True) (fun _ U o U' => ∃ v L, o = .returned v ∧ Q_law Z p0 p1 w_TRUE w_FALSE w_UNKNOWN h0 n0 v U'.heap L ∧ FrameEnd U o U' L room_1.cells room_1.slots) := by
  refine MetFree.of_bodySF (plainFor_of_name own_pn0) hisR ?_
  intro p e s m args below meth c s₁ Bd hml0 hP hK
  obtain ⟨rfl, hZ, hh⟩ := hP
  have hx := Bd.exec
  have hby := Bd.bytes
  have hml : c.maxLocals = 7 := hml0
  have hown : s.vm.findClass "com/example/gard/gard/core/TruthOrPinLaw" = some m.cls := findClass_of_methodNamed Bd.named
  have hnm := (name_of_methodNamed Bd.named Bd.method).1
  have X0 : Stand p l e room_1 s m #[(.int p0), (.int p1)] below meth c s₁ [] 0 0 := Stand.of_body Bd
  have e0 : s₁.heap = h0 := by rw [← hh, Bd.state]; rfl
  have N0 := Fr.nil n0
  have pre0 : ∀ t, Steps p.tables e below (s₁.setTop (mkF m 0 #[.val (.int p0), .val (.int p1), .unset, .unset, .unset, .unset, .unset] [])) t → Steps p.tables e below (s₁.setTop (entryFrame m #[(.int p0), (.int p1)] maxLocals)) t := fun t k => castTop (own_ef_law m p0 p1) k
  obtain ⟨_, _, ⟨T36, L36, k36, n36⟩, -, X36, ⟨Lc36, hQ36, l36, y36, z36⟩, st36⟩ := Jvm.LawKit.callS X0 hx (y := (⟨"com/example/gard/gard/core/TruthOrPinLaw", "pick", "(I)Lcom/example/gard/gard/core/Truth;"⟩ : MethodName)) hown (mvT hZ (hw _ (List.mem_of_getElem? (i := 1) rfl))) (mvT hZ (hw _ (List.mem_of_getElem? (i := 2) rfl))) (mvT hZ (hw _ (List.mem_of_getElem? (i := 3) rfl))) (mvT hZ (hw _ (List.mem_of_getElem? (i := 4) rfl))) (by decide) (backOf (W := 0) (rm_pick l Z a0' hw [] ((p0 &&& (2147483647 : Int32)) % (3 : Int32)) w_TRUE w_FALSE w_UNKNOWN h0 n0 Z0 S_TRUE S_FALSE S_UNKNOWN) hZ (hw _ (List.mem_of_getElem? (i := 4) rfl)) (hw _ (List.mem_of_getElem? (i := 3) rfl)) (by decide) (by decide)) (g := (mkF m 15 #[.val (.int p0), .val (.int p1), .val (.int ((p0 &&& (2147483647 : Int32)) % (3 : Int32))), .val (.int ((p1 &&& (2147483647 : Int32)) % (3 : Int32))), .unset, .unset, .unset] [(.int ((p0 &&& (2147483647 : Int32)) % (3 : Int32)))])) rfl (by rw [hml]; rfl) (argsL := [(.int ((p0 &&& (2147483647 : Int32)) % (3 : Int32)))]) (rest := []) (lenOf own_pd0 rfl) rfl (by show 2 * 0 + _ ≤ _; exact Nat.le_of_eq rfl) (hb hby at_15) (fun _ _ => ⟨rfl, e0, (by decide : 0 + 0 ≤ _), (by decide : 0 + 0 ≤ _)⟩)
  dsimp only [Pt.U, Pt.locs, Pt.cells, Pt.slots] at X36 l36 y36 z36 st36 hQ36
  subst l36 y36 z36
  obtain ⟨rfl, N36q, e36⟩ := hQ36
  have N36 := Fr.app N0 N36q
  have pre37 : ∀ t, Steps p.tables e below (s₁.setTop (mkF m 15 #[.val (.int p0), .val (.int p1), .val (.int ((p0 &&& (2147483647 : Int32)) % (3 : Int32))), .val (.int ((p1 &&& (2147483647 : Int32)) % (3 : Int32))), .unset, .unset, .unset] [(.int ((p0 &&& (2147483647 : Int32)) % (3 : Int32)))])) t → Steps p.tables e below (s₁.setTop (entryFrame m #[(.int p0), (.int p1)] maxLocals)) t := fun t k => pre0 t (by
    show Steps p.tables e below (s₁.setTop (mkF m 0 #[.val (.int p0), .val (.int p1), .unset, .unset, .unset, .unset, .unset] [])) _
    refine XS.iloadN X0.here hx rfl (hb hby at_0) rfl ?_
    show Steps p.tables e below (s₁.setTop (mkF m 1 #[.val (.int p0), .val (.int p1), .unset, .unset, .unset, .unset, .unset] [(.int p0)])) _
    refine X0.ldcInt hx hown (mvT hZ (hw _ (List.mem_of_getElem? (i := 0) rfl))) (g := (mkF m 1 #[.val (.int p0), .val (.int p1), .unset, .unset, .unset, .unset, .unset] [(.int p0)])) rfl (hb hby at_1) _ ?_
    show Steps p.tables e below (s₁.setTop (mkF m 3 #[.val (.int p0), .val (.int p1), .unset, .unset, .unset, .unset, .unset] [(.int (2147483647 : Int32)), (.int p0)])) _
    refine XS.iand X0.here hx rfl (hb hby at_3) rfl ?_
    show Steps p.tables e below (s₁.setTop (mkF m 4 #[.val (.int p0), .val (.int p1), .unset, .unset, .unset, .unset, .unset] [(.int (p0 &&& (2147483647 : Int32)))])) _
    refine XS.iconst X0.here hx rfl (hb hby at_4) ?_
    show Steps p.tables e below (s₁.setTop (mkF m 5 #[.val (.int p0), .val (.int p1), .unset, .unset, .unset, .unset, .unset] [(.int (3 : Int32)), (.int (p0 &&& (2147483647 : Int32)))])) _
    refine iremM X0 hx rfl (hb hby at_5) rfl (by decide) ?_
    show Steps p.tables e below (s₁.setTop (mkF m 6 #[.val (.int p0), .val (.int p1), .unset, .unset, .unset, .unset, .unset] [(.int ((p0 &&& (2147483647 : Int32)) % (3 : Int32)))])) _
    refine XS.istoreN X0.here hx rfl (hb hby at_6) rfl (l' := #[.val (.int p0), .val (.int p1), .val (.int ((p0 &&& (2147483647 : Int32)) % (3 : Int32))), .unset, .unset, .unset, .unset]) rfl ?_
    show Steps p.tables e below (s₁.setTop (mkF m 7 #[.val (.int p0), .val (.int p1), .val (.int ((p0 &&& (2147483647 : Int32)) % (3 : Int32))), .unset, .unset, .unset, .unset] [])) _
    refine XS.iloadN X0.here hx rfl (hb hby at_7) rfl ?_
    show Steps p.tables e below (s₁.setTop (mkF m 8 #[.val (.int p0), .val (.int p1), .val (.int ((p0 &&& (2147483647 : Int32)) % (3 : Int32))), .unset, .unset, .unset, .unset] [(.int p1)])) _
    refine X0.ldcInt hx hown (mvT hZ (hw _ (List.mem_of_getElem? (i := 0) rfl))) (g := (mkF m 8 #[.val (.int p0), .val (.int p1), .val (.int ((p0 &&& (2147483647 : Int32)) % (3 : Int32))), .unset, .unset, .unset, .unset] [(.int p1)])) rfl (hb hby at_8) _ ?_
    show Steps p.tables e below (s₁.setTop (mkF m 10 #[.val (.int p0), .val (.int p1), .val (.int ((p0 &&& (2147483647 : Int32)) % (3 : Int32))), .unset, .unset, .unset, .unset] [(.int (2147483647 : Int32)), (.int p1)])) _
    refine XS.iand X0.here hx rfl (hb hby at_10) rfl ?_
    show Steps p.tables e below (s₁.setTop (mkF m 11 #[.val (.int p0), .val (.int p1), .val (.int ((p0 &&& (2147483647 : Int32)) % (3 : Int32))), .unset, .unset, .unset, .unset] [(.int (p1 &&& (2147483647 : Int32)))])) _
    refine XS.iconst X0.here hx rfl (hb hby at_11) ?_
    show Steps p.tables e below (s₁.setTop (mkF m 12 #[.val (.int p0), .val (.int p1), .val (.int ((p0 &&& (2147483647 : Int32)) % (3 : Int32))), .unset, .unset, .unset, .unset] [(.int (3 : Int32)), (.int (p1 &&& (2147483647 : Int32)))])) _
    refine iremM X0 hx rfl (hb hby at_12) rfl (by decide) ?_
    show Steps p.tables e below (s₁.setTop (mkF m 13 #[.val (.int p0), .val (.int p1), .val (.int ((p0 &&& (2147483647 : Int32)) % (3 : Int32))), .unset, .unset, .unset, .unset] [(.int ((p1 &&& (2147483647 : Int32)) % (3 : Int32)))])) _
    refine XS.istoreN X0.here hx rfl (hb hby at_13) rfl (l' := #[.val (.int p0), .val (.int p1), .val (.int ((p0 &&& (2147483647 : Int32)) % (3 : Int32))), .val (.int ((p1 &&& (2147483647 : Int32)) % (3 : Int32))), .unset, .unset, .unset]) rfl ?_
    show Steps p.tables e below (s₁.setTop (mkF m 14 #[.val (.int p0), .val (.int p1), .val (.int ((p0 &&& (2147483647 : Int32)) % (3 : Int32))), .val (.int ((p1 &&& (2147483647 : Int32)) % (3 : Int32))), .unset, .unset, .unset] [])) _
    refine XS.iloadN X0.here hx rfl (hb hby at_14) rfl ?_
    exact k)
  by_cases hs_38 : ((p0 &&& (2147483647 : Int32)) % (3 : Int32)) = (0 : Int32)
  · have q36 : (F_pick ((p0 &&& (2147483647 : Int32)) % (3 : Int32)) w_TRUE w_FALSE w_UNKNOWN) = w_FALSE := by rw [F_pick, if_pos hs_38]
    rw [q36] at st36
    obtain ⟨_, _, ⟨T39, L39, k39, n39⟩, -, X39, ⟨Lc39, hQ39, l39, y39, z39⟩, st39⟩ := Jvm.LawKit.callS X36 hx (y := (⟨"com/example/gard/gard/core/TruthOrPinLaw", "pick", "(I)Lcom/example/gard/gard/core/Truth;"⟩ : MethodName)) hown (mvT hZ (hw _ (List.mem_of_getElem? (i := 1) rfl))) (mvT hZ (hw _ (List.mem_of_getElem? (i := 2) rfl))) (mvT hZ (hw _ (List.mem_of_getElem? (i := 3) rfl))) (mvT hZ (hw _ (List.mem_of_getElem? (i := 4) rfl))) (by decide) (backOf (W := 0) (rm_pick l Z a0' hw [] ((p1 &&& (2147483647 : Int32)) % (3 : Int32)) w_TRUE w_FALSE w_UNKNOWN h0 n0 Z0 S_TRUE S_FALSE S_UNKNOWN) hZ (hw _ (List.mem_of_getElem? (i := 4) rfl)) (hw _ (List.mem_of_getElem? (i := 3) rfl)) (by decide) (by decide)) (g := (mkF m 21 #[.val (.int p0), .val (.int p1), .val (.int ((p0 &&& (2147483647 : Int32)) % (3 : Int32))), .val (.int ((p1 &&& (2147483647 : Int32)) % (3 : Int32))), .val (.ref w_FALSE), .unset, .unset] [(.int ((p1 &&& (2147483647 : Int32)) % (3 : Int32)))])) rfl (by rw [hml]; rfl) (argsL := [(.int ((p1 &&& (2147483647 : Int32)) % (3 : Int32)))]) (rest := []) (lenOf own_pd0 rfl) rfl (by show 2 * 0 + _ ≤ _; exact Nat.le_of_eq rfl) (hb hby at_21) (fun _ _ => ⟨rfl, e36, (by decide : 0 + 0 ≤ _), (by decide : 0 + 0 ≤ _)⟩)
    dsimp only [Pt.U, Pt.locs, Pt.cells, Pt.slots] at X39 l39 y39 z39 st39 hQ39
    subst l39 y39 z39
    obtain ⟨rfl, N39q, e39⟩ := hQ39
    have N39 := Fr.app N36 N39q
    have pre40 : ∀ t, Steps p.tables e below (T36.setTop (mkF m 21 #[.val (.int p0), .val (.int p1), .val (.int ((p0 &&& (2147483647 : Int32)) % (3 : Int32))), .val (.int ((p1 &&& (2147483647 : Int32)) % (3 : Int32))), .val (.ref w_FALSE), .unset, .unset] [(.int ((p1 &&& (2147483647 : Int32)) % (3 : Int32)))])) t → Steps p.tables e below (s₁.setTop (entryFrame m #[(.int p0), (.int p1)] maxLocals)) t := fun t k => pre37 t (by
      show Steps p.tables e below (s₁.setTop (mkF m 15 #[.val (.int p0), .val (.int p1), .val (.int ((p0 &&& (2147483647 : Int32)) % (3 : Int32))), .val (.int ((p1 &&& (2147483647 : Int32)) % (3 : Int32))), .unset, .unset, .unset] [(.int ((p0 &&& (2147483647 : Int32)) % (3 : Int32)))])) _
      refine st36 _ ?_
      show Steps p.tables e below (T36.setTop (mkF m 18 #[.val (.int p0), .val (.int p1), .val (.int ((p0 &&& (2147483647 : Int32)) % (3 : Int32))), .val (.int ((p1 &&& (2147483647 : Int32)) % (3 : Int32))), .unset, .unset, .unset] [(.ref w_FALSE)])) _
      refine XS.astore X36.here hx rfl (hb hby at_18) rfl rfl (l' := #[.val (.int p0), .val (.int p1), .val (.int ((p0 &&& (2147483647 : Int32)) % (3 : Int32))), .val (.int ((p1 &&& (2147483647 : Int32)) % (3 : Int32))), .val (.ref w_FALSE), .unset, .unset]) rfl ?_
      show Steps p.tables e below (T36.setTop (mkF m 20 #[.val (.int p0), .val (.int p1), .val (.int ((p0 &&& (2147483647 : Int32)) % (3 : Int32))), .val (.int ((p1 &&& (2147483647 : Int32)) % (3 : Int32))), .val (.ref w_FALSE), .unset, .unset] [])) _
      refine XS.iloadN X36.here hx rfl (hb hby at_20) rfl ?_
      exact k)
    by_cases hs_41 : ((p1 &&& (2147483647 : Int32)) % (3 : Int32)) = (0 : Int32)
    · have q39 : (F_pick ((p1 &&& (2147483647 : Int32)) % (3 : Int32)) w_TRUE w_FALSE w_UNKNOWN) = w_FALSE := by rw [F_pick, if_pos hs_41]
      rw [q39] at st39
      obtain ⟨cq42, kq42, q42a, q42b, q42c⟩ := isOf hZ e39 E_FALSE
      obtain ⟨_, _, ⟨T42, L42, k42, n42⟩, -, X42, ⟨Lc42, hQ42, l42, y42, z42⟩, st42⟩ := X39.virtualBack hx (y := (⟨"com/example/gard/gard/core/Truth", "or", "(Lcom/example/gard/gard/core/Truth;)Lcom/example/gard/gard/core/Truth;"⟩ : MethodName)) (z := (⟨"com/example/gard/gard/core/Truth", "or", "(Lcom/example/gard/gard/core/Truth;)Lcom/example/gard/gard/core/Truth;"⟩ : MethodName)) hown (mvT hZ (hw _ (List.mem_of_getElem? (i := 8) rfl))) (mvT hZ (hw _ (List.mem_of_getElem? (i := 9) rfl))) (notFace_of_selects (args := #[]) (mvT hZ (hw _ (List.mem_of_getElem? (i := 11) rfl)))) (mvT hZ (hw _ (List.mem_of_getElem? (i := 11) rfl))) (mvT hZ (hw _ (List.mem_of_getElem? (i := 10) rfl))) (by decide) (backOf (W := 0) (rm_disj l Z a0' hw [] w_FALSE w_FALSE w_TRUE w_FALSE w_UNKNOWN h0 n0 Z0 S_TRUE S_FALSE S_UNKNOWN) hZ (hw _ (List.mem_of_getElem? (i := 12) rfl)) (hw _ (List.mem_of_getElem? (i := 6) rfl)) (by decide) (by decide)) q42a q42c (g := (mkF m 30 #[.val (.int p0), .val (.int p1), .val (.int ((p0 &&& (2147483647 : Int32)) % (3 : Int32))), .val (.int ((p1 &&& (2147483647 : Int32)) % (3 : Int32))), .val (.ref w_FALSE), .val (.ref w_FALSE), .unset] [(.ref w_FALSE), (.ref w_FALSE)])) rfl (by rw [hml]; rfl) (Steps.refl _) (argsL := [(.ref w_FALSE)]) (rest := []) (lenOf own_pd1 rfl) rfl (by show 2 * 0 + _ ≤ _; exact Nat.le_of_eq rfl) (hb hby at_30) (fun _ _ => ⟨rfl, e39, (by decide : 0 + 0 ≤ _), (by decide : 0 + 0 ≤ _)⟩)
      dsimp only [Pt.U, Pt.locs, Pt.cells, Pt.slots] at X42 l42 y42 z42 st42 hQ42
      subst l42 y42 z42
      obtain ⟨rfl, N42q, e42⟩ := hQ42
      have N42 := Fr.app N39 N42q
      have q42 : (F_disj w_FALSE w_FALSE w_TRUE w_FALSE w_UNKNOWN) = w_FALSE := by rw [F_disj, if_neg ne_FALSE_TRUE, if_neg ne_FALSE_TRUE, if_pos (rfl : w_FALSE = w_FALSE), if_pos (rfl : w_FALSE = w_FALSE)]
      rw [q42] at st42
      obtain ⟨_, _, ⟨T43, L43, k43, n43⟩, -, X43, ⟨Lc43, hQ43, l43, y43, z43⟩, st43⟩ := Jvm.LawKit.callS X42 hx (y := (⟨"com/example/gard/gard/core/TruthOrPinLaw", "rank", "(Lcom/example/gard/gard/core/Truth;)I"⟩ : MethodName)) hown (mvT hZ (hw _ (List.mem_of_getElem? (i := 16) rfl))) (mvT hZ (hw _ (List.mem_of_getElem? (i := 17) rfl))) (mvT hZ (hw _ (List.mem_of_getElem? (i := 3) rfl))) (mvT hZ (hw _ (List.mem_of_getElem? (i := 18) rfl))) (by decide) (backOf (W := 0) (rm_rank l Z a0' hw [] w_FALSE w_TRUE w_FALSE w_UNKNOWN h0 n0 Z0 S_TRUE S_FALSE S_UNKNOWN) hZ (hw _ (List.mem_of_getElem? (i := 18) rfl)) (hw _ (List.mem_of_getElem? (i := 3) rfl)) (by decide) (by decide)) (g := (mkF m 37 #[.val (.int p0), .val (.int p1), .val (.int ((p0 &&& (2147483647 : Int32)) % (3 : Int32))), .val (.int ((p1 &&& (2147483647 : Int32)) % (3 : Int32))), .val (.ref w_FALSE), .val (.ref w_FALSE), .val (.ref w_FALSE)] [(.ref w_FALSE)])) rfl (by rw [hml]; rfl) (argsL := [(.ref w_FALSE)]) (rest := []) (lenOf own_pd2 rfl) rfl (by show 2 * 0 + _ ≤ _; exact Nat.le_of_eq rfl) (hb hby at_37) (fun _ _ => ⟨rfl, e42, (by decide : 0 + 0 ≤ _), (by decide : 0 + 0 ≤ _)⟩)
      dsimp only [Pt.U, Pt.locs, Pt.cells, Pt.slots] at X43 l43 y43 z43 st43 hQ43
      subst l43 y43 z43
      obtain ⟨rfl, N43q, e43⟩ := hQ43
      have N43 := Fr.app N42 N43q
      have q43 : (F_rank w_FALSE w_TRUE w_FALSE w_UNKNOWN) = (0 : Int32) := by rw [F_rank, if_pos (rfl : w_FALSE = w_FALSE)]
      rw [q43] at st43
      obtain ⟨_, _, ⟨T44, L44, k44, n44⟩, -, X44, ⟨Lc44, hQ44, l44, y44, z44⟩, st44⟩ := Jvm.LawKit.callS X43 hx (y := (⟨"java/lang/Math", "max", "(II)I"⟩ : MethodName)) hown (mvT hZ (hw _ (List.mem_of_getElem? (i := 19) rfl))) (mvT hZ (hw _ (List.mem_of_getElem? (i := 20) rfl))) (mvT hZ (hw _ (List.mem_of_getElem? (i := 21) rfl))) (mvT hZ (hw _ (List.mem_of_getElem? (i := 22) rfl))) (by decide) (backOf (W := 1) (rm_max l Z a0' hw [] ((p0 &&& (2147483647 : Int32)) % (3 : Int32)) ((p1 &&& (2147483647 : Int32)) % (3 : Int32)) h0 n0 Z0) hZ (hw _ (List.mem_of_getElem? (i := 22) rfl)) (hw _ (List.mem_of_getElem? (i := 21) rfl)) (by decide) (by decide)) (g := (mkF m 42 #[.val (.int p0), .val (.int p1), .val (.int ((p0 &&& (2147483647 : Int32)) % (3 : Int32))), .val (.int ((p1 &&& (2147483647 : Int32)) % (3 : Int32))), .val (.ref w_FALSE), .val (.ref w_FALSE), .val (.ref w_FALSE)] [(.int ((p1 &&& (2147483647 : Int32)) % (3 : Int32))), (.int ((p0 &&& (2147483647 : Int32)) % (3 : Int32))), (.int (0 : Int32))])) rfl (by rw [hml]; rfl) (argsL := [(.int ((p0 &&& (2147483647 : Int32)) % (3 : Int32))), (.int ((p1 &&& (2147483647 : Int32)) % (3 : Int32)))]) (rest := [(.int (0 : Int32))]) (lenOf own_pd3 rfl) rfl (by show 2 * 0 + _ ≤ _; exact Nat.le_of_eq rfl) (hb hby at_42) (fun _ _ => ⟨rfl, e43, (by decide : 0 + 0 ≤ _), (by decide : 0 + 0 ≤ _)⟩)
      dsimp only [Pt.U, Pt.locs, Pt.cells, Pt.slots] at X44 l44 y44 z44 st44 hQ44
      subst l44 y44 z44
      obtain ⟨rfl, N44q, e44⟩ := hQ44
      have N44 := Fr.app N43 N44q
      have pre46 : ∀ t, Steps p.tables e below (T44.setTop (mkF m 45 #[.val (.int p0), .val (.int p1), .val (.int ((p0 &&& (2147483647 : Int32)) % (3 : Int32))), .val (.int ((p1 &&& (2147483647 : Int32)) % (3 : Int32))), .val (.ref w_FALSE), .val (.ref w_FALSE), .val (.ref w_FALSE)] [(.int (F_max ((p0 &&& (2147483647 : Int32)) % (3 : Int32)) ((p1 &&& (2147483647 : Int32)) % (3 : Int32)))), (.int (0 : Int32))])) t → Steps p.tables e below (s₁.setTop (entryFrame m #[(.int p0), (.int p1)] maxLocals)) t := fun t k => pre40 t (by
        show Steps p.tables e below (T36.setTop (mkF m 21 #[.val (.int p0), .val (.int p1), .val (.int ((p0 &&& (2147483647 : Int32)) % (3 : Int32))), .val (.int ((p1 &&& (2147483647 : Int32)) % (3 : Int32))), .val (.ref w_FALSE), .unset, .unset] [(.int ((p1 &&& (2147483647 : Int32)) % (3 : Int32)))])) _
        refine st39 _ ?_
        show Steps p.tables e below (T39.setTop (mkF m 24 #[.val (.int p0), .val (.int p1), .val (.int ((p0 &&& (2147483647 : Int32)) % (3 : Int32))), .val (.int ((p1 &&& (2147483647 : Int32)) % (3 : Int32))), .val (.ref w_FALSE), .unset, .unset] [(.ref w_FALSE)])) _
        refine XS.astore X39.here hx rfl (hb hby at_24) rfl rfl (l' := #[.val (.int p0), .val (.int p1), .val (.int ((p0 &&& (2147483647 : Int32)) % (3 : Int32))), .val (.int ((p1 &&& (2147483647 : Int32)) % (3 : Int32))), .val (.ref w_FALSE), .val (.ref w_FALSE), .unset]) rfl ?_
        show Steps p.tables e below (T39.setTop (mkF m 26 #[.val (.int p0), .val (.int p1), .val (.int ((p0 &&& (2147483647 : Int32)) % (3 : Int32))), .val (.int ((p1 &&& (2147483647 : Int32)) % (3 : Int32))), .val (.ref w_FALSE), .val (.ref w_FALSE), .unset] [])) _
        refine XS.aload X39.here hx rfl (hb hby at_26) rfl rfl ?_
        show Steps p.tables e below (T39.setTop (mkF m 28 #[.val (.int p0), .val (.int p1), .val (.int ((p0 &&& (2147483647 : Int32)) % (3 : Int32))), .val (.int ((p1 &&& (2147483647 : Int32)) % (3 : Int32))), .val (.ref w_FALSE), .val (.ref w_FALSE), .unset] [(.ref w_FALSE)])) _
        refine XS.aload X39.here hx rfl (hb hby at_28) rfl rfl ?_
        show Steps p.tables e below (T39.setTop (mkF m 30 #[.val (.int p0), .val (.int p1), .val (.int ((p0 &&& (2147483647 : Int32)) % (3 : Int32))), .val (.int ((p1 &&& (2147483647 : Int32)) % (3 : Int32))), .val (.ref w_FALSE), .val (.ref w_FALSE), .unset] [(.ref w_FALSE), (.ref w_FALSE)])) _
        refine st42.trans ?_
        show Steps p.tables e below (T42.setTop (mkF m 33 #[.val (.int p0), .val (.int p1), .val (.int ((p0 &&& (2147483647 : Int32)) % (3 : Int32))), .val (.int ((p1 &&& (2147483647 : Int32)) % (3 : Int32))), .val (.ref w_FALSE), .val (.ref w_FALSE), .unset] [(.ref w_FALSE)])) _
        refine XS.astore X42.here hx rfl (hb hby at_33) rfl rfl (l' := #[.val (.int p0), .val (.int p1), .val (.int ((p0 &&& (2147483647 : Int32)) % (3 : Int32))), .val (.int ((p1 &&& (2147483647 : Int32)) % (3 : Int32))), .val (.ref w_FALSE), .val (.ref w_FALSE), .val (.ref w_FALSE)]) rfl ?_
        show Steps p.tables e below (T42.setTop (mkF m 35 #[.val (.int p0), .val (.int p1), .val (.int ((p0 &&& (2147483647 : Int32)) % (3 : Int32))), .val (.int ((p1 &&& (2147483647 : Int32)) % (3 : Int32))), .val (.ref w_FALSE), .val (.ref w_FALSE), .val (.ref w_FALSE)] [])) _
        refine XS.aload X42.here hx rfl (hb hby at_35) rfl rfl ?_
        show Steps p.tables e below (T42.setTop (mkF m 37 #[.val (.int p0), .val (.int p1), .val (.int ((p0 &&& (2147483647 : Int32)) % (3 : Int32))), .val (.int ((p1 &&& (2147483647 : Int32)) % (3 : Int32))), .val (.ref w_FALSE), .val (.ref w_FALSE), .val (.ref w_FALSE)] [(.ref w_FALSE)])) _
        refine st43 _ ?_
        show Steps p.tables e below (T43.setTop (mkF m 40 #[.val (.int p0), .val (.int p1), .val (.int ((p0 &&& (2147483647 : Int32)) % (3 : Int32))), .val (.int ((p1 &&& (2147483647 : Int32)) % (3 : Int32))), .val (.ref w_FALSE), .val (.ref w_FALSE), .val (.ref w_FALSE)] [(.int (0 : Int32))])) _
        refine XS.iloadN X43.here hx rfl (hb hby at_40) rfl ?_
        show Steps p.tables e below (T43.setTop (mkF m 41 #[.val (.int p0), .val (.int p1), .val (.int ((p0 &&& (2147483647 : Int32)) % (3 : Int32))), .val (.int ((p1 &&& (2147483647 : Int32)) % (3 : Int32))), .val (.ref w_FALSE), .val (.ref w_FALSE), .val (.ref w_FALSE)] [(.int ((p0 &&& (2147483647 : Int32)) % (3 : Int32))), (.int (0 : Int32))])) _
        refine XS.iloadN X43.here hx rfl (hb hby at_41) rfl ?_
        show Steps p.tables e below (T43.setTop (mkF m 42 #[.val (.int p0), .val (.int p1), .val (.int ((p0 &&& (2147483647 : Int32)) % (3 : Int32))), .val (.int ((p1 &&& (2147483647 : Int32)) % (3 : Int32))), .val (.ref w_FALSE), .val (.ref w_FALSE), .val (.ref w_FALSE)] [(.int ((p1 &&& (2147483647 : Int32)) % (3 : Int32))), (.int ((p0 &&& (2147483647 : Int32)) % (3 : Int32))), (.int (0 : Int32))])) _
        refine st44 _ ?_
        exact k)
      by_cases hc45_45 : (0 : Int32) = (F_max ((p0 &&& (2147483647 : Int32)) % (3 : Int32)) ((p1 &&& (2147483647 : Int32)) % (3 : Int32)))
      · obtain ⟨fs, hr, hrun, hended, hW, hsame⟩ := X44.leave (v := some (.int (1 : Int32))) (fun h => by rw [Bd.returns] at h; cases h)
        refine ⟨_, _, pre46 _ ?_, hrun, hended, _, _, rfl, ?_, ⟨_, rfl⟩, hW, hsame.mono (by decide) (by decide)⟩
        · show Steps p.tables e below (T44.setTop (mkF m 45 #[.val (.int p0), .val (.int p1), .val (.int ((p0 &&& (2147483647 : Int32)) % (3 : Int32))), .val (.int ((p1 &&& (2147483647 : Int32)) % (3 : Int32))), .val (.ref w_FALSE), .val (.ref w_FALSE), .val (.ref w_FALSE)] [(.int (F_max ((p0 &&& (2147483647 : Int32)) % (3 : Int32)) ((p1 &&& (2147483647 : Int32)) % (3 : Int32)))), (.int (0 : Int32))])) _
          refine XS.icmpNo X44.here hx rfl (hb hby at_45) rfl (teq hc45_45).2 ?_
          show Steps p.tables e below (T44.setTop (mkF m 48 #[.val (.int p0), .val (.int p1), .val (.int ((p0 &&& (2147483647 : Int32)) % (3 : Int32))), .val (.int ((p1 &&& (2147483647 : Int32)) % (3 : Int32))), .val (.ref w_FALSE), .val (.ref w_FALSE), .val (.ref w_FALSE)] [])) _
          refine XS.iconst X44.here hx rfl (hb hby at_48) ?_
          show Steps p.tables e below (T44.setTop (mkF m 49 #[.val (.int p0), .val (.int p1), .val (.int ((p0 &&& (2147483647 : Int32)) % (3 : Int32))), .val (.int ((p1 &&& (2147483647 : Int32)) % (3 : Int32))), .val (.ref w_FALSE), .val (.ref w_FALSE), .val (.ref w_FALSE)] [(.int (1 : Int32))])) _
          refine XS.goto X44.here hx rfl (pc0 := 49) (pc' := 53) rfl (hb hby at_49) (by decide) (by decide) ?_
          show Steps p.tables e below (T44.setTop (mkF m 53 #[.val (.int p0), .val (.int p1), .val (.int ((p0 &&& (2147483647 : Int32)) % (3 : Int32))), .val (.int ((p1 &&& (2147483647 : Int32)) % (3 : Int32))), .val (.ref w_FALSE), .val (.ref w_FALSE), .val (.ref w_FALSE)] [(.int (1 : Int32))])) _
          exact retN X44 hx (t := .boolean) Bd.returns (by simp) (hb hby at_53) hr
        · show Q_law Z p0 p1 w_TRUE w_FALSE w_UNKNOWN h0 n0 _ T44.heap _
          refine ⟨?_, N44, trivial⟩
          rw [F_law, if_pos hs_38, if_pos hs_41, if_pos hc45_45]
      · obtain ⟨fs, hr, hrun, hended, hW, hsame⟩ := X44.leave (v := some (.int (0 : Int32))) (fun h => by rw [Bd.returns] at h; cases h)
        refine ⟨_, _, pre46 _ ?_, hrun, hended, _, _, rfl, ?_, ⟨_, rfl⟩, hW, hsame.mono (by decide) (by decide)⟩
        · show Steps p.tables e below (T44.setTop (mkF m 45 #[.val (.int p0), .val (.int p1), .val (.int ((p0 &&& (2147483647 : Int32)) % (3 : Int32))), .val (.int ((p1 &&& (2147483647 : Int32)) % (3 : Int32))), .val (.ref w_FALSE), .val (.ref w_FALSE), .val (.ref w_FALSE)] [(.int (F_max ((p0 &&& (2147483647 : Int32)) % (3 : Int32)) ((p1 &&& (2147483647 : Int32)) % (3 : Int32)))), (.int (0 : Int32))])) _
          refine XS.icmpYes X44.here hx rfl (pc0 := 45) (pc' := 52) rfl (hb hby at_45) rfl (feq hc45_45).2 (by decide) (by decide) ?_
          show Steps p.tables e below (T44.setTop (mkF m 52 #[.val (.int p0), .val (.int p1), .val (.int ((p0 &&& (2147483647 : Int32)) % (3 : Int32))), .val (.int ((p1 &&& (2147483647 : Int32)) % (3 : Int32))), .val (.ref w_FALSE), .val (.ref w_FALSE), .val (.ref w_FALSE)] [])) _
          refine XS.iconst X44.here hx rfl (hb hby at_52) ?_
          show Steps p.tables e below (T44.setTop (mkF m 53 #[.val (.int p0), .val (.int p1), .val (.int ((p0 &&& (2147483647 : Int32)) % (3 : Int32))), .val (.int ((p1 &&& (2147483647 : Int32)) % (3 : Int32))), .val (.ref w_FALSE), .val (.ref w_FALSE), .val (.ref w_FALSE)] [(.int (0 : Int32))])) _
          exact retN X44 hx (t := .boolean) Bd.returns (by simp) (hb hby at_53) hr
        · show Q_law Z p0 p1 w_TRUE w_FALSE w_UNKNOWN h0 n0 _ T44.heap _
          refine ⟨?_, N44, trivial⟩
          rw [F_law, if_pos hs_38, if_pos hs_41, if_neg hc45_45]
    · by_cases hs_47 : ((p1 &&& (2147483647 : Int32)) % (3 : Int32)) = (1 : Int32)
      · have q39 : (F_pick ((p1 &&& (2147483647 : Int32)) % (3 : Int32)) w_TRUE w_FALSE w_UNKNOWN) = w_UNKNOWN := by rw [F_pick, if_neg hs_41, if_pos hs_47]
        rw [q39] at st39
        obtain ⟨cq48, kq48, q48a, q48b, q48c⟩ := isOf hZ e39 E_FALSE
        obtain ⟨_, _, ⟨T48, L48, k48, n48⟩, -, X48, ⟨Lc48, hQ48, l48, y48, z48⟩, st48⟩ := X39.virtualBack hx (y := (⟨"com/example/gard/gard/core/Truth", "or", "(Lcom/example/gard/gard/core/Truth;)Lcom/example/gard/gard/core/Truth;"⟩ : MethodName)) (z := (⟨"com/example/gard/gard/core/Truth", "or", "(Lcom/example/gard/gard/core/Truth;)Lcom/example/gard/gard/core/Truth;"⟩ : MethodName)) hown (mvT hZ (hw _ (List.mem_of_getElem? (i := 8) rfl))) (mvT hZ (hw _ (List.mem_of_getElem? (i := 9) rfl))) (notFace_of_selects (args := #[]) (mvT hZ (hw _ (List.mem_of_getElem? (i := 11) rfl)))) (mvT hZ (hw _ (List.mem_of_getElem? (i := 11) rfl))) (mvT hZ (hw _ (List.mem_of_getElem? (i := 10) rfl))) (by decide) (backOf (W := 0) (rm_disj l Z a0' hw [] w_FALSE w_UNKNOWN w_TRUE w_FALSE w_UNKNOWN h0 n0 Z0 S_TRUE S_FALSE S_UNKNOWN) hZ (hw _ (List.mem_of_getElem? (i := 12) rfl)) (hw _ (List.mem_of_getElem? (i := 6) rfl)) (by decide) (by decide)) q48a q48c (g := (mkF m 30 #[.val (.int p0), .val (.int p1), .val (.int ((p0 &&& (2147483647 : Int32)) % (3 : Int32))), .val (.int ((p1 &&& (2147483647 : Int32)) % (3 : Int32))), .val (.ref w_FALSE), .val (.ref w_UNKNOWN), .unset] [(.ref w_UNKNOWN), (.ref w_FALSE)])) rfl (by rw [hml]; rfl) (Steps.refl _) (argsL := [(.ref w_UNKNOWN)]) (rest := []) (lenOf own_pd1 rfl) rfl (by show 2 * 0 + _ ≤ _; exact Nat.le_of_eq rfl) (hb hby at_30) (fun _ _ => ⟨rfl, e39, (by decide : 0 + 0 ≤ _), (by decide : 0 + 0 ≤ _)⟩)
        dsimp only [Pt.U, Pt.locs, Pt.cells, Pt.slots] at X48 l48 y48 z48 st48 hQ48
        subst l48 y48 z48
        obtain ⟨rfl, N48q, e48⟩ := hQ48
        have N48 := Fr.app N39 N48q
        have q48 : (F_disj w_FALSE w_UNKNOWN w_TRUE w_FALSE w_UNKNOWN) = w_UNKNOWN := by rw [F_disj, if_neg ne_FALSE_TRUE, if_neg ne_UNKNOWN_TRUE, if_pos (rfl : w_FALSE = w_FALSE), if_neg ne_UNKNOWN_FALSE]
        rw [q48] at st48
        obtain ⟨_, _, ⟨T49, L49, k49, n49⟩, -, X49, ⟨Lc49, hQ49, l49, y49, z49⟩, st49⟩ := Jvm.LawKit.callS X48 hx (y := (⟨"com/example/gard/gard/core/TruthOrPinLaw", "rank", "(Lcom/example/gard/gard/core/Truth;)I"⟩ : MethodName)) hown (mvT hZ (hw _ (List.mem_of_getElem? (i := 16) rfl))) (mvT hZ (hw _ (List.mem_of_getElem? (i := 17) rfl))) (mvT hZ (hw _ (List.mem_of_getElem? (i := 3) rfl))) (mvT hZ (hw _ (List.mem_of_getElem? (i := 18) rfl))) (by decide) (backOf (W := 0) (rm_rank l Z a0' hw [] w_UNKNOWN w_TRUE w_FALSE w_UNKNOWN h0 n0 Z0 S_TRUE S_FALSE S_UNKNOWN) hZ (hw _ (List.mem_of_getElem? (i := 18) rfl)) (hw _ (List.mem_of_getElem? (i := 3) rfl)) (by decide) (by decide)) (g := (mkF m 37 #[.val (.int p0), .val (.int p1), .val (.int ((p0 &&& (2147483647 : Int32)) % (3 : Int32))), .val (.int ((p1 &&& (2147483647 : Int32)) % (3 : Int32))), .val (.ref w_FALSE), .val (.ref w_UNKNOWN), .val (.ref w_UNKNOWN)] [(.ref w_UNKNOWN)])) rfl (by rw [hml]; rfl) (argsL := [(.ref w_UNKNOWN)]) (rest := []) (lenOf own_pd2 rfl) rfl (by show 2 * 0 + _ ≤ _; exact Nat.le_of_eq rfl) (hb hby at_37) (fun _ _ => ⟨rfl, e48, (by decide : 0 + 0 ≤ _), (by decide : 0 + 0 ≤ _)⟩)
        dsimp only [Pt.U, Pt.locs, Pt.cells, Pt.slots] at X49 l49 y49 z49 st49 hQ49
        subst l49 y49 z49
        obtain ⟨rfl, N49q, e49⟩ := hQ49
        have N49 := Fr.app N48 N49q
        have q49 : (F_rank w_UNKNOWN w_TRUE w_FALSE w_UNKNOWN) = (1 : Int32) := by rw [F_rank, if_neg ne_UNKNOWN_FALSE, if_pos (rfl : w_UNKNOWN = w_UNKNOWN)]
        rw [q49] at st49
        obtain ⟨_, _, ⟨T50, L50, k50, n50⟩, -, X50, ⟨Lc50, hQ50, l50, y50, z50⟩, st50⟩ := Jvm.LawKit.callS X49 hx (y := (⟨"java/lang/Math", "max", "(II)I"⟩ : MethodName)) hown (mvT hZ (hw _ (List.mem_of_getElem? (i := 19) rfl))) (mvT hZ (hw _ (List.mem_of_getElem? (i := 20) rfl))) (mvT hZ (hw _ (List.mem_of_getElem? (i := 21) rfl))) (mvT hZ (hw _ (List.mem_of_getElem? (i := 22) rfl))) (by decide) (backOf (W := 1) (rm_max l Z a0' hw [] ((p0 &&& (2147483647 : Int32)) % (3 : Int32)) ((p1 &&& (2147483647 : Int32)) % (3 : Int32)) h0 n0 Z0) hZ (hw _ (List.mem_of_getElem? (i := 22) rfl)) (hw _ (List.mem_of_getElem? (i := 21) rfl)) (by decide) (by decide)) (g := (mkF m 42 #[.val (.int p0), .val (.int p1), .val (.int ((p0 &&& (2147483647 : Int32)) % (3 : Int32))), .val (.int ((p1 &&& (2147483647 : Int32)) % (3 : Int32))), .val (.ref w_FALSE), .val (.ref w_UNKNOWN), .val (.ref w_UNKNOWN)] [(.int ((p1 &&& (2147483647 : Int32)) % (3 : Int32))), (.int ((p0 &&& (2147483647 : Int32)) % (3 : Int32))), (.int (1 : Int32))])) rfl (by rw [hml]; rfl) (argsL := [(.int ((p0 &&& (2147483647 : Int32)) % (3 : Int32))), (.int ((p1 &&& (2147483647 : Int32)) % (3 : Int32)))]) (rest := [(.int (1 : Int32))]) (lenOf own_pd3 rfl) rfl (by show 2 * 0 + _ ≤ _; exact Nat.le_of_eq rfl) (hb hby at_42) (fun _ _ => ⟨rfl, e49, (by decide : 0 + 0 ≤ _), (by decide : 0 + 0 ≤ _)⟩)
        dsimp only [Pt.U, Pt.locs, Pt.cells, Pt.slots] at X50 l50 y50 z50 st50 hQ50
        subst l50 y50 z50
        obtain ⟨rfl, N50q, e50⟩ := hQ50
        have N50 := Fr.app N49 N50q
        have pre52 : ∀ t, Steps p.tables e below (T50.setTop (mkF m 45 #[.val (.int p0), .val (.int p1), .val (.int ((p0 &&& (2147483647 : Int32)) % (3 : Int32))), .val (.int ((p1 &&& (2147483647 : Int32)) % (3 : Int32))), .val (.ref w_FALSE), .val (.ref w_UNKNOWN), .val (.ref w_UNKNOWN)] [(.int (F_max ((p0 &&& (2147483647 : Int32)) % (3 : Int32)) ((p1 &&& (2147483647 : Int32)) % (3 : Int32)))), (.int (1 : Int32))])) t → Steps p.tables e below (s₁.setTop (entryFrame m #[(.int p0), (.int p1)] maxLocals)) t := fun t k => pre40 t (by
          show Steps p.tables e below (T36.setTop (mkF m 21 #[.val (.int p0), .val (.int p1), .val (.int ((p0 &&& (2147483647 : Int32)) % (3 : Int32))), .val (.int ((p1 &&& (2147483647 : Int32)) % (3 : Int32))), .val (.ref w_FALSE), .unset, .unset] [(.int ((p1 &&& (2147483647 : Int32)) % (3 : Int32)))])) _
          refine st39 _ ?_
          show Steps p.tables e below (T39.setTop (mkF m 24 #[.val (.int p0), .val (.int p1), .val (.int ((p0 &&& (2147483647 : Int32)) % (3 : Int32))), .val (.int ((p1 &&& (2147483647 : Int32)) % (3 : Int32))), .val (.ref w_FALSE), .unset, .unset] [(.ref w_UNKNOWN)])) _
          refine XS.astore X39.here hx rfl (hb hby at_24) rfl rfl (l' := #[.val (.int p0), .val (.int p1), .val (.int ((p0 &&& (2147483647 : Int32)) % (3 : Int32))), .val (.int ((p1 &&& (2147483647 : Int32)) % (3 : Int32))), .val (.ref w_FALSE), .val (.ref w_UNKNOWN), .unset]) rfl ?_
          show Steps p.tables e below (T39.setTop (mkF m 26 #[.val (.int p0), .val (.int p1), .val (.int ((p0 &&& (2147483647 : Int32)) % (3 : Int32))), .val (.int ((p1 &&& (2147483647 : Int32)) % (3 : Int32))), .val (.ref w_FALSE), .val (.ref w_UNKNOWN), .unset] [])) _
          refine XS.aload X39.here hx rfl (hb hby at_26) rfl rfl ?_
          show Steps p.tables e below (T39.setTop (mkF m 28 #[.val (.int p0), .val (.int p1), .val (.int ((p0 &&& (2147483647 : Int32)) % (3 : Int32))), .val (.int ((p1 &&& (2147483647 : Int32)) % (3 : Int32))), .val (.ref w_FALSE), .val (.ref w_UNKNOWN), .unset] [(.ref w_FALSE)])) _
          refine XS.aload X39.here hx rfl (hb hby at_28) rfl rfl ?_
          show Steps p.tables e below (T39.setTop (mkF m 30 #[.val (.int p0), .val (.int p1), .val (.int ((p0 &&& (2147483647 : Int32)) % (3 : Int32))), .val (.int ((p1 &&& (2147483647 : Int32)) % (3 : Int32))), .val (.ref w_FALSE), .val (.ref w_UNKNOWN), .unset] [(.ref w_UNKNOWN), (.ref w_FALSE)])) _
          refine st48.trans ?_
          show Steps p.tables e below (T48.setTop (mkF m 33 #[.val (.int p0), .val (.int p1), .val (.int ((p0 &&& (2147483647 : Int32)) % (3 : Int32))), .val (.int ((p1 &&& (2147483647 : Int32)) % (3 : Int32))), .val (.ref w_FALSE), .val (.ref w_UNKNOWN), .unset] [(.ref w_UNKNOWN)])) _
          refine XS.astore X48.here hx rfl (hb hby at_33) rfl rfl (l' := #[.val (.int p0), .val (.int p1), .val (.int ((p0 &&& (2147483647 : Int32)) % (3 : Int32))), .val (.int ((p1 &&& (2147483647 : Int32)) % (3 : Int32))), .val (.ref w_FALSE), .val (.ref w_UNKNOWN), .val (.ref w_UNKNOWN)]) rfl ?_
          show Steps p.tables e below (T48.setTop (mkF m 35 #[.val (.int p0), .val (.int p1), .val (.int ((p0 &&& (2147483647 : Int32)) % (3 : Int32))), .val (.int ((p1 &&& (2147483647 : Int32)) % (3 : Int32))), .val (.ref w_FALSE), .val (.ref w_UNKNOWN), .val (.ref w_UNKNOWN)] [])) _
          refine XS.aload X48.here hx rfl (hb hby at_35) rfl rfl ?_
          show Steps p.tables e below (T48.setTop (mkF m 37 #[.val (.int p0), .val (.int p1), .val (.int ((p0 &&& (2147483647 : Int32)) % (3 : Int32))), .val (.int ((p1 &&& (2147483647 : Int32)) % (3 : Int32))), .val (.ref w_FALSE), .val (.ref w_UNKNOWN), .val (.ref w_UNKNOWN)] [(.ref w_UNKNOWN)])) _
          refine st49 _ ?_
          show Steps p.tables e below (T49.setTop (mkF m 40 #[.val (.int p0), .val (.int p1), .val (.int ((p0 &&& (2147483647 : Int32)) % (3 : Int32))), .val (.int ((p1 &&& (2147483647 : Int32)) % (3 : Int32))), .val (.ref w_FALSE), .val (.ref w_UNKNOWN), .val (.ref w_UNKNOWN)] [(.int (1 : Int32))])) _
          refine XS.iloadN X49.here hx rfl (hb hby at_40) rfl ?_
          show Steps p.tables e below (T49.setTop (mkF m 41 #[.val (.int p0), .val (.int p1), .val (.int ((p0 &&& (2147483647 : Int32)) % (3 : Int32))), .val (.int ((p1 &&& (2147483647 : Int32)) % (3 : Int32))), .val (.ref w_FALSE), .val (.ref w_UNKNOWN), .val (.ref w_UNKNOWN)] [(.int ((p0 &&& (2147483647 : Int32)) % (3 : Int32))), (.int (1 : Int32))])) _
          refine XS.iloadN X49.here hx rfl (hb hby at_41) rfl ?_
          show Steps p.tables e below (T49.setTop (mkF m 42 #[.val (.int p0), .val (.int p1), .val (.int ((p0 &&& (2147483647 : Int32)) % (3 : Int32))), .val (.int ((p1 &&& (2147483647 : Int32)) % (3 : Int32))), .val (.ref w_FALSE), .val (.ref w_UNKNOWN), .val (.ref w_UNKNOWN)] [(.int ((p1 &&& (2147483647 : Int32)) % (3 : Int32))), (.int ((p0 &&& (2147483647 : Int32)) % (3 : Int32))), (.int (1 : Int32))])) _
          refine st50 _ ?_
          exact k)
        by_cases hc45_51 : (1 : Int32) = (F_max ((p0 &&& (2147483647 : Int32)) % (3 : Int32)) ((p1 &&& (2147483647 : Int32)) % (3 : Int32)))
        · obtain ⟨fs, hr, hrun, hended, hW, hsame⟩ := X50.leave (v := some (.int (1 : Int32))) (fun h => by rw [Bd.returns] at h; cases h)
          refine ⟨_, _, pre52 _ ?_, hrun, hended, _, _, rfl, ?_, ⟨_, rfl⟩, hW, hsame.mono (by decide) (by decide)⟩
          · show Steps p.tables e below (T50.setTop (mkF m 45 #[.val (.int p0), .val (.int p1), .val (.int ((p0 &&& (2147483647 : Int32)) % (3 : Int32))), .val (.int ((p1 &&& (2147483647 : Int32)) % (3 : Int32))), .val (.ref w_FALSE), .val (.ref w_UNKNOWN), .val (.ref w_UNKNOWN)] [(.int (F_max ((p0 &&& (2147483647 : Int32)) % (3 : Int32)) ((p1 &&& (2147483647 : Int32)) % (3 : Int32)))), (.int (1 : Int32))])) _
            refine XS.icmpNo X50.here hx rfl (hb hby at_45) rfl (teq hc45_51).2 ?_
            show Steps p.tables e below (T50.setTop (mkF m 48 #[.val (.int p0), .val (.int p1), .val (.int ((p0 &&& (2147483647 : Int32)) % (3 : Int32))), .val (.int ((p1 &&& (2147483647 : Int32)) % (3 : Int32))), .val (.ref w_FALSE), .val (.ref w_UNKNOWN), .val (.ref w_UNKNOWN)] [])) _
            refine XS.iconst X50.here hx rfl (hb hby at_48) ?_
            show Steps p.tables e below (T50.setTop (mkF m 49 #[.val (.int p0), .val (.int p1), .val (.int ((p0 &&& (2147483647 : Int32)) % (3 : Int32))), .val (.int ((p1 &&& (2147483647 : Int32)) % (3 : Int32))), .val (.ref w_FALSE), .val (.ref w_UNKNOWN), .val (.ref w_UNKNOWN)] [(.int (1 : Int32))])) _
            refine XS.goto X50.here hx rfl (pc0 := 49) (pc' := 53) rfl (hb hby at_49) (by decide) (by decide) ?_
            show Steps p.tables e below (T50.setTop (mkF m 53 #[.val (.int p0), .val (.int p1), .val (.int ((p0 &&& (2147483647 : Int32)) % (3 : Int32))), .val (.int ((p1 &&& (2147483647 : Int32)) % (3 : Int32))), .val (.ref w_FALSE), .val (.ref w_UNKNOWN), .val (.ref w_UNKNOWN)] [(.int (1 : Int32))])) _
            exact retN X50 hx (t := .boolean) Bd.returns (by simp) (hb hby at_53) hr
          · show Q_law Z p0 p1 w_TRUE w_FALSE w_UNKNOWN h0 n0 _ T50.heap _
            refine ⟨?_, N50, trivial⟩
            rw [F_law, if_pos hs_38, if_neg hs_41, if_pos hs_47, if_pos hc45_51]
        · obtain ⟨fs, hr, hrun, hended, hW, hsame⟩ := X50.leave (v := some (.int (0 : Int32))) (fun h => by rw [Bd.returns] at h; cases h)
          refine ⟨_, _, pre52 _ ?_, hrun, hended, _, _, rfl, ?_, ⟨_, rfl⟩, hW, hsame.mono (by decide) (by decide)⟩
          · show Steps p.tables e below (T50.setTop (mkF m 45 #[.val (.int p0), .val (.int p1), .val (.int ((p0 &&& (2147483647 : Int32)) % (3 : Int32))), .val (.int ((p1 &&& (2147483647 : Int32)) % (3 : Int32))), .val (.ref w_FALSE), .val (.ref w_UNKNOWN), .val (.ref w_UNKNOWN)] [(.int (F_max ((p0 &&& (2147483647 : Int32)) % (3 : Int32)) ((p1 &&& (2147483647 : Int32)) % (3 : Int32)))), (.int (1 : Int32))])) _
            refine XS.icmpYes X50.here hx rfl (pc0 := 45) (pc' := 52) rfl (hb hby at_45) rfl (feq hc45_51).2 (by decide) (by decide) ?_
            show Steps p.tables e below (T50.setTop (mkF m 52 #[.val (.int p0), .val (.int p1), .val (.int ((p0 &&& (2147483647 : Int32)) % (3 : Int32))), .val (.int ((p1 &&& (2147483647 : Int32)) % (3 : Int32))), .val (.ref w_FALSE), .val (.ref w_UNKNOWN), .val (.ref w_UNKNOWN)] [])) _
            refine XS.iconst X50.here hx rfl (hb hby at_52) ?_
            show Steps p.tables e below (T50.setTop (mkF m 53 #[.val (.int p0), .val (.int p1), .val (.int ((p0 &&& (2147483647 : Int32)) % (3 : Int32))), .val (.int ((p1 &&& (2147483647 : Int32)) % (3 : Int32))), .val (.ref w_FALSE), .val (.ref w_UNKNOWN), .val (.ref w_UNKNOWN)] [(.int (0 : Int32))])) _
            exact retN X50 hx (t := .boolean) Bd.returns (by simp) (hb hby at_53) hr
          · show Q_law Z p0 p1 w_TRUE w_FALSE w_UNKNOWN h0 n0 _ T50.heap _
            refine ⟨?_, N50, trivial⟩
            rw [F_law, if_pos hs_38, if_neg hs_41, if_pos hs_47, if_neg hc45_51]
      · have q39 : (F_pick ((p1 &&& (2147483647 : Int32)) % (3 : Int32)) w_TRUE w_FALSE w_UNKNOWN) = w_TRUE := by rw [F_pick, if_neg hs_41, if_neg hs_47]
        rw [q39] at st39
        obtain ⟨cq53, kq53, q53a, q53b, q53c⟩ := isOf hZ e39 E_FALSE
        obtain ⟨_, _, ⟨T53, L53, k53, n53⟩, -, X53, ⟨Lc53, hQ53, l53, y53, z53⟩, st53⟩ := X39.virtualBack hx (y := (⟨"com/example/gard/gard/core/Truth", "or", "(Lcom/example/gard/gard/core/Truth;)Lcom/example/gard/gard/core/Truth;"⟩ : MethodName)) (z := (⟨"com/example/gard/gard/core/Truth", "or", "(Lcom/example/gard/gard/core/Truth;)Lcom/example/gard/gard/core/Truth;"⟩ : MethodName)) hown (mvT hZ (hw _ (List.mem_of_getElem? (i := 8) rfl))) (mvT hZ (hw _ (List.mem_of_getElem? (i := 9) rfl))) (notFace_of_selects (args := #[]) (mvT hZ (hw _ (List.mem_of_getElem? (i := 11) rfl)))) (mvT hZ (hw _ (List.mem_of_getElem? (i := 11) rfl))) (mvT hZ (hw _ (List.mem_of_getElem? (i := 10) rfl))) (by decide) (backOf (W := 0) (rm_disj l Z a0' hw [] w_FALSE w_TRUE w_TRUE w_FALSE w_UNKNOWN h0 n0 Z0 S_TRUE S_FALSE S_UNKNOWN) hZ (hw _ (List.mem_of_getElem? (i := 12) rfl)) (hw _ (List.mem_of_getElem? (i := 6) rfl)) (by decide) (by decide)) q53a q53c (g := (mkF m 30 #[.val (.int p0), .val (.int p1), .val (.int ((p0 &&& (2147483647 : Int32)) % (3 : Int32))), .val (.int ((p1 &&& (2147483647 : Int32)) % (3 : Int32))), .val (.ref w_FALSE), .val (.ref w_TRUE), .unset] [(.ref w_TRUE), (.ref w_FALSE)])) rfl (by rw [hml]; rfl) (Steps.refl _) (argsL := [(.ref w_TRUE)]) (rest := []) (lenOf own_pd1 rfl) rfl (by show 2 * 0 + _ ≤ _; exact Nat.le_of_eq rfl) (hb hby at_30) (fun _ _ => ⟨rfl, e39, (by decide : 0 + 0 ≤ _), (by decide : 0 + 0 ≤ _)⟩)
        dsimp only [Pt.U, Pt.locs, Pt.cells, Pt.slots] at X53 l53 y53 z53 st53 hQ53
        subst l53 y53 z53
        obtain ⟨rfl, N53q, e53⟩ := hQ53
        have N53 := Fr.app N39 N53q
        have q53 : (F_disj w_FALSE w_TRUE w_TRUE w_FALSE w_UNKNOWN) = w_TRUE := by rw [F_disj, if_neg ne_FALSE_TRUE, if_pos (rfl : w_TRUE = w_TRUE)]
        rw [q53] at st53
        obtain ⟨_, _, ⟨T54, L54, k54, n54⟩, -, X54, ⟨Lc54, hQ54, l54, y54, z54⟩, st54⟩ := Jvm.LawKit.callS X53 hx (y := (⟨"com/example/gard/gard/core/TruthOrPinLaw", "rank", "(Lcom/example/gard/gard/core/Truth;)I"⟩ : MethodName)) hown (mvT hZ (hw _ (List.mem_of_getElem? (i := 16) rfl))) (mvT hZ (hw _ (List.mem_of_getElem? (i := 17) rfl))) (mvT hZ (hw _ (List.mem_of_getElem? (i := 3) rfl))) (mvT hZ (hw _ (List.mem_of_getElem? (i := 18) rfl))) (by decide) (backOf (W := 0) (rm_rank l Z a0' hw [] w_TRUE w_TRUE w_FALSE w_UNKNOWN h0 n0 Z0 S_TRUE S_FALSE S_UNKNOWN) hZ (hw _ (List.mem_of_getElem? (i := 18) rfl)) (hw _ (List.mem_of_getElem? (i := 3) rfl)) (by decide) (by decide)) (g := (mkF m 37 #[.val (.int p0), .val (.int p1), .val (.int ((p0 &&& (2147483647 : Int32)) % (3 : Int32))), .val (.int ((p1 &&& (2147483647 : Int32)) % (3 : Int32))), .val (.ref w_FALSE), .val (.ref w_TRUE), .val (.ref w_TRUE)] [(.ref w_TRUE)])) rfl (by rw [hml]; rfl) (argsL := [(.ref w_TRUE)]) (rest := []) (lenOf own_pd2 rfl) rfl (by show 2 * 0 + _ ≤ _; exact Nat.le_of_eq rfl) (hb hby at_37) (fun _ _ => ⟨rfl, e53, (by decide : 0 + 0 ≤ _), (by decide : 0 + 0 ≤ _)⟩)
        dsimp only [Pt.U, Pt.locs, Pt.cells, Pt.slots] at X54 l54 y54 z54 st54 hQ54
        subst l54 y54 z54
        obtain ⟨rfl, N54q, e54⟩ := hQ54
        have N54 := Fr.app N53 N54q
        have q54 : (F_rank w_TRUE w_TRUE w_FALSE w_UNKNOWN) = (2 : Int32) := by rw [F_rank, if_neg ne_TRUE_FALSE, if_neg ne_TRUE_UNKNOWN, if_pos (rfl : w_TRUE = w_TRUE)]
        rw [q54] at st54
        obtain ⟨_, _, ⟨T55, L55, k55, n55⟩, -, X55, ⟨Lc55, hQ55, l55, y55, z55⟩, st55⟩ := Jvm.LawKit.callS X54 hx (y := (⟨"java/lang/Math", "max", "(II)I"⟩ : MethodName)) hown (mvT hZ (hw _ (List.mem_of_getElem? (i := 19) rfl))) (mvT hZ (hw _ (List.mem_of_getElem? (i := 20) rfl))) (mvT hZ (hw _ (List.mem_of_getElem? (i := 21) rfl))) (mvT hZ (hw _ (List.mem_of_getElem? (i := 22) rfl))) (by decide) (backOf (W := 1) (rm_max l Z a0' hw [] ((p0 &&& (2147483647 : Int32)) % (3 : Int32)) ((p1 &&& (2147483647 : Int32)) % (3 : Int32)) h0 n0 Z0) hZ (hw _ (List.mem_of_getElem? (i := 22) rfl)) (hw _ (List.mem_of_getElem? (i := 21) rfl)) (by decide) (by decide)) (g := (mkF m 42 #[.val (.int p0), .val (.int p1), .val (.int ((p0 &&& (2147483647 : Int32)) % (3 : Int32))), .val (.int ((p1 &&& (2147483647 : Int32)) % (3 : Int32))), .val (.ref w_FALSE), .val (.ref w_TRUE), .val (.ref w_TRUE)] [(.int ((p1 &&& (2147483647 : Int32)) % (3 : Int32))), (.int ((p0 &&& (2147483647 : Int32)) % (3 : Int32))), (.int (2 : Int32))])) rfl (by rw [hml]; rfl) (argsL := [(.int ((p0 &&& (2147483647 : Int32)) % (3 : Int32))), (.int ((p1 &&& (2147483647 : Int32)) % (3 : Int32)))]) (rest := [(.int (2 : Int32))]) (lenOf own_pd3 rfl) rfl (by show 2 * 0 + _ ≤ _; exact Nat.le_of_eq rfl) (hb hby at_42) (fun _ _ => ⟨rfl, e54, (by decide : 0 + 0 ≤ _), (by decide : 0 + 0 ≤ _)⟩)
        dsimp only [Pt.U, Pt.locs, Pt.cells, Pt.slots] at X55 l55 y55 z55 st55 hQ55
        subst l55 y55 z55
        obtain ⟨rfl, N55q, e55⟩ := hQ55
        have N55 := Fr.app N54 N55q
        have pre57 : ∀ t, Steps p.tables e below (T55.setTop (mkF m 45 #[.val (.int p0), .val (.int p1), .val (.int ((p0 &&& (2147483647 : Int32)) % (3 : Int32))), .val (.int ((p1 &&& (2147483647 : Int32)) % (3 : Int32))), .val (.ref w_FALSE), .val (.ref w_TRUE), .val (.ref w_TRUE)] [(.int (F_max ((p0 &&& (2147483647 : Int32)) % (3 : Int32)) ((p1 &&& (2147483647 : Int32)) % (3 : Int32)))), (.int (2 : Int32))])) t → Steps p.tables e below (s₁.setTop (entryFrame m #[(.int p0), (.int p1)] maxLocals)) t := fun t k => pre40 t (by
          show Steps p.tables e below (T36.setTop (mkF m 21 #[.val (.int p0), .val (.int p1), .val (.int ((p0 &&& (2147483647 : Int32)) % (3 : Int32))), .val (.int ((p1 &&& (2147483647 : Int32)) % (3 : Int32))), .val (.ref w_FALSE), .unset, .unset] [(.int ((p1 &&& (2147483647 : Int32)) % (3 : Int32)))])) _
          refine st39 _ ?_
          show Steps p.tables e below (T39.setTop (mkF m 24 #[.val (.int p0), .val (.int p1), .val (.int ((p0 &&& (2147483647 : Int32)) % (3 : Int32))), .val (.int ((p1 &&& (2147483647 : Int32)) % (3 : Int32))), .val (.ref w_FALSE), .unset, .unset] [(.ref w_TRUE)])) _
          refine XS.astore X39.here hx rfl (hb hby at_24) rfl rfl (l' := #[.val (.int p0), .val (.int p1), .val (.int ((p0 &&& (2147483647 : Int32)) % (3 : Int32))), .val (.int ((p1 &&& (2147483647 : Int32)) % (3 : Int32))), .val (.ref w_FALSE), .val (.ref w_TRUE), .unset]) rfl ?_
          show Steps p.tables e below (T39.setTop (mkF m 26 #[.val (.int p0), .val (.int p1), .val (.int ((p0 &&& (2147483647 : Int32)) % (3 : Int32))), .val (.int ((p1 &&& (2147483647 : Int32)) % (3 : Int32))), .val (.ref w_FALSE), .val (.ref w_TRUE), .unset] [])) _
          refine XS.aload X39.here hx rfl (hb hby at_26) rfl rfl ?_
          show Steps p.tables e below (T39.setTop (mkF m 28 #[.val (.int p0), .val (.int p1), .val (.int ((p0 &&& (2147483647 : Int32)) % (3 : Int32))), .val (.int ((p1 &&& (2147483647 : Int32)) % (3 : Int32))), .val (.ref w_FALSE), .val (.ref w_TRUE), .unset] [(.ref w_FALSE)])) _
          refine XS.aload X39.here hx rfl (hb hby at_28) rfl rfl ?_
          show Steps p.tables e below (T39.setTop (mkF m 30 #[.val (.int p0), .val (.int p1), .val (.int ((p0 &&& (2147483647 : Int32)) % (3 : Int32))), .val (.int ((p1 &&& (2147483647 : Int32)) % (3 : Int32))), .val (.ref w_FALSE), .val (.ref w_TRUE), .unset] [(.ref w_TRUE), (.ref w_FALSE)])) _
          refine st53.trans ?_
          show Steps p.tables e below (T53.setTop (mkF m 33 #[.val (.int p0), .val (.int p1), .val (.int ((p0 &&& (2147483647 : Int32)) % (3 : Int32))), .val (.int ((p1 &&& (2147483647 : Int32)) % (3 : Int32))), .val (.ref w_FALSE), .val (.ref w_TRUE), .unset] [(.ref w_TRUE)])) _
          refine XS.astore X53.here hx rfl (hb hby at_33) rfl rfl (l' := #[.val (.int p0), .val (.int p1), .val (.int ((p0 &&& (2147483647 : Int32)) % (3 : Int32))), .val (.int ((p1 &&& (2147483647 : Int32)) % (3 : Int32))), .val (.ref w_FALSE), .val (.ref w_TRUE), .val (.ref w_TRUE)]) rfl ?_
          show Steps p.tables e below (T53.setTop (mkF m 35 #[.val (.int p0), .val (.int p1), .val (.int ((p0 &&& (2147483647 : Int32)) % (3 : Int32))), .val (.int ((p1 &&& (2147483647 : Int32)) % (3 : Int32))), .val (.ref w_FALSE), .val (.ref w_TRUE), .val (.ref w_TRUE)] [])) _
          refine XS.aload X53.here hx rfl (hb hby at_35) rfl rfl ?_
          show Steps p.tables e below (T53.setTop (mkF m 37 #[.val (.int p0), .val (.int p1), .val (.int ((p0 &&& (2147483647 : Int32)) % (3 : Int32))), .val (.int ((p1 &&& (2147483647 : Int32)) % (3 : Int32))), .val (.ref w_FALSE), .val (.ref w_TRUE), .val (.ref w_TRUE)] [(.ref w_TRUE)])) _
          refine st54 _ ?_
          show Steps p.tables e below (T54.setTop (mkF m 40 #[.val (.int p0), .val (.int p1), .val (.int ((p0 &&& (2147483647 : Int32)) % (3 : Int32))), .val (.int ((p1 &&& (2147483647 : Int32)) % (3 : Int32))), .val (.ref w_FALSE), .val (.ref w_TRUE), .val (.ref w_TRUE)] [(.int (2 : Int32))])) _
          refine XS.iloadN X54.here hx rfl (hb hby at_40) rfl ?_
          show Steps p.tables e below (T54.setTop (mkF m 41 #[.val (.int p0), .val (.int p1), .val (.int ((p0 &&& (2147483647 : Int32)) % (3 : Int32))), .val (.int ((p1 &&& (2147483647 : Int32)) % (3 : Int32))), .val (.ref w_FALSE), .val (.ref w_TRUE), .val (.ref w_TRUE)] [(.int ((p0 &&& (2147483647 : Int32)) % (3 : Int32))), (.int (2 : Int32))])) _
          refine XS.iloadN X54.here hx rfl (hb hby at_41) rfl ?_
          show Steps p.tables e below (T54.setTop (mkF m 42 #[.val (.int p0), .val (.int p1), .val (.int ((p0 &&& (2147483647 : Int32)) % (3 : Int32))), .val (.int ((p1 &&& (2147483647 : Int32)) % (3 : Int32))), .val (.ref w_FALSE), .val (.ref w_TRUE), .val (.ref w_TRUE)] [(.int ((p1 &&& (2147483647 : Int32)) % (3 : Int32))), (.int ((p0 &&& (2147483647 : Int32)) % (3 : Int32))), (.int (2 : Int32))])) _
          refine st55 _ ?_
          exact k)
        by_cases hc45_56 : (2 : Int32) = (F_max ((p0 &&& (2147483647 : Int32)) % (3 : Int32)) ((p1 &&& (2147483647 : Int32)) % (3 : Int32)))
        · obtain ⟨fs, hr, hrun, hended, hW, hsame⟩ := X55.leave (v := some (.int (1 : Int32))) (fun h => by rw [Bd.returns] at h; cases h)
          refine ⟨_, _, pre57 _ ?_, hrun, hended, _, _, rfl, ?_, ⟨_, rfl⟩, hW, hsame.mono (by decide) (by decide)⟩
          · show Steps p.tables e below (T55.setTop (mkF m 45 #[.val (.int p0), .val (.int p1), .val (.int ((p0 &&& (2147483647 : Int32)) % (3 : Int32))), .val (.int ((p1 &&& (2147483647 : Int32)) % (3 : Int32))), .val (.ref w_FALSE), .val (.ref w_TRUE), .val (.ref w_TRUE)] [(.int (F_max ((p0 &&& (2147483647 : Int32)) % (3 : Int32)) ((p1 &&& (2147483647 : Int32)) % (3 : Int32)))), (.int (2 : Int32))])) _
            refine XS.icmpNo X55.here hx rfl (hb hby at_45) rfl (teq hc45_56).2 ?_
            show Steps p.tables e below (T55.setTop (mkF m 48 #[.val (.int p0), .val (.int p1), .val (.int ((p0 &&& (2147483647 : Int32)) % (3 : Int32))), .val (.int ((p1 &&& (2147483647 : Int32)) % (3 : Int32))), .val (.ref w_FALSE), .val (.ref w_TRUE), .val (.ref w_TRUE)] [])) _
            refine XS.iconst X55.here hx rfl (hb hby at_48) ?_
            show Steps p.tables e below (T55.setTop (mkF m 49 #[.val (.int p0), .val (.int p1), .val (.int ((p0 &&& (2147483647 : Int32)) % (3 : Int32))), .val (.int ((p1 &&& (2147483647 : Int32)) % (3 : Int32))), .val (.ref w_FALSE), .val (.ref w_TRUE), .val (.ref w_TRUE)] [(.int (1 : Int32))])) _
            refine XS.goto X55.here hx rfl (pc0 := 49) (pc' := 53) rfl (hb hby at_49) (by decide) (by decide) ?_
            show Steps p.tables e below (T55.setTop (mkF m 53 #[.val (.int p0), .val (.int p1), .val (.int ((p0 &&& (2147483647 : Int32)) % (3 : Int32))), .val (.int ((p1 &&& (2147483647 : Int32)) % (3 : Int32))), .val (.ref w_FALSE), .val (.ref w_TRUE), .val (.ref w_TRUE)] [(.int (1 : Int32))])) _
            exact retN X55 hx (t := .boolean) Bd.returns (by simp) (hb hby at_53) hr
          · show Q_law Z p0 p1 w_TRUE w_FALSE w_UNKNOWN h0 n0 _ T55.heap _
            refine ⟨?_, N55, trivial⟩
            rw [F_law, if_pos hs_38, if_neg hs_41, if_neg hs_47, if_pos hc45_56]
        · obtain ⟨fs, hr, hrun, hended, hW, hsame⟩ := X55.leave (v := some (.int (0 : Int32))) (fun h => by rw [Bd.returns] at h; cases h)
          refine ⟨_, _, pre57 _ ?_, hrun, hended, _, _, rfl, ?_, ⟨_, rfl⟩, hW, hsame.mono (by decide) (by decide)⟩
          · show Steps p.tables e below (T55.setTop (mkF m 45 #[.val (.int p0), .val (.int p1), .val (.int ((p0 &&& (2147483647 : Int32)) % (3 : Int32))), .val (.int ((p1 &&& (2147483647 : Int32)) % (3 : Int32))), .val (.ref w_FALSE), .val (.ref w_TRUE), .val (.ref w_TRUE)] [(.int (F_max ((p0 &&& (2147483647 : Int32)) % (3 : Int32)) ((p1 &&& (2147483647 : Int32)) % (3 : Int32)))), (.int (2 : Int32))])) _
            refine XS.icmpYes X55.here hx rfl (pc0 := 45) (pc' := 52) rfl (hb hby at_45) rfl (feq hc45_56).2 (by decide) (by decide) ?_
            show Steps p.tables e below (T55.setTop (mkF m 52 #[.val (.int p0), .val (.int p1), .val (.int ((p0 &&& (2147483647 : Int32)) % (3 : Int32))), .val (.int ((p1 &&& (2147483647 : Int32)) % (3 : Int32))), .val (.ref w_FALSE), .val (.ref w_TRUE), .val (.ref w_TRUE)] [])) _
            refine XS.iconst X55.here hx rfl (hb hby at_52) ?_
            show Steps p.tables e below (T55.setTop (mkF m 53 #[.val (.int p0), .val (.int p1), .val (.int ((p0 &&& (2147483647 : Int32)) % (3 : Int32))), .val (.int ((p1 &&& (2147483647 : Int32)) % (3 : Int32))), .val (.ref w_FALSE), .val (.ref w_TRUE), .val (.ref w_TRUE)] [(.int (0 : Int32))])) _
            exact retN X55 hx (t := .boolean) Bd.returns (by simp) (hb hby at_53) hr
          · show Q_law Z p0 p1 w_TRUE w_FALSE w_UNKNOWN h0 n0 _ T55.heap _
            refine ⟨?_, N55, trivial⟩
            rw [F_law, if_pos hs_38, if_neg hs_41, if_neg hs_47, if_neg hc45_56]
  · by_cases hs_58 : ((p0 &&& (2147483647 : Int32)) % (3 : Int32)) = (1 : Int32)
    · have q36 : (F_pick ((p0 &&& (2147483647 : Int32)) % (3 : Int32)) w_TRUE w_FALSE w_UNKNOWN) = w_UNKNOWN := by rw [F_pick, if_neg hs_38, if_pos hs_58]
      rw [q36] at st36
      obtain ⟨_, _, ⟨T59, L59, k59, n59⟩, -, X59, ⟨Lc59, hQ59, l59, y59, z59⟩, st59⟩ := Jvm.LawKit.callS X36 hx (y := (⟨"com/example/gard/gard/core/TruthOrPinLaw", "pick", "(I)Lcom/example/gard/gard/core/Truth;"⟩ : MethodName)) hown (mvT hZ (hw _ (List.mem_of_getElem? (i := 1) rfl))) (mvT hZ (hw _ (List.mem_of_getElem? (i := 2) rfl))) (mvT hZ (hw _ (List.mem_of_getElem? (i := 3) rfl))) (mvT hZ (hw _ (List.mem_of_getElem? (i := 4) rfl))) (by decide) (backOf (W := 0) (rm_pick l Z a0' hw [] ((p1 &&& (2147483647 : Int32)) % (3 : Int32)) w_TRUE w_FALSE w_UNKNOWN h0 n0 Z0 S_TRUE S_FALSE S_UNKNOWN) hZ (hw _ (List.mem_of_getElem? (i := 4) rfl)) (hw _ (List.mem_of_getElem? (i := 3) rfl)) (by decide) (by decide)) (g := (mkF m 21 #[.val (.int p0), .val (.int p1), .val (.int ((p0 &&& (2147483647 : Int32)) % (3 : Int32))), .val (.int ((p1 &&& (2147483647 : Int32)) % (3 : Int32))), .val (.ref w_UNKNOWN), .unset, .unset] [(.int ((p1 &&& (2147483647 : Int32)) % (3 : Int32)))])) rfl (by rw [hml]; rfl) (argsL := [(.int ((p1 &&& (2147483647 : Int32)) % (3 : Int32)))]) (rest := []) (lenOf own_pd0 rfl) rfl (by show 2 * 0 + _ ≤ _; exact Nat.le_of_eq rfl) (hb hby at_21) (fun _ _ => ⟨rfl, e36, (by decide : 0 + 0 ≤ _), (by decide : 0 + 0 ≤ _)⟩)
      dsimp only [Pt.U, Pt.locs, Pt.cells, Pt.slots] at X59 l59 y59 z59 st59 hQ59
      subst l59 y59 z59
      obtain ⟨rfl, N59q, e59⟩ := hQ59
      have N59 := Fr.app N36 N59q
      have pre60 : ∀ t, Steps p.tables e below (T36.setTop (mkF m 21 #[.val (.int p0), .val (.int p1), .val (.int ((p0 &&& (2147483647 : Int32)) % (3 : Int32))), .val (.int ((p1 &&& (2147483647 : Int32)) % (3 : Int32))), .val (.ref w_UNKNOWN), .unset, .unset] [(.int ((p1 &&& (2147483647 : Int32)) % (3 : Int32)))])) t → Steps p.tables e below (s₁.setTop (entryFrame m #[(.int p0), (.int p1)] maxLocals)) t := fun t k => pre37 t (by
        show Steps p.tables e below (s₁.setTop (mkF m 15 #[.val (.int p0), .val (.int p1), .val (.int ((p0 &&& (2147483647 : Int32)) % (3 : Int32))), .val (.int ((p1 &&& (2147483647 : Int32)) % (3 : Int32))), .unset, .unset, .unset] [(.int ((p0 &&& (2147483647 : Int32)) % (3 : Int32)))])) _
        refine st36 _ ?_
        show Steps p.tables e below (T36.setTop (mkF m 18 #[.val (.int p0), .val (.int p1), .val (.int ((p0 &&& (2147483647 : Int32)) % (3 : Int32))), .val (.int ((p1 &&& (2147483647 : Int32)) % (3 : Int32))), .unset, .unset, .unset] [(.ref w_UNKNOWN)])) _
        refine XS.astore X36.here hx rfl (hb hby at_18) rfl rfl (l' := #[.val (.int p0), .val (.int p1), .val (.int ((p0 &&& (2147483647 : Int32)) % (3 : Int32))), .val (.int ((p1 &&& (2147483647 : Int32)) % (3 : Int32))), .val (.ref w_UNKNOWN), .unset, .unset]) rfl ?_
        show Steps p.tables e below (T36.setTop (mkF m 20 #[.val (.int p0), .val (.int p1), .val (.int ((p0 &&& (2147483647 : Int32)) % (3 : Int32))), .val (.int ((p1 &&& (2147483647 : Int32)) % (3 : Int32))), .val (.ref w_UNKNOWN), .unset, .unset] [])) _
        refine XS.iloadN X36.here hx rfl (hb hby at_20) rfl ?_
        exact k)
      by_cases hs_61 : ((p1 &&& (2147483647 : Int32)) % (3 : Int32)) = (0 : Int32)
      · have q59 : (F_pick ((p1 &&& (2147483647 : Int32)) % (3 : Int32)) w_TRUE w_FALSE w_UNKNOWN) = w_FALSE := by rw [F_pick, if_pos hs_61]
        rw [q59] at st59
        obtain ⟨cq62, kq62, q62a, q62b, q62c⟩ := isOf hZ e59 E_UNKNOWN
        obtain ⟨_, _, ⟨T62, L62, k62, n62⟩, -, X62, ⟨Lc62, hQ62, l62, y62, z62⟩, st62⟩ := X59.virtualBack hx (y := (⟨"com/example/gard/gard/core/Truth", "or", "(Lcom/example/gard/gard/core/Truth;)Lcom/example/gard/gard/core/Truth;"⟩ : MethodName)) (z := (⟨"com/example/gard/gard/core/Truth", "or", "(Lcom/example/gard/gard/core/Truth;)Lcom/example/gard/gard/core/Truth;"⟩ : MethodName)) hown (mvT hZ (hw _ (List.mem_of_getElem? (i := 8) rfl))) (mvT hZ (hw _ (List.mem_of_getElem? (i := 9) rfl))) (notFace_of_selects (args := #[]) (mvT hZ (hw _ (List.mem_of_getElem? (i := 11) rfl)))) (mvT hZ (hw _ (List.mem_of_getElem? (i := 11) rfl))) (mvT hZ (hw _ (List.mem_of_getElem? (i := 10) rfl))) (by decide) (backOf (W := 0) (rm_disj l Z a0' hw [] w_UNKNOWN w_FALSE w_TRUE w_FALSE w_UNKNOWN h0 n0 Z0 S_TRUE S_FALSE S_UNKNOWN) hZ (hw _ (List.mem_of_getElem? (i := 12) rfl)) (hw _ (List.mem_of_getElem? (i := 6) rfl)) (by decide) (by decide)) q62a q62c (g := (mkF m 30 #[.val (.int p0), .val (.int p1), .val (.int ((p0 &&& (2147483647 : Int32)) % (3 : Int32))), .val (.int ((p1 &&& (2147483647 : Int32)) % (3 : Int32))), .val (.ref w_UNKNOWN), .val (.ref w_FALSE), .unset] [(.ref w_FALSE), (.ref w_UNKNOWN)])) rfl (by rw [hml]; rfl) (Steps.refl _) (argsL := [(.ref w_FALSE)]) (rest := []) (lenOf own_pd1 rfl) rfl (by show 2 * 0 + _ ≤ _; exact Nat.le_of_eq rfl) (hb hby at_30) (fun _ _ => ⟨rfl, e59, (by decide : 0 + 0 ≤ _), (by decide : 0 + 0 ≤ _)⟩)
        dsimp only [Pt.U, Pt.locs, Pt.cells, Pt.slots] at X62 l62 y62 z62 st62 hQ62
        subst l62 y62 z62
        obtain ⟨rfl, N62q, e62⟩ := hQ62
        have N62 := Fr.app N59 N62q
        have q62 : (F_disj w_UNKNOWN w_FALSE w_TRUE w_FALSE w_UNKNOWN) = w_UNKNOWN := by rw [F_disj, if_neg ne_UNKNOWN_TRUE, if_neg ne_FALSE_TRUE, if_neg ne_UNKNOWN_FALSE]
        rw [q62] at st62
        obtain ⟨_, _, ⟨T63, L63, k63, n63⟩, -, X63, ⟨Lc63, hQ63, l63, y63, z63⟩, st63⟩ := Jvm.LawKit.callS X62 hx (y := (⟨"com/example/gard/gard/core/TruthOrPinLaw", "rank", "(Lcom/example/gard/gard/core/Truth;)I"⟩ : MethodName)) hown (mvT hZ (hw _ (List.mem_of_getElem? (i := 16) rfl))) (mvT hZ (hw _ (List.mem_of_getElem? (i := 17) rfl))) (mvT hZ (hw _ (List.mem_of_getElem? (i := 3) rfl))) (mvT hZ (hw _ (List.mem_of_getElem? (i := 18) rfl))) (by decide) (backOf (W := 0) (rm_rank l Z a0' hw [] w_UNKNOWN w_TRUE w_FALSE w_UNKNOWN h0 n0 Z0 S_TRUE S_FALSE S_UNKNOWN) hZ (hw _ (List.mem_of_getElem? (i := 18) rfl)) (hw _ (List.mem_of_getElem? (i := 3) rfl)) (by decide) (by decide)) (g := (mkF m 37 #[.val (.int p0), .val (.int p1), .val (.int ((p0 &&& (2147483647 : Int32)) % (3 : Int32))), .val (.int ((p1 &&& (2147483647 : Int32)) % (3 : Int32))), .val (.ref w_UNKNOWN), .val (.ref w_FALSE), .val (.ref w_UNKNOWN)] [(.ref w_UNKNOWN)])) rfl (by rw [hml]; rfl) (argsL := [(.ref w_UNKNOWN)]) (rest := []) (lenOf own_pd2 rfl) rfl (by show 2 * 0 + _ ≤ _; exact Nat.le_of_eq rfl) (hb hby at_37) (fun _ _ => ⟨rfl, e62, (by decide : 0 + 0 ≤ _), (by decide : 0 + 0 ≤ _)⟩)
        dsimp only [Pt.U, Pt.locs, Pt.cells, Pt.slots] at X63 l63 y63 z63 st63 hQ63
        subst l63 y63 z63
        obtain ⟨rfl, N63q, e63⟩ := hQ63
        have N63 := Fr.app N62 N63q
        have q63 : (F_rank w_UNKNOWN w_TRUE w_FALSE w_UNKNOWN) = (1 : Int32) := by rw [F_rank, if_neg ne_UNKNOWN_FALSE, if_pos (rfl : w_UNKNOWN = w_UNKNOWN)]
        rw [q63] at st63
        obtain ⟨_, _, ⟨T64, L64, k64, n64⟩, -, X64, ⟨Lc64, hQ64, l64, y64, z64⟩, st64⟩ := Jvm.LawKit.callS X63 hx (y := (⟨"java/lang/Math", "max", "(II)I"⟩ : MethodName)) hown (mvT hZ (hw _ (List.mem_of_getElem? (i := 19) rfl))) (mvT hZ (hw _ (List.mem_of_getElem? (i := 20) rfl))) (mvT hZ (hw _ (List.mem_of_getElem? (i := 21) rfl))) (mvT hZ (hw _ (List.mem_of_getElem? (i := 22) rfl))) (by decide) (backOf (W := 1) (rm_max l Z a0' hw [] ((p0 &&& (2147483647 : Int32)) % (3 : Int32)) ((p1 &&& (2147483647 : Int32)) % (3 : Int32)) h0 n0 Z0) hZ (hw _ (List.mem_of_getElem? (i := 22) rfl)) (hw _ (List.mem_of_getElem? (i := 21) rfl)) (by decide) (by decide)) (g := (mkF m 42 #[.val (.int p0), .val (.int p1), .val (.int ((p0 &&& (2147483647 : Int32)) % (3 : Int32))), .val (.int ((p1 &&& (2147483647 : Int32)) % (3 : Int32))), .val (.ref w_UNKNOWN), .val (.ref w_FALSE), .val (.ref w_UNKNOWN)] [(.int ((p1 &&& (2147483647 : Int32)) % (3 : Int32))), (.int ((p0 &&& (2147483647 : Int32)) % (3 : Int32))), (.int (1 : Int32))])) rfl (by rw [hml]; rfl) (argsL := [(.int ((p0 &&& (2147483647 : Int32)) % (3 : Int32))), (.int ((p1 &&& (2147483647 : Int32)) % (3 : Int32)))]) (rest := [(.int (1 : Int32))]) (lenOf own_pd3 rfl) rfl (by show 2 * 0 + _ ≤ _; exact Nat.le_of_eq rfl) (hb hby at_42) (fun _ _ => ⟨rfl, e63, (by decide : 0 + 0 ≤ _), (by decide : 0 + 0 ≤ _)⟩)
        dsimp only [Pt.U, Pt.locs, Pt.cells, Pt.slots] at X64 l64 y64 z64 st64 hQ64
        subst l64 y64 z64
        obtain ⟨rfl, N64q, e64⟩ := hQ64
        have N64 := Fr.app N63 N64q
        have pre66 : ∀ t, Steps p.tables e below (T64.setTop (mkF m 45 #[.val (.int p0), .val (.int p1), .val (.int ((p0 &&& (2147483647 : Int32)) % (3 : Int32))), .val (.int ((p1 &&& (2147483647 : Int32)) % (3 : Int32))), .val (.ref w_UNKNOWN), .val (.ref w_FALSE), .val (.ref w_UNKNOWN)] [(.int (F_max ((p0 &&& (2147483647 : Int32)) % (3 : Int32)) ((p1 &&& (2147483647 : Int32)) % (3 : Int32)))), (.int (1 : Int32))])) t → Steps p.tables e below (s₁.setTop (entryFrame m #[(.int p0), (.int p1)] maxLocals)) t := fun t k => pre60 t (by
          show Steps p.tables e below (T36.setTop (mkF m 21 #[.val (.int p0), .val (.int p1), .val (.int ((p0 &&& (2147483647 : Int32)) % (3 : Int32))), .val (.int ((p1 &&& (2147483647 : Int32)) % (3 : Int32))), .val (.ref w_UNKNOWN), .unset, .unset] [(.int ((p1 &&& (2147483647 : Int32)) % (3 : Int32)))])) _
          refine st59 _ ?_
          show Steps p.tables e below (T59.setTop (mkF m 24 #[.val (.int p0), .val (.int p1), .val (.int ((p0 &&& (2147483647 : Int32)) % (3 : Int32))), .val (.int ((p1 &&& (2147483647 : Int32)) % (3 : Int32))), .val (.ref w_UNKNOWN), .unset, .unset] [(.ref w_FALSE)])) _
          refine XS.astore X59.here hx rfl (hb hby at_24) rfl rfl (l' := #[.val (.int p0), .val (.int p1), .val (.int ((p0 &&& (2147483647 : Int32)) % (3 : Int32))), .val (.int ((p1 &&& (2147483647 : Int32)) % (3 : Int32))), .val (.ref w_UNKNOWN), .val (.ref w_FALSE), .unset]) rfl ?_
          show Steps p.tables e below (T59.setTop (mkF m 26 #[.val (.int p0), .val (.int p1), .val (.int ((p0 &&& (2147483647 : Int32)) % (3 : Int32))), .val (.int ((p1 &&& (2147483647 : Int32)) % (3 : Int32))), .val (.ref w_UNKNOWN), .val (.ref w_FALSE), .unset] [])) _
          refine XS.aload X59.here hx rfl (hb hby at_26) rfl rfl ?_
          show Steps p.tables e below (T59.setTop (mkF m 28 #[.val (.int p0), .val (.int p1), .val (.int ((p0 &&& (2147483647 : Int32)) % (3 : Int32))), .val (.int ((p1 &&& (2147483647 : Int32)) % (3 : Int32))), .val (.ref w_UNKNOWN), .val (.ref w_FALSE), .unset] [(.ref w_UNKNOWN)])) _
          refine XS.aload X59.here hx rfl (hb hby at_28) rfl rfl ?_
          show Steps p.tables e below (T59.setTop (mkF m 30 #[.val (.int p0), .val (.int p1), .val (.int ((p0 &&& (2147483647 : Int32)) % (3 : Int32))), .val (.int ((p1 &&& (2147483647 : Int32)) % (3 : Int32))), .val (.ref w_UNKNOWN), .val (.ref w_FALSE), .unset] [(.ref w_FALSE), (.ref w_UNKNOWN)])) _
          refine st62.trans ?_
          show Steps p.tables e below (T62.setTop (mkF m 33 #[.val (.int p0), .val (.int p1), .val (.int ((p0 &&& (2147483647 : Int32)) % (3 : Int32))), .val (.int ((p1 &&& (2147483647 : Int32)) % (3 : Int32))), .val (.ref w_UNKNOWN), .val (.ref w_FALSE), .unset] [(.ref w_UNKNOWN)])) _
          refine XS.astore X62.here hx rfl (hb hby at_33) rfl rfl (l' := #[.val (.int p0), .val (.int p1), .val (.int ((p0 &&& (2147483647 : Int32)) % (3 : Int32))), .val (.int ((p1 &&& (2147483647 : Int32)) % (3 : Int32))), .val (.ref w_UNKNOWN), .val (.ref w_FALSE), .val (.ref w_UNKNOWN)]) rfl ?_
          show Steps p.tables e below (T62.setTop (mkF m 35 #[.val (.int p0), .val (.int p1), .val (.int ((p0 &&& (2147483647 : Int32)) % (3 : Int32))), .val (.int ((p1 &&& (2147483647 : Int32)) % (3 : Int32))), .val (.ref w_UNKNOWN), .val (.ref w_FALSE), .val (.ref w_UNKNOWN)] [])) _
          refine XS.aload X62.here hx rfl (hb hby at_35) rfl rfl ?_
          show Steps p.tables e below (T62.setTop (mkF m 37 #[.val (.int p0), .val (.int p1), .val (.int ((p0 &&& (2147483647 : Int32)) % (3 : Int32))), .val (.int ((p1 &&& (2147483647 : Int32)) % (3 : Int32))), .val (.ref w_UNKNOWN), .val (.ref w_FALSE), .val (.ref w_UNKNOWN)] [(.ref w_UNKNOWN)])) _
          refine st63 _ ?_
          show Steps p.tables e below (T63.setTop (mkF m 40 #[.val (.int p0), .val (.int p1), .val (.int ((p0 &&& (2147483647 : Int32)) % (3 : Int32))), .val (.int ((p1 &&& (2147483647 : Int32)) % (3 : Int32))), .val (.ref w_UNKNOWN), .val (.ref w_FALSE), .val (.ref w_UNKNOWN)] [(.int (1 : Int32))])) _
          refine XS.iloadN X63.here hx rfl (hb hby at_40) rfl ?_
          show Steps p.tables e below (T63.setTop (mkF m 41 #[.val (.int p0), .val (.int p1), .val (.int ((p0 &&& (2147483647 : Int32)) % (3 : Int32))), .val (.int ((p1 &&& (2147483647 : Int32)) % (3 : Int32))), .val (.ref w_UNKNOWN), .val (.ref w_FALSE), .val (.ref w_UNKNOWN)] [(.int ((p0 &&& (2147483647 : Int32)) % (3 : Int32))), (.int (1 : Int32))])) _
          refine XS.iloadN X63.here hx rfl (hb hby at_41) rfl ?_
          show Steps p.tables e below (T63.setTop (mkF m 42 #[.val (.int p0), .val (.int p1), .val (.int ((p0 &&& (2147483647 : Int32)) % (3 : Int32))), .val (.int ((p1 &&& (2147483647 : Int32)) % (3 : Int32))), .val (.ref w_UNKNOWN), .val (.ref w_FALSE), .val (.ref w_UNKNOWN)] [(.int ((p1 &&& (2147483647 : Int32)) % (3 : Int32))), (.int ((p0 &&& (2147483647 : Int32)) % (3 : Int32))), (.int (1 : Int32))])) _
          refine st64 _ ?_
          exact k)
        by_cases hc45_65 : (1 : Int32) = (F_max ((p0 &&& (2147483647 : Int32)) % (3 : Int32)) ((p1 &&& (2147483647 : Int32)) % (3 : Int32)))
        · obtain ⟨fs, hr, hrun, hended, hW, hsame⟩ := X64.leave (v := some (.int (1 : Int32))) (fun h => by rw [Bd.returns] at h; cases h)
          refine ⟨_, _, pre66 _ ?_, hrun, hended, _, _, rfl, ?_, ⟨_, rfl⟩, hW, hsame.mono (by decide) (by decide)⟩
          · show Steps p.tables e below (T64.setTop (mkF m 45 #[.val (.int p0), .val (.int p1), .val (.int ((p0 &&& (2147483647 : Int32)) % (3 : Int32))), .val (.int ((p1 &&& (2147483647 : Int32)) % (3 : Int32))), .val (.ref w_UNKNOWN), .val (.ref w_FALSE), .val (.ref w_UNKNOWN)] [(.int (F_max ((p0 &&& (2147483647 : Int32)) % (3 : Int32)) ((p1 &&& (2147483647 : Int32)) % (3 : Int32)))), (.int (1 : Int32))])) _
            refine XS.icmpNo X64.here hx rfl (hb hby at_45) rfl (teq hc45_65).2 ?_
            show Steps p.tables e below (T64.setTop (mkF m 48 #[.val (.int p0), .val (.int p1), .val (.int ((p0 &&& (2147483647 : Int32)) % (3 : Int32))), .val (.int ((p1 &&& (2147483647 : Int32)) % (3 : Int32))), .val (.ref w_UNKNOWN), .val (.ref w_FALSE), .val (.ref w_UNKNOWN)] [])) _
            refine XS.iconst X64.here hx rfl (hb hby at_48) ?_
            show Steps p.tables e below (T64.setTop (mkF m 49 #[.val (.int p0), .val (.int p1), .val (.int ((p0 &&& (2147483647 : Int32)) % (3 : Int32))), .val (.int ((p1 &&& (2147483647 : Int32)) % (3 : Int32))), .val (.ref w_UNKNOWN), .val (.ref w_FALSE), .val (.ref w_UNKNOWN)] [(.int (1 : Int32))])) _
            refine XS.goto X64.here hx rfl (pc0 := 49) (pc' := 53) rfl (hb hby at_49) (by decide) (by decide) ?_
            show Steps p.tables e below (T64.setTop (mkF m 53 #[.val (.int p0), .val (.int p1), .val (.int ((p0 &&& (2147483647 : Int32)) % (3 : Int32))), .val (.int ((p1 &&& (2147483647 : Int32)) % (3 : Int32))), .val (.ref w_UNKNOWN), .val (.ref w_FALSE), .val (.ref w_UNKNOWN)] [(.int (1 : Int32))])) _
            exact retN X64 hx (t := .boolean) Bd.returns (by simp) (hb hby at_53) hr
          · show Q_law Z p0 p1 w_TRUE w_FALSE w_UNKNOWN h0 n0 _ T64.heap _
            refine ⟨?_, N64, trivial⟩
            rw [F_law, if_neg hs_38, if_pos hs_58, if_pos hs_61, if_pos hc45_65]
        · obtain ⟨fs, hr, hrun, hended, hW, hsame⟩ := X64.leave (v := some (.int (0 : Int32))) (fun h => by rw [Bd.returns] at h; cases h)
          refine ⟨_, _, pre66 _ ?_, hrun, hended, _, _, rfl, ?_, ⟨_, rfl⟩, hW, hsame.mono (by decide) (by decide)⟩
          · show Steps p.tables e below (T64.setTop (mkF m 45 #[.val (.int p0), .val (.int p1), .val (.int ((p0 &&& (2147483647 : Int32)) % (3 : Int32))), .val (.int ((p1 &&& (2147483647 : Int32)) % (3 : Int32))), .val (.ref w_UNKNOWN), .val (.ref w_FALSE), .val (.ref w_UNKNOWN)] [(.int (F_max ((p0 &&& (2147483647 : Int32)) % (3 : Int32)) ((p1 &&& (2147483647 : Int32)) % (3 : Int32)))), (.int (1 : Int32))])) _
            refine XS.icmpYes X64.here hx rfl (pc0 := 45) (pc' := 52) rfl (hb hby at_45) rfl (feq hc45_65).2 (by decide) (by decide) ?_
            show Steps p.tables e below (T64.setTop (mkF m 52 #[.val (.int p0), .val (.int p1), .val (.int ((p0 &&& (2147483647 : Int32)) % (3 : Int32))), .val (.int ((p1 &&& (2147483647 : Int32)) % (3 : Int32))), .val (.ref w_UNKNOWN), .val (.ref w_FALSE), .val (.ref w_UNKNOWN)] [])) _
            refine XS.iconst X64.here hx rfl (hb hby at_52) ?_
            show Steps p.tables e below (T64.setTop (mkF m 53 #[.val (.int p0), .val (.int p1), .val (.int ((p0 &&& (2147483647 : Int32)) % (3 : Int32))), .val (.int ((p1 &&& (2147483647 : Int32)) % (3 : Int32))), .val (.ref w_UNKNOWN), .val (.ref w_FALSE), .val (.ref w_UNKNOWN)] [(.int (0 : Int32))])) _
            exact retN X64 hx (t := .boolean) Bd.returns (by simp) (hb hby at_53) hr
          · show Q_law Z p0 p1 w_TRUE w_FALSE w_UNKNOWN h0 n0 _ T64.heap _
            refine ⟨?_, N64, trivial⟩
            rw [F_law, if_neg hs_38, if_pos hs_58, if_pos hs_61, if_neg hc45_65]
      · by_cases hs_67 : ((p1 &&& (2147483647 : Int32)) % (3 : Int32)) = (1 : Int32)
        · have q59 : (F_pick ((p1 &&& (2147483647 : Int32)) % (3 : Int32)) w_TRUE w_FALSE w_UNKNOWN) = w_UNKNOWN := by rw [F_pick, if_neg hs_61, if_pos hs_67]
          rw [q59] at st59
          obtain ⟨cq68, kq68, q68a, q68b, q68c⟩ := isOf hZ e59 E_UNKNOWN
          obtain ⟨_, _, ⟨T68, L68, k68, n68⟩, -, X68, ⟨Lc68, hQ68, l68, y68, z68⟩, st68⟩ := X59.virtualBack hx (y := (⟨"com/example/gard/gard/core/Truth", "or", "(Lcom/example/gard/gard/core/Truth;)Lcom/example/gard/gard/core/Truth;"⟩ : MethodName)) (z := (⟨"com/example/gard/gard/core/Truth", "or", "(Lcom/example/gard/gard/core/Truth;)Lcom/example/gard/gard/core/Truth;"⟩ : MethodName)) hown (mvT hZ (hw _ (List.mem_of_getElem? (i := 8) rfl))) (mvT hZ (hw _ (List.mem_of_getElem? (i := 9) rfl))) (notFace_of_selects (args := #[]) (mvT hZ (hw _ (List.mem_of_getElem? (i := 11) rfl)))) (mvT hZ (hw _ (List.mem_of_getElem? (i := 11) rfl))) (mvT hZ (hw _ (List.mem_of_getElem? (i := 10) rfl))) (by decide) (backOf (W := 0) (rm_disj l Z a0' hw [] w_UNKNOWN w_UNKNOWN w_TRUE w_FALSE w_UNKNOWN h0 n0 Z0 S_TRUE S_FALSE S_UNKNOWN) hZ (hw _ (List.mem_of_getElem? (i := 12) rfl)) (hw _ (List.mem_of_getElem? (i := 6) rfl)) (by decide) (by decide)) q68a q68c (g := (mkF m 30 #[.val (.int p0), .val (.int p1), .val (.int ((p0 &&& (2147483647 : Int32)) % (3 : Int32))), .val (.int ((p1 &&& (2147483647 : Int32)) % (3 : Int32))), .val (.ref w_UNKNOWN), .val (.ref w_UNKNOWN), .unset] [(.ref w_UNKNOWN), (.ref w_UNKNOWN)])) rfl (by rw [hml]; rfl) (Steps.refl _) (argsL := [(.ref w_UNKNOWN)]) (rest := []) (lenOf own_pd1 rfl) rfl (by show 2 * 0 + _ ≤ _; exact Nat.le_of_eq rfl) (hb hby at_30) (fun _ _ => ⟨rfl, e59, (by decide : 0 + 0 ≤ _), (by decide : 0 + 0 ≤ _)⟩)
          dsimp only [Pt.U, Pt.locs, Pt.cells, Pt.slots] at X68 l68 y68 z68 st68 hQ68
          subst l68 y68 z68
          obtain ⟨rfl, N68q, e68⟩ := hQ68
          have N68 := Fr.app N59 N68q
          have q68 : (F_disj w_UNKNOWN w_UNKNOWN w_TRUE w_FALSE w_UNKNOWN) = w_UNKNOWN := by rw [F_disj, if_neg ne_UNKNOWN_TRUE, if_neg ne_UNKNOWN_TRUE, if_neg ne_UNKNOWN_FALSE]
          rw [q68] at st68
          obtain ⟨_, _, ⟨T69, L69, k69, n69⟩, -, X69, ⟨Lc69, hQ69, l69, y69, z69⟩, st69⟩ := Jvm.LawKit.callS X68 hx (y := (⟨"com/example/gard/gard/core/TruthOrPinLaw", "rank", "(Lcom/example/gard/gard/core/Truth;)I"⟩ : MethodName)) hown (mvT hZ (hw _ (List.mem_of_getElem? (i := 16) rfl))) (mvT hZ (hw _ (List.mem_of_getElem? (i := 17) rfl))) (mvT hZ (hw _ (List.mem_of_getElem? (i := 3) rfl))) (mvT hZ (hw _ (List.mem_of_getElem? (i := 18) rfl))) (by decide) (backOf (W := 0) (rm_rank l Z a0' hw [] w_UNKNOWN w_TRUE w_FALSE w_UNKNOWN h0 n0 Z0 S_TRUE S_FALSE S_UNKNOWN) hZ (hw _ (List.mem_of_getElem? (i := 18) rfl)) (hw _ (List.mem_of_getElem? (i := 3) rfl)) (by decide) (by decide)) (g := (mkF m 37 #[.val (.int p0), .val (.int p1), .val (.int ((p0 &&& (2147483647 : Int32)) % (3 : Int32))), .val (.int ((p1 &&& (2147483647 : Int32)) % (3 : Int32))), .val (.ref w_UNKNOWN), .val (.ref w_UNKNOWN), .val (.ref w_UNKNOWN)] [(.ref w_UNKNOWN)])) rfl (by rw [hml]; rfl) (argsL := [(.ref w_UNKNOWN)]) (rest := []) (lenOf own_pd2 rfl) rfl (by show 2 * 0 + _ ≤ _; exact Nat.le_of_eq rfl) (hb hby at_37) (fun _ _ => ⟨rfl, e68, (by decide : 0 + 0 ≤ _), (by decide : 0 + 0 ≤ _)⟩)
          dsimp only [Pt.U, Pt.locs, Pt.cells, Pt.slots] at X69 l69 y69 z69 st69 hQ69
          subst l69 y69 z69
          obtain ⟨rfl, N69q, e69⟩ := hQ69
          have N69 := Fr.app N68 N69q
          have q69 : (F_rank w_UNKNOWN w_TRUE w_FALSE w_UNKNOWN) = (1 : Int32) := by rw [F_rank, if_neg ne_UNKNOWN_FALSE, if_pos (rfl : w_UNKNOWN = w_UNKNOWN)]
          rw [q69] at st69
          obtain ⟨_, _, ⟨T70, L70, k70, n70⟩, -, X70, ⟨Lc70, hQ70, l70, y70, z70⟩, st70⟩ := Jvm.LawKit.callS X69 hx (y := (⟨"java/lang/Math", "max", "(II)I"⟩ : MethodName)) hown (mvT hZ (hw _ (List.mem_of_getElem? (i := 19) rfl))) (mvT hZ (hw _ (List.mem_of_getElem? (i := 20) rfl))) (mvT hZ (hw _ (List.mem_of_getElem? (i := 21) rfl))) (mvT hZ (hw _ (List.mem_of_getElem? (i := 22) rfl))) (by decide) (backOf (W := 1) (rm_max l Z a0' hw [] ((p0 &&& (2147483647 : Int32)) % (3 : Int32)) ((p1 &&& (2147483647 : Int32)) % (3 : Int32)) h0 n0 Z0) hZ (hw _ (List.mem_of_getElem? (i := 22) rfl)) (hw _ (List.mem_of_getElem? (i := 21) rfl)) (by decide) (by decide)) (g := (mkF m 42 #[.val (.int p0), .val (.int p1), .val (.int ((p0 &&& (2147483647 : Int32)) % (3 : Int32))), .val (.int ((p1 &&& (2147483647 : Int32)) % (3 : Int32))), .val (.ref w_UNKNOWN), .val (.ref w_UNKNOWN), .val (.ref w_UNKNOWN)] [(.int ((p1 &&& (2147483647 : Int32)) % (3 : Int32))), (.int ((p0 &&& (2147483647 : Int32)) % (3 : Int32))), (.int (1 : Int32))])) rfl (by rw [hml]; rfl) (argsL := [(.int ((p0 &&& (2147483647 : Int32)) % (3 : Int32))), (.int ((p1 &&& (2147483647 : Int32)) % (3 : Int32)))]) (rest := [(.int (1 : Int32))]) (lenOf own_pd3 rfl) rfl (by show 2 * 0 + _ ≤ _; exact Nat.le_of_eq rfl) (hb hby at_42) (fun _ _ => ⟨rfl, e69, (by decide : 0 + 0 ≤ _), (by decide : 0 + 0 ≤ _)⟩)
          dsimp only [Pt.U, Pt.locs, Pt.cells, Pt.slots] at X70 l70 y70 z70 st70 hQ70
          subst l70 y70 z70
          obtain ⟨rfl, N70q, e70⟩ := hQ70
          have N70 := Fr.app N69 N70q
          have pre72 : ∀ t, Steps p.tables e below (T70.setTop (mkF m 45 #[.val (.int p0), .val (.int p1), .val (.int ((p0 &&& (2147483647 : Int32)) % (3 : Int32))), .val (.int ((p1 &&& (2147483647 : Int32)) % (3 : Int32))), .val (.ref w_UNKNOWN), .val (.ref w_UNKNOWN), .val (.ref w_UNKNOWN)] [(.int (F_max ((p0 &&& (2147483647 : Int32)) % (3 : Int32)) ((p1 &&& (2147483647 : Int32)) % (3 : Int32)))), (.int (1 : Int32))])) t → Steps p.tables e below (s₁.setTop (entryFrame m #[(.int p0), (.int p1)] maxLocals)) t := fun t k => pre60 t (by
            show Steps p.tables e below (T36.setTop (mkF m 21 #[.val (.int p0), .val (.int p1), .val (.int ((p0 &&& (2147483647 : Int32)) % (3 : Int32))), .val (.int ((p1 &&& (2147483647 : Int32)) % (3 : Int32))), .val (.ref w_UNKNOWN), .unset, .unset] [(.int ((p1 &&& (2147483647 : Int32)) % (3 : Int32)))])) _
            refine st59 _ ?_
            show Steps p.tables e below (T59.setTop (mkF m 24 #[.val (.int p0), .val (.int p1), .val (.int ((p0 &&& (2147483647 : Int32)) % (3 : Int32))), .val (.int ((p1 &&& (2147483647 : Int32)) % (3 : Int32))), .val (.ref w_UNKNOWN), .unset, .unset] [(.ref w_UNKNOWN)])) _
            refine XS.astore X59.here hx rfl (hb hby at_24) rfl rfl (l' := #[.val (.int p0), .val (.int p1), .val (.int ((p0 &&& (2147483647 : Int32)) % (3 : Int32))), .val (.int ((p1 &&& (2147483647 : Int32)) % (3 : Int32))), .val (.ref w_UNKNOWN), .val (.ref w_UNKNOWN), .unset]) rfl ?_
            show Steps p.tables e below (T59.setTop (mkF m 26 #[.val (.int p0), .val (.int p1), .val (.int ((p0 &&& (2147483647 : Int32)) % (3 : Int32))), .val (.int ((p1 &&& (2147483647 : Int32)) % (3 : Int32))), .val (.ref w_UNKNOWN), .val (.ref w_UNKNOWN), .unset] [])) _
            refine XS.aload X59.here hx rfl (hb hby at_26) rfl rfl ?_
            show Steps p.tables e below (T59.setTop (mkF m 28 #[.val (.int p0), .val (.int p1), .val (.int ((p0 &&& (2147483647 : Int32)) % (3 : Int32))), .val (.int ((p1 &&& (2147483647 : Int32)) % (3 : Int32))), .val (.ref w_UNKNOWN), .val (.ref w_UNKNOWN), .unset] [(.ref w_UNKNOWN)])) _
            refine XS.aload X59.here hx rfl (hb hby at_28) rfl rfl ?_
            show Steps p.tables e below (T59.setTop (mkF m 30 #[.val (.int p0), .val (.int p1), .val (.int ((p0 &&& (2147483647 : Int32)) % (3 : Int32))), .val (.int ((p1 &&& (2147483647 : Int32)) % (3 : Int32))), .val (.ref w_UNKNOWN), .val (.ref w_UNKNOWN), .unset] [(.ref w_UNKNOWN), (.ref w_UNKNOWN)])) _
            refine st68.trans ?_
            show Steps p.tables e below (T68.setTop (mkF m 33 #[.val (.int p0), .val (.int p1), .val (.int ((p0 &&& (2147483647 : Int32)) % (3 : Int32))), .val (.int ((p1 &&& (2147483647 : Int32)) % (3 : Int32))), .val (.ref w_UNKNOWN), .val (.ref w_UNKNOWN), .unset] [(.ref w_UNKNOWN)])) _
            refine XS.astore X68.here hx rfl (hb hby at_33) rfl rfl (l' := #[.val (.int p0), .val (.int p1), .val (.int ((p0 &&& (2147483647 : Int32)) % (3 : Int32))), .val (.int ((p1 &&& (2147483647 : Int32)) % (3 : Int32))), .val (.ref w_UNKNOWN), .val (.ref w_UNKNOWN), .val (.ref w_UNKNOWN)]) rfl ?_
            show Steps p.tables e below (T68.setTop (mkF m 35 #[.val (.int p0), .val (.int p1), .val (.int ((p0 &&& (2147483647 : Int32)) % (3 : Int32))), .val (.int ((p1 &&& (2147483647 : Int32)) % (3 : Int32))), .val (.ref w_UNKNOWN), .val (.ref w_UNKNOWN), .val (.ref w_UNKNOWN)] [])) _
            refine XS.aload X68.here hx rfl (hb hby at_35) rfl rfl ?_
            show Steps p.tables e below (T68.setTop (mkF m 37 #[.val (.int p0), .val (.int p1), .val (.int ((p0 &&& (2147483647 : Int32)) % (3 : Int32))), .val (.int ((p1 &&& (2147483647 : Int32)) % (3 : Int32))), .val (.ref w_UNKNOWN), .val (.ref w_UNKNOWN), .val (.ref w_UNKNOWN)] [(.ref w_UNKNOWN)])) _
            refine st69 _ ?_
            show Steps p.tables e below (T69.setTop (mkF m 40 #[.val (.int p0), .val (.int p1), .val (.int ((p0 &&& (2147483647 : Int32)) % (3 : Int32))), .val (.int ((p1 &&& (2147483647 : Int32)) % (3 : Int32))), .val (.ref w_UNKNOWN), .val (.ref w_UNKNOWN), .val (.ref w_UNKNOWN)] [(.int (1 : Int32))])) _
            refine XS.iloadN X69.here hx rfl (hb hby at_40) rfl ?_
            show Steps p.tables e below (T69.setTop (mkF m 41 #[.val (.int p0), .val (.int p1), .val (.int ((p0 &&& (2147483647 : Int32)) % (3 : Int32))), .val (.int ((p1 &&& (2147483647 : Int32)) % (3 : Int32))), .val (.ref w_UNKNOWN), .val (.ref w_UNKNOWN), .val (.ref w_UNKNOWN)] [(.int ((p0 &&& (2147483647 : Int32)) % (3 : Int32))), (.int (1 : Int32))])) _
            refine XS.iloadN X69.here hx rfl (hb hby at_41) rfl ?_
            show Steps p.tables e below (T69.setTop (mkF m 42 #[.val (.int p0), .val (.int p1), .val (.int ((p0 &&& (2147483647 : Int32)) % (3 : Int32))), .val (.int ((p1 &&& (2147483647 : Int32)) % (3 : Int32))), .val (.ref w_UNKNOWN), .val (.ref w_UNKNOWN), .val (.ref w_UNKNOWN)] [(.int ((p1 &&& (2147483647 : Int32)) % (3 : Int32))), (.int ((p0 &&& (2147483647 : Int32)) % (3 : Int32))), (.int (1 : Int32))])) _
            refine st70 _ ?_
            exact k)
          by_cases hc45_71 : (1 : Int32) = (F_max ((p0 &&& (2147483647 : Int32)) % (3 : Int32)) ((p1 &&& (2147483647 : Int32)) % (3 : Int32)))
          · obtain ⟨fs, hr, hrun, hended, hW, hsame⟩ := X70.leave (v := some (.int (1 : Int32))) (fun h => by rw [Bd.returns] at h; cases h)
            refine ⟨_, _, pre72 _ ?_, hrun, hended, _, _, rfl, ?_, ⟨_, rfl⟩, hW, hsame.mono (by decide) (by decide)⟩
            · show Steps p.tables e below (T70.setTop (mkF m 45 #[.val (.int p0), .val (.int p1), .val (.int ((p0 &&& (2147483647 : Int32)) % (3 : Int32))), .val (.int ((p1 &&& (2147483647 : Int32)) % (3 : Int32))), .val (.ref w_UNKNOWN), .val (.ref w_UNKNOWN), .val (.ref w_UNKNOWN)] [(.int (F_max ((p0 &&& (2147483647 : Int32)) % (3 : Int32)) ((p1 &&& (2147483647 : Int32)) % (3 : Int32)))), (.int (1 : Int32))])) _
              refine XS.icmpNo X70.here hx rfl (hb hby at_45) rfl (teq hc45_71).2 ?_
              show Steps p.tables e below (T70.setTop (mkF m 48 #[.val (.int p0), .val (.int p1), .val (.int ((p0 &&& (2147483647 : Int32)) % (3 : Int32))), .val (.int ((p1 &&& (2147483647 : Int32)) % (3 : Int32))), .val (.ref w_UNKNOWN), .val (.ref w_UNKNOWN), .val (.ref w_UNKNOWN)] [])) _
              refine XS.iconst X70.here hx rfl (hb hby at_48) ?_
              show Steps p.tables e below (T70.setTop (mkF m 49 #[.val (.int p0), .val (.int p1), .val (.int ((p0 &&& (2147483647 : Int32)) % (3 : Int32))), .val (.int ((p1 &&& (2147483647 : Int32)) % (3 : Int32))), .val (.ref w_UNKNOWN), .val (.ref w_UNKNOWN), .val (.ref w_UNKNOWN)] [(.int (1 : Int32))])) _
              refine XS.goto X70.here hx rfl (pc0 := 49) (pc' := 53) rfl (hb hby at_49) (by decide) (by decide) ?_
              show Steps p.tables e below (T70.setTop (mkF m 53 #[.val (.int p0), .val (.int p1), .val (.int ((p0 &&& (2147483647 : Int32)) % (3 : Int32))), .val (.int ((p1 &&& (2147483647 : Int32)) % (3 : Int32))), .val (.ref w_UNKNOWN), .val (.ref w_UNKNOWN), .val (.ref w_UNKNOWN)] [(.int (1 : Int32))])) _
              exact retN X70 hx (t := .boolean) Bd.returns (by simp) (hb hby at_53) hr
            · show Q_law Z p0 p1 w_TRUE w_FALSE w_UNKNOWN h0 n0 _ T70.heap _
              refine ⟨?_, N70, trivial⟩
              rw [F_law, if_neg hs_38, if_pos hs_58, if_neg hs_61, if_pos hs_67, if_pos hc45_71]
          · obtain ⟨fs, hr, hrun, hended, hW, hsame⟩ := X70.leave (v := some (.int (0 : Int32))) (fun h => by rw [Bd.returns] at h; cases h)
            refine ⟨_, _, pre72 _ ?_, hrun, hended, _, _, rfl, ?_, ⟨_, rfl⟩, hW, hsame.mono (by decide) (by decide)⟩
            · show Steps p.tables e below (T70.setTop (mkF m 45 #[.val (.int p0), .val (.int p1), .val (.int ((p0 &&& (2147483647 : Int32)) % (3 : Int32))), .val (.int ((p1 &&& (2147483647 : Int32)) % (3 : Int32))), .val (.ref w_UNKNOWN), .val (.ref w_UNKNOWN), .val (.ref w_UNKNOWN)] [(.int (F_max ((p0 &&& (2147483647 : Int32)) % (3 : Int32)) ((p1 &&& (2147483647 : Int32)) % (3 : Int32)))), (.int (1 : Int32))])) _
              refine XS.icmpYes X70.here hx rfl (pc0 := 45) (pc' := 52) rfl (hb hby at_45) rfl (feq hc45_71).2 (by decide) (by decide) ?_
              show Steps p.tables e below (T70.setTop (mkF m 52 #[.val (.int p0), .val (.int p1), .val (.int ((p0 &&& (2147483647 : Int32)) % (3 : Int32))), .val (.int ((p1 &&& (2147483647 : Int32)) % (3 : Int32))), .val (.ref w_UNKNOWN), .val (.ref w_UNKNOWN), .val (.ref w_UNKNOWN)] [])) _
              refine XS.iconst X70.here hx rfl (hb hby at_52) ?_
              show Steps p.tables e below (T70.setTop (mkF m 53 #[.val (.int p0), .val (.int p1), .val (.int ((p0 &&& (2147483647 : Int32)) % (3 : Int32))), .val (.int ((p1 &&& (2147483647 : Int32)) % (3 : Int32))), .val (.ref w_UNKNOWN), .val (.ref w_UNKNOWN), .val (.ref w_UNKNOWN)] [(.int (0 : Int32))])) _
              exact retN X70 hx (t := .boolean) Bd.returns (by simp) (hb hby at_53) hr
            · show Q_law Z p0 p1 w_TRUE w_FALSE w_UNKNOWN h0 n0 _ T70.heap _
              refine ⟨?_, N70, trivial⟩
              rw [F_law, if_neg hs_38, if_pos hs_58, if_neg hs_61, if_pos hs_67, if_neg hc45_71]
        · have q59 : (F_pick ((p1 &&& (2147483647 : Int32)) % (3 : Int32)) w_TRUE w_FALSE w_UNKNOWN) = w_TRUE := by rw [F_pick, if_neg hs_61, if_neg hs_67]
          rw [q59] at st59
          obtain ⟨cq73, kq73, q73a, q73b, q73c⟩ := isOf hZ e59 E_UNKNOWN
          obtain ⟨_, _, ⟨T73, L73, k73, n73⟩, -, X73, ⟨Lc73, hQ73, l73, y73, z73⟩, st73⟩ := X59.virtualBack hx (y := (⟨"com/example/gard/gard/core/Truth", "or", "(Lcom/example/gard/gard/core/Truth;)Lcom/example/gard/gard/core/Truth;"⟩ : MethodName)) (z := (⟨"com/example/gard/gard/core/Truth", "or", "(Lcom/example/gard/gard/core/Truth;)Lcom/example/gard/gard/core/Truth;"⟩ : MethodName)) hown (mvT hZ (hw _ (List.mem_of_getElem? (i := 8) rfl))) (mvT hZ (hw _ (List.mem_of_getElem? (i := 9) rfl))) (notFace_of_selects (args := #[]) (mvT hZ (hw _ (List.mem_of_getElem? (i := 11) rfl)))) (mvT hZ (hw _ (List.mem_of_getElem? (i := 11) rfl))) (mvT hZ (hw _ (List.mem_of_getElem? (i := 10) rfl))) (by decide) (backOf (W := 0) (rm_disj l Z a0' hw [] w_UNKNOWN w_TRUE w_TRUE w_FALSE w_UNKNOWN h0 n0 Z0 S_TRUE S_FALSE S_UNKNOWN) hZ (hw _ (List.mem_of_getElem? (i := 12) rfl)) (hw _ (List.mem_of_getElem? (i := 6) rfl)) (by decide) (by decide)) q73a q73c (g := (mkF m 30 #[.val (.int p0), .val (.int p1), .val (.int ((p0 &&& (2147483647 : Int32)) % (3 : Int32))), .val (.int ((p1 &&& (2147483647 : Int32)) % (3 : Int32))), .val (.ref w_UNKNOWN), .val (.ref w_TRUE), .unset] [(.ref w_TRUE), (.ref w_UNKNOWN)])) rfl (by rw [hml]; rfl) (Steps.refl _) (argsL := [(.ref w_TRUE)]) (rest := []) (lenOf own_pd1 rfl) rfl (by show 2 * 0 + _ ≤ _; exact Nat.le_of_eq rfl) (hb hby at_30) (fun _ _ => ⟨rfl, e59, (by decide : 0 + 0 ≤ _), (by decide : 0 + 0 ≤ _)⟩)
          dsimp only [Pt.U, Pt.locs, Pt.cells, Pt.slots] at X73 l73 y73 z73 st73 hQ73
          subst l73 y73 z73
          obtain ⟨rfl, N73q, e73⟩ := hQ73
          have N73 := Fr.app N59 N73q
          have q73 : (F_disj w_UNKNOWN w_TRUE w_TRUE w_FALSE w_UNKNOWN) = w_TRUE := by rw [F_disj, if_neg ne_UNKNOWN_TRUE, if_pos (rfl : w_TRUE = w_TRUE)]
          rw [q73] at st73
          obtain ⟨_, _, ⟨T74, L74, k74, n74⟩, -, X74, ⟨Lc74, hQ74, l74, y74, z74⟩, st74⟩ := Jvm.LawKit.callS X73 hx (y := (⟨"com/example/gard/gard/core/TruthOrPinLaw", "rank", "(Lcom/example/gard/gard/core/Truth;)I"⟩ : MethodName)) hown (mvT hZ (hw _ (List.mem_of_getElem? (i := 16) rfl))) (mvT hZ (hw _ (List.mem_of_getElem? (i := 17) rfl))) (mvT hZ (hw _ (List.mem_of_getElem? (i := 3) rfl))) (mvT hZ (hw _ (List.mem_of_getElem? (i := 18) rfl))) (by decide) (backOf (W := 0) (rm_rank l Z a0' hw [] w_TRUE w_TRUE w_FALSE w_UNKNOWN h0 n0 Z0 S_TRUE S_FALSE S_UNKNOWN) hZ (hw _ (List.mem_of_getElem? (i := 18) rfl)) (hw _ (List.mem_of_getElem? (i := 3) rfl)) (by decide) (by decide)) (g := (mkF m 37 #[.val (.int p0), .val (.int p1), .val (.int ((p0 &&& (2147483647 : Int32)) % (3 : Int32))), .val (.int ((p1 &&& (2147483647 : Int32)) % (3 : Int32))), .val (.ref w_UNKNOWN), .val (.ref w_TRUE), .val (.ref w_TRUE)] [(.ref w_TRUE)])) rfl (by rw [hml]; rfl) (argsL := [(.ref w_TRUE)]) (rest := []) (lenOf own_pd2 rfl) rfl (by show 2 * 0 + _ ≤ _; exact Nat.le_of_eq rfl) (hb hby at_37) (fun _ _ => ⟨rfl, e73, (by decide : 0 + 0 ≤ _), (by decide : 0 + 0 ≤ _)⟩)
          dsimp only [Pt.U, Pt.locs, Pt.cells, Pt.slots] at X74 l74 y74 z74 st74 hQ74
          subst l74 y74 z74
          obtain ⟨rfl, N74q, e74⟩ := hQ74
          have N74 := Fr.app N73 N74q
          have q74 : (F_rank w_TRUE w_TRUE w_FALSE w_UNKNOWN) = (2 : Int32) := by rw [F_rank, if_neg ne_TRUE_FALSE, if_neg ne_TRUE_UNKNOWN, if_pos (rfl : w_TRUE = w_TRUE)]
          rw [q74] at st74
          obtain ⟨_, _, ⟨T75, L75, k75, n75⟩, -, X75, ⟨Lc75, hQ75, l75, y75, z75⟩, st75⟩ := Jvm.LawKit.callS X74 hx (y := (⟨"java/lang/Math", "max", "(II)I"⟩ : MethodName)) hown (mvT hZ (hw _ (List.mem_of_getElem? (i := 19) rfl))) (mvT hZ (hw _ (List.mem_of_getElem? (i := 20) rfl))) (mvT hZ (hw _ (List.mem_of_getElem? (i := 21) rfl))) (mvT hZ (hw _ (List.mem_of_getElem? (i := 22) rfl))) (by decide) (backOf (W := 1) (rm_max l Z a0' hw [] ((p0 &&& (2147483647 : Int32)) % (3 : Int32)) ((p1 &&& (2147483647 : Int32)) % (3 : Int32)) h0 n0 Z0) hZ (hw _ (List.mem_of_getElem? (i := 22) rfl)) (hw _ (List.mem_of_getElem? (i := 21) rfl)) (by decide) (by decide)) (g := (mkF m 42 #[.val (.int p0), .val (.int p1), .val (.int ((p0 &&& (2147483647 : Int32)) % (3 : Int32))), .val (.int ((p1 &&& (2147483647 : Int32)) % (3 : Int32))), .val (.ref w_UNKNOWN), .val (.ref w_TRUE), .val (.ref w_TRUE)] [(.int ((p1 &&& (2147483647 : Int32)) % (3 : Int32))), (.int ((p0 &&& (2147483647 : Int32)) % (3 : Int32))), (.int (2 : Int32))])) rfl (by rw [hml]; rfl) (argsL := [(.int ((p0 &&& (2147483647 : Int32)) % (3 : Int32))), (.int ((p1 &&& (2147483647 : Int32)) % (3 : Int32)))]) (rest := [(.int (2 : Int32))]) (lenOf own_pd3 rfl) rfl (by show 2 * 0 + _ ≤ _; exact Nat.le_of_eq rfl) (hb hby at_42) (fun _ _ => ⟨rfl, e74, (by decide : 0 + 0 ≤ _), (by decide : 0 + 0 ≤ _)⟩)
          dsimp only [Pt.U, Pt.locs, Pt.cells, Pt.slots] at X75 l75 y75 z75 st75 hQ75
          subst l75 y75 z75
          obtain ⟨rfl, N75q, e75⟩ := hQ75
          have N75 := Fr.app N74 N75q
          have pre77 : ∀ t, Steps p.tables e below (T75.setTop (mkF m 45 #[.val (.int p0), .val (.int p1), .val (.int ((p0 &&& (2147483647 : Int32)) % (3 : Int32))), .val (.int ((p1 &&& (2147483647 : Int32)) % (3 : Int32))), .val (.ref w_UNKNOWN), .val (.ref w_TRUE), .val (.ref w_TRUE)] [(.int (F_max ((p0 &&& (2147483647 : Int32)) % (3 : Int32)) ((p1 &&& (2147483647 : Int32)) % (3 : Int32)))), (.int (2 : Int32))])) t → Steps p.tables e below (s₁.setTop (entryFrame m #[(.int p0), (.int p1)] maxLocals)) t := fun t k => pre60 t (by
            show Steps p.tables e below (T36.setTop (mkF m 21 #[.val (.int p0), .val (.int p1), .val (.int ((p0 &&& (2147483647 : Int32)) % (3 : Int32))), .val (.int ((p1 &&& (2147483647 : Int32)) % (3 : Int32))), .val (.ref w_UNKNOWN), .unset, .unset] [(.int ((p1 &&& (2147483647 : Int32)) % (3 : Int32)))])) _
            refine st59 _ ?_
            show Steps p.tables e below (T59.setTop (mkF m 24 #[.val (.int p0), .val (.int p1), .val (.int ((p0 &&& (2147483647 : Int32)) % (3 : Int32))), .val (.int ((p1 &&& (2147483647 : Int32)) % (3 : Int32))), .val (.ref w_UNKNOWN), .unset, .unset] [(.ref w_TRUE)])) _
            refine XS.astore X59.here hx rfl (hb hby at_24) rfl rfl (l' := #[.val (.int p0), .val (.int p1), .val (.int ((p0 &&& (2147483647 : Int32)) % (3 : Int32))), .val (.int ((p1 &&& (2147483647 : Int32)) % (3 : Int32))), .val (.ref w_UNKNOWN), .val (.ref w_TRUE), .unset]) rfl ?_
            show Steps p.tables e below (T59.setTop (mkF m 26 #[.val (.int p0), .val (.int p1), .val (.int ((p0 &&& (2147483647 : Int32)) % (3 : Int32))), .val (.int ((p1 &&& (2147483647 : Int32)) % (3 : Int32))), .val (.ref w_UNKNOWN), .val (.ref w_TRUE), .unset] [])) _
            refine XS.aload X59.here hx rfl (hb hby at_26) rfl rfl ?_
            show Steps p.tables e below (T59.setTop (mkF m 28 #[.val (.int p0), .val (.int p1), .val (.int ((p0 &&& (2147483647 : Int32)) % (3 : Int32))), .val (.int ((p1 &&& (2147483647 : Int32)) % (3 : Int32))), .val (.ref w_UNKNOWN), .val (.ref w_TRUE), .unset] [(.ref w_UNKNOWN)])) _
            refine XS.aload X59.here hx rfl (hb hby at_28) rfl rfl ?_
            show Steps p.tables e below (T59.setTop (mkF m 30 #[.val (.int p0), .val (.int p1), .val (.int ((p0 &&& (2147483647 : Int32)) % (3 : Int32))), .val (.int ((p1 &&& (2147483647 : Int32)) % (3 : Int32))), .val (.ref w_UNKNOWN), .val (.ref w_TRUE), .unset] [(.ref w_TRUE), (.ref w_UNKNOWN)])) _
            refine st73.trans ?_
            show Steps p.tables e below (T73.setTop (mkF m 33 #[.val (.int p0), .val (.int p1), .val (.int ((p0 &&& (2147483647 : Int32)) % (3 : Int32))), .val (.int ((p1 &&& (2147483647 : Int32)) % (3 : Int32))), .val (.ref w_UNKNOWN), .val (.ref w_TRUE), .unset] [(.ref w_TRUE)])) _
            refine XS.astore X73.here hx rfl (hb hby at_33) rfl rfl (l' := #[.val (.int p0), .val (.int p1), .val (.int ((p0 &&& (2147483647 : Int32)) % (3 : Int32))), .val (.int ((p1 &&& (2147483647 : Int32)) % (3 : Int32))), .val (.ref w_UNKNOWN), .val (.ref w_TRUE), .val (.ref w_TRUE)]) rfl ?_
            show Steps p.tables e below (T73.setTop (mkF m 35 #[.val (.int p0), .val (.int p1), .val (.int ((p0 &&& (2147483647 : Int32)) % (3 : Int32))), .val (.int ((p1 &&& (2147483647 : Int32)) % (3 : Int32))), .val (.ref w_UNKNOWN), .val (.ref w_TRUE), .val (.ref w_TRUE)] [])) _
            refine XS.aload X73.here hx rfl (hb hby at_35) rfl rfl ?_
            show Steps p.tables e below (T73.setTop (mkF m 37 #[.val (.int p0), .val (.int p1), .val (.int ((p0 &&& (2147483647 : Int32)) % (3 : Int32))), .val (.int ((p1 &&& (2147483647 : Int32)) % (3 : Int32))), .val (.ref w_UNKNOWN), .val (.ref w_TRUE), .val (.ref w_TRUE)] [(.ref w_TRUE)])) _
            refine st74 _ ?_
            show Steps p.tables e below (T74.setTop (mkF m 40 #[.val (.int p0), .val (.int p1), .val (.int ((p0 &&& (2147483647 : Int32)) % (3 : Int32))), .val (.int ((p1 &&& (2147483647 : Int32)) % (3 : Int32))), .val (.ref w_UNKNOWN), .val (.ref w_TRUE), .val (.ref w_TRUE)] [(.int (2 : Int32))])) _
            refine XS.iloadN X74.here hx rfl (hb hby at_40) rfl ?_
            show Steps p.tables e below (T74.setTop (mkF m 41 #[.val (.int p0), .val (.int p1), .val (.int ((p0 &&& (2147483647 : Int32)) % (3 : Int32))), .val (.int ((p1 &&& (2147483647 : Int32)) % (3 : Int32))), .val (.ref w_UNKNOWN), .val (.ref w_TRUE), .val (.ref w_TRUE)] [(.int ((p0 &&& (2147483647 : Int32)) % (3 : Int32))), (.int (2 : Int32))])) _
            refine XS.iloadN X74.here hx rfl (hb hby at_41) rfl ?_
            show Steps p.tables e below (T74.setTop (mkF m 42 #[.val (.int p0), .val (.int p1), .val (.int ((p0 &&& (2147483647 : Int32)) % (3 : Int32))), .val (.int ((p1 &&& (2147483647 : Int32)) % (3 : Int32))), .val (.ref w_UNKNOWN), .val (.ref w_TRUE), .val (.ref w_TRUE)] [(.int ((p1 &&& (2147483647 : Int32)) % (3 : Int32))), (.int ((p0 &&& (2147483647 : Int32)) % (3 : Int32))), (.int (2 : Int32))])) _
            refine st75 _ ?_
            exact k)
          by_cases hc45_76 : (2 : Int32) = (F_max ((p0 &&& (2147483647 : Int32)) % (3 : Int32)) ((p1 &&& (2147483647 : Int32)) % (3 : Int32)))
          · obtain ⟨fs, hr, hrun, hended, hW, hsame⟩ := X75.leave (v := some (.int (1 : Int32))) (fun h => by rw [Bd.returns] at h; cases h)
            refine ⟨_, _, pre77 _ ?_, hrun, hended, _, _, rfl, ?_, ⟨_, rfl⟩, hW, hsame.mono (by decide) (by decide)⟩
            · show Steps p.tables e below (T75.setTop (mkF m 45 #[.val (.int p0), .val (.int p1), .val (.int ((p0 &&& (2147483647 : Int32)) % (3 : Int32))), .val (.int ((p1 &&& (2147483647 : Int32)) % (3 : Int32))), .val (.ref w_UNKNOWN), .val (.ref w_TRUE), .val (.ref w_TRUE)] [(.int (F_max ((p0 &&& (2147483647 : Int32)) % (3 : Int32)) ((p1 &&& (2147483647 : Int32)) % (3 : Int32)))), (.int (2 : Int32))])) _
              refine XS.icmpNo X75.here hx rfl (hb hby at_45) rfl (teq hc45_76).2 ?_
              show Steps p.tables e below (T75.setTop (mkF m 48 #[.val (.int p0), .val (.int p1), .val (.int ((p0 &&& (2147483647 : Int32)) % (3 : Int32))), .val (.int ((p1 &&& (2147483647 : Int32)) % (3 : Int32))), .val (.ref w_UNKNOWN), .val (.ref w_TRUE), .val (.ref w_TRUE)] [])) _
              refine XS.iconst X75.here hx rfl (hb hby at_48) ?_
              show Steps p.tables e below (T75.setTop (mkF m 49 #[.val (.int p0), .val (.int p1), .val (.int ((p0 &&& (2147483647 : Int32)) % (3 : Int32))), .val (.int ((p1 &&& (2147483647 : Int32)) % (3 : Int32))), .val (.ref w_UNKNOWN), .val (.ref w_TRUE), .val (.ref w_TRUE)] [(.int (1 : Int32))])) _
              refine XS.goto X75.here hx rfl (pc0 := 49) (pc' := 53) rfl (hb hby at_49) (by decide) (by decide) ?_
              show Steps p.tables e below (T75.setTop (mkF m 53 #[.val (.int p0), .val (.int p1), .val (.int ((p0 &&& (2147483647 : Int32)) % (3 : Int32))), .val (.int ((p1 &&& (2147483647 : Int32)) % (3 : Int32))), .val (.ref w_UNKNOWN), .val (.ref w_TRUE), .val (.ref w_TRUE)] [(.int (1 : Int32))])) _
              exact retN X75 hx (t := .boolean) Bd.returns (by simp) (hb hby at_53) hr
            · show Q_law Z p0 p1 w_TRUE w_FALSE w_UNKNOWN h0 n0 _ T75.heap _
              refine ⟨?_, N75, trivial⟩
              rw [F_law, if_neg hs_38, if_pos hs_58, if_neg hs_61, if_neg hs_67, if_pos hc45_76]
          · obtain ⟨fs, hr, hrun, hended, hW, hsame⟩ := X75.leave (v := some (.int (0 : Int32))) (fun h => by rw [Bd.returns] at h; cases h)
            refine ⟨_, _, pre77 _ ?_, hrun, hended, _, _, rfl, ?_, ⟨_, rfl⟩, hW, hsame.mono (by decide) (by decide)⟩
            · show Steps p.tables e below (T75.setTop (mkF m 45 #[.val (.int p0), .val (.int p1), .val (.int ((p0 &&& (2147483647 : Int32)) % (3 : Int32))), .val (.int ((p1 &&& (2147483647 : Int32)) % (3 : Int32))), .val (.ref w_UNKNOWN), .val (.ref w_TRUE), .val (.ref w_TRUE)] [(.int (F_max ((p0 &&& (2147483647 : Int32)) % (3 : Int32)) ((p1 &&& (2147483647 : Int32)) % (3 : Int32)))), (.int (2 : Int32))])) _
              refine XS.icmpYes X75.here hx rfl (pc0 := 45) (pc' := 52) rfl (hb hby at_45) rfl (feq hc45_76).2 (by decide) (by decide) ?_
              show Steps p.tables e below (T75.setTop (mkF m 52 #[.val (.int p0), .val (.int p1), .val (.int ((p0 &&& (2147483647 : Int32)) % (3 : Int32))), .val (.int ((p1 &&& (2147483647 : Int32)) % (3 : Int32))), .val (.ref w_UNKNOWN), .val (.ref w_TRUE), .val (.ref w_TRUE)] [])) _
              refine XS.iconst X75.here hx rfl (hb hby at_52) ?_
              show Steps p.tables e below (T75.setTop (mkF m 53 #[.val (.int p0), .val (.int p1), .val (.int ((p0 &&& (2147483647 : Int32)) % (3 : Int32))), .val (.int ((p1 &&& (2147483647 : Int32)) % (3 : Int32))), .val (.ref w_UNKNOWN), .val (.ref w_TRUE), .val (.ref w_TRUE)] [(.int (0 : Int32))])) _
              exact retN X75 hx (t := .boolean) Bd.returns (by simp) (hb hby at_53) hr
            · show Q_law Z p0 p1 w_TRUE w_FALSE w_UNKNOWN h0 n0 _ T75.heap _
              refine ⟨?_, N75, trivial⟩
              rw [F_law, if_neg hs_38, if_pos hs_58, if_neg hs_61, if_neg hs_67, if_neg hc45_76]
    · have q36 : (F_pick ((p0 &&& (2147483647 : Int32)) % (3 : Int32)) w_TRUE w_FALSE w_UNKNOWN) = w_TRUE := by rw [F_pick, if_neg hs_38, if_neg hs_58]
      rw [q36] at st36
      obtain ⟨_, _, ⟨T78, L78, k78, n78⟩, -, X78, ⟨Lc78, hQ78, l78, y78, z78⟩, st78⟩ := Jvm.LawKit.callS X36 hx (y := (⟨"com/example/gard/gard/core/TruthOrPinLaw", "pick", "(I)Lcom/example/gard/gard/core/Truth;"⟩ : MethodName)) hown (mvT hZ (hw _ (List.mem_of_getElem? (i := 1) rfl))) (mvT hZ (hw _ (List.mem_of_getElem? (i := 2) rfl))) (mvT hZ (hw _ (List.mem_of_getElem? (i := 3) rfl))) (mvT hZ (hw _ (List.mem_of_getElem? (i := 4) rfl))) (by decide) (backOf (W := 0) (rm_pick l Z a0' hw [] ((p1 &&& (2147483647 : Int32)) % (3 : Int32)) w_TRUE w_FALSE w_UNKNOWN h0 n0 Z0 S_TRUE S_FALSE S_UNKNOWN) hZ (hw _ (List.mem_of_getElem? (i := 4) rfl)) (hw _ (List.mem_of_getElem? (i := 3) rfl)) (by decide) (by decide)) (g := (mkF m 21 #[.val (.int p0), .val (.int p1), .val (.int ((p0 &&& (2147483647 : Int32)) % (3 : Int32))), .val (.int ((p1 &&& (2147483647 : Int32)) % (3 : Int32))), .val (.ref w_TRUE), .unset, .unset] [(.int ((p1 &&& (2147483647 : Int32)) % (3 : Int32)))])) rfl (by rw [hml]; rfl) (argsL := [(.int ((p1 &&& (2147483647 : Int32)) % (3 : Int32)))]) (rest := []) (lenOf own_pd0 rfl) rfl (by show 2 * 0 + _ ≤ _; exact Nat.le_of_eq rfl) (hb hby at_21) (fun _ _ => ⟨rfl, e36, (by decide : 0 + 0 ≤ _), (by decide : 0 + 0 ≤ _)⟩)
      dsimp only [Pt.U, Pt.locs, Pt.cells, Pt.slots] at X78 l78 y78 z78 st78 hQ78
      subst l78 y78 z78
      obtain ⟨rfl, N78q, e78⟩ := hQ78
      have N78 := Fr.app N36 N78q
      have pre79 : ∀ t, Steps p.tables e below (T36.setTop (mkF m 21 #[.val (.int p0), .val (.int p1), .val (.int ((p0 &&& (2147483647 : Int32)) % (3 : Int32))), .val (.int ((p1 &&& (2147483647 : Int32)) % (3 : Int32))), .val (.ref w_TRUE), .unset, .unset] [(.int ((p1 &&& (2147483647 : Int32)) % (3 : Int32)))])) t → Steps p.tables e below (s₁.setTop (entryFrame m #[(.int p0), (.int p1)] maxLocals)) t := fun t k => pre37 t (by
        show Steps p.tables e below (s₁.setTop (mkF m 15 #[.val (.int p0), .val (.int p1), .val (.int ((p0 &&& (2147483647 : Int32)) % (3 : Int32))), .val (.int ((p1 &&& (2147483647 : Int32)) % (3 : Int32))), .unset, .unset, .unset] [(.int ((p0 &&& (2147483647 : Int32)) % (3 : Int32)))])) _
        refine st36 _ ?_
        show Steps p.tables e below (T36.setTop (mkF m 18 #[.val (.int p0), .val (.int p1), .val (.int ((p0 &&& (2147483647 : Int32)) % (3 : Int32))), .val (.int ((p1 &&& (2147483647 : Int32)) % (3 : Int32))), .unset, .unset, .unset] [(.ref w_TRUE)])) _
        refine XS.astore X36.here hx rfl (hb hby at_18) rfl rfl (l' := #[.val (.int p0), .val (.int p1), .val (.int ((p0 &&& (2147483647 : Int32)) % (3 : Int32))), .val (.int ((p1 &&& (2147483647 : Int32)) % (3 : Int32))), .val (.ref w_TRUE), .unset, .unset]) rfl ?_
        show Steps p.tables e below (T36.setTop (mkF m 20 #[.val (.int p0), .val (.int p1), .val (.int ((p0 &&& (2147483647 : Int32)) % (3 : Int32))), .val (.int ((p1 &&& (2147483647 : Int32)) % (3 : Int32))), .val (.ref w_TRUE), .unset, .unset] [])) _
        refine XS.iloadN X36.here hx rfl (hb hby at_20) rfl ?_
        exact k)
      by_cases hs_80 : ((p1 &&& (2147483647 : Int32)) % (3 : Int32)) = (0 : Int32)
      · have q78 : (F_pick ((p1 &&& (2147483647 : Int32)) % (3 : Int32)) w_TRUE w_FALSE w_UNKNOWN) = w_FALSE := by rw [F_pick, if_pos hs_80]
        rw [q78] at st78
        obtain ⟨cq81, kq81, q81a, q81b, q81c⟩ := isOf hZ e78 E_TRUE
        obtain ⟨_, _, ⟨T81, L81, k81, n81⟩, -, X81, ⟨Lc81, hQ81, l81, y81, z81⟩, st81⟩ := X78.virtualBack hx (y := (⟨"com/example/gard/gard/core/Truth", "or", "(Lcom/example/gard/gard/core/Truth;)Lcom/example/gard/gard/core/Truth;"⟩ : MethodName)) (z := (⟨"com/example/gard/gard/core/Truth", "or", "(Lcom/example/gard/gard/core/Truth;)Lcom/example/gard/gard/core/Truth;"⟩ : MethodName)) hown (mvT hZ (hw _ (List.mem_of_getElem? (i := 8) rfl))) (mvT hZ (hw _ (List.mem_of_getElem? (i := 9) rfl))) (notFace_of_selects (args := #[]) (mvT hZ (hw _ (List.mem_of_getElem? (i := 11) rfl)))) (mvT hZ (hw _ (List.mem_of_getElem? (i := 11) rfl))) (mvT hZ (hw _ (List.mem_of_getElem? (i := 10) rfl))) (by decide) (backOf (W := 0) (rm_disj l Z a0' hw [] w_TRUE w_FALSE w_TRUE w_FALSE w_UNKNOWN h0 n0 Z0 S_TRUE S_FALSE S_UNKNOWN) hZ (hw _ (List.mem_of_getElem? (i := 12) rfl)) (hw _ (List.mem_of_getElem? (i := 6) rfl)) (by decide) (by decide)) q81a q81c (g := (mkF m 30 #[.val (.int p0), .val (.int p1), .val (.int ((p0 &&& (2147483647 : Int32)) % (3 : Int32))), .val (.int ((p1 &&& (2147483647 : Int32)) % (3 : Int32))), .val (.ref w_TRUE), .val (.ref w_FALSE), .unset] [(.ref w_FALSE), (.ref w_TRUE)])) rfl (by rw [hml]; rfl) (Steps.refl _) (argsL := [(.ref w_FALSE)]) (rest := []) (lenOf own_pd1 rfl) rfl (by show 2 * 0 + _ ≤ _; exact Nat.le_of_eq rfl) (hb hby at_30) (fun _ _ => ⟨rfl, e78, (by decide : 0 + 0 ≤ _), (by decide : 0 + 0 ≤ _)⟩)
        dsimp only [Pt.U, Pt.locs, Pt.cells, Pt.slots] at X81 l81 y81 z81 st81 hQ81
        subst l81 y81 z81
        obtain ⟨rfl, N81q, e81⟩ := hQ81
        have N81 := Fr.app N78 N81q
        have q81 : (F_disj w_TRUE w_FALSE w_TRUE w_FALSE w_UNKNOWN) = w_TRUE := by rw [F_disj, if_pos (rfl : w_TRUE = w_TRUE)]
        rw [q81] at st81
        obtain ⟨_, _, ⟨T82, L82, k82, n82⟩, -, X82, ⟨Lc82, hQ82, l82, y82, z82⟩, st82⟩ := Jvm.LawKit.callS X81 hx (y := (⟨"com/example/gard/gard/core/TruthOrPinLaw", "rank", "(Lcom/example/gard/gard/core/Truth;)I"⟩ : MethodName)) hown (mvT hZ (hw _ (List.mem_of_getElem? (i := 16) rfl))) (mvT hZ (hw _ (List.mem_of_getElem? (i := 17) rfl))) (mvT hZ (hw _ (List.mem_of_getElem? (i := 3) rfl))) (mvT hZ (hw _ (List.mem_of_getElem? (i := 18) rfl))) (by decide) (backOf (W := 0) (rm_rank l Z a0' hw [] w_TRUE w_TRUE w_FALSE w_UNKNOWN h0 n0 Z0 S_TRUE S_FALSE S_UNKNOWN) hZ (hw _ (List.mem_of_getElem? (i := 18) rfl)) (hw _ (List.mem_of_getElem? (i := 3) rfl)) (by decide) (by decide)) (g := (mkF m 37 #[.val (.int p0), .val (.int p1), .val (.int ((p0 &&& (2147483647 : Int32)) % (3 : Int32))), .val (.int ((p1 &&& (2147483647 : Int32)) % (3 : Int32))), .val (.ref w_TRUE), .val (.ref w_FALSE), .val (.ref w_TRUE)] [(.ref w_TRUE)])) rfl (by rw [hml]; rfl) (argsL := [(.ref w_TRUE)]) (rest := []) (lenOf own_pd2 rfl) rfl (by show 2 * 0 + _ ≤ _; exact Nat.le_of_eq rfl) (hb hby at_37) (fun _ _ => ⟨rfl, e81, (by decide : 0 + 0 ≤ _), (by decide : 0 + 0 ≤ _)⟩)
        dsimp only [Pt.U, Pt.locs, Pt.cells, Pt.slots] at X82 l82 y82 z82 st82 hQ82
        subst l82 y82 z82
        obtain ⟨rfl, N82q, e82⟩ := hQ82
        have N82 := Fr.app N81 N82q
        have q82 : (F_rank w_TRUE w_TRUE w_FALSE w_UNKNOWN) = (2 : Int32) := by rw [F_rank, if_neg ne_TRUE_FALSE, if_neg ne_TRUE_UNKNOWN, if_pos (rfl : w_TRUE = w_TRUE)]
        rw [q82] at st82
        obtain ⟨_, _, ⟨T83, L83, k83, n83⟩, -, X83, ⟨Lc83, hQ83, l83, y83, z83⟩, st83⟩ := Jvm.LawKit.callS X82 hx (y := (⟨"java/lang/Math", "max", "(II)I"⟩ : MethodName)) hown (mvT hZ (hw _ (List.mem_of_getElem? (i := 19) rfl))) (mvT hZ (hw _ (List.mem_of_getElem? (i := 20) rfl))) (mvT hZ (hw _ (List.mem_of_getElem? (i := 21) rfl))) (mvT hZ (hw _ (List.mem_of_getElem? (i := 22) rfl))) (by decide) (backOf (W := 1) (rm_max l Z a0' hw [] ((p0 &&& (2147483647 : Int32)) % (3 : Int32)) ((p1 &&& (2147483647 : Int32)) % (3 : Int32)) h0 n0 Z0) hZ (hw _ (List.mem_of_getElem? (i := 22) rfl)) (hw _ (List.mem_of_getElem? (i := 21) rfl)) (by decide) (by decide)) (g := (mkF m 42 #[.val (.int p0), .val (.int p1), .val (.int ((p0 &&& (2147483647 : Int32)) % (3 : Int32))), .val (.int ((p1 &&& (2147483647 : Int32)) % (3 : Int32))), .val (.ref w_TRUE), .val (.ref w_FALSE), .val (.ref w_TRUE)] [(.int ((p1 &&& (2147483647 : Int32)) % (3 : Int32))), (.int ((p0 &&& (2147483647 : Int32)) % (3 : Int32))), (.int (2 : Int32))])) rfl (by rw [hml]; rfl) (argsL := [(.int ((p0 &&& (2147483647 : Int32)) % (3 : Int32))), (.int ((p1 &&& (2147483647 : Int32)) % (3 : Int32)))]) (rest := [(.int (2 : Int32))]) (lenOf own_pd3 rfl) rfl (by show 2 * 0 + _ ≤ _; exact Nat.le_of_eq rfl) (hb hby at_42) (fun _ _ => ⟨rfl, e82, (by decide : 0 + 0 ≤ _), (by decide : 0 + 0 ≤ _)⟩)
        dsimp only [Pt.U, Pt.locs, Pt.cells, Pt.slots] at X83 l83 y83 z83 st83 hQ83
        subst l83 y83 z83
        obtain ⟨rfl, N83q, e83⟩ := hQ83
        have N83 := Fr.app N82 N83q
        have pre85 : ∀ t, Steps p.tables e below (T83.setTop (mkF m 45 #[.val (.int p0), .val (.int p1), .val (.int ((p0 &&& (2147483647 : Int32)) % (3 : Int32))), .val (.int ((p1 &&& (2147483647 : Int32)) % (3 : Int32))), .val (.ref w_TRUE), .val (.ref w_FALSE), .val (.ref w_TRUE)] [(.int (F_max ((p0 &&& (2147483647 : Int32)) % (3 : Int32)) ((p1 &&& (2147483647 : Int32)) % (3 : Int32)))), (.int (2 : Int32))])) t → Steps p.tables e below (s₁.setTop (entryFrame m #[(.int p0), (.int p1)] maxLocals)) t := fun t k => pre79 t (by
          show Steps p.tables e below (T36.setTop (mkF m 21 #[.val (.int p0), .val (.int p1), .val (.int ((p0 &&& (2147483647 : Int32)) % (3 : Int32))), .val (.int ((p1 &&& (2147483647 : Int32)) % (3 : Int32))), .val (.ref w_TRUE), .unset, .unset] [(.int ((p1 &&& (2147483647 : Int32)) % (3 : Int32)))])) _
          refine st78 _ ?_
          show Steps p.tables e below (T78.setTop (mkF m 24 #[.val (.int p0), .val (.int p1), .val (.int ((p0 &&& (2147483647 : Int32)) % (3 : Int32))), .val (.int ((p1 &&& (2147483647 : Int32)) % (3 : Int32))), .val (.ref w_TRUE), .unset, .unset] [(.ref w_FALSE)])) _
          refine XS.astore X78.here hx rfl (hb hby at_24) rfl rfl (l' := #[.val (.int p0), .val (.int p1), .val (.int ((p0 &&& (2147483647 : Int32)) % (3 : Int32))), .val (.int ((p1 &&& (2147483647 : Int32)) % (3 : Int32))), .val (.ref w_TRUE), .val (.ref w_FALSE), .unset]) rfl ?_
          show Steps p.tables e below (T78.setTop (mkF m 26 #[.val (.int p0), .val (.int p1), .val (.int ((p0 &&& (2147483647 : Int32)) % (3 : Int32))), .val (.int ((p1 &&& (2147483647 : Int32)) % (3 : Int32))), .val (.ref w_TRUE), .val (.ref w_FALSE), .unset] [])) _
          refine XS.aload X78.here hx rfl (hb hby at_26) rfl rfl ?_
          show Steps p.tables e below (T78.setTop (mkF m 28 #[.val (.int p0), .val (.int p1), .val (.int ((p0 &&& (2147483647 : Int32)) % (3 : Int32))), .val (.int ((p1 &&& (2147483647 : Int32)) % (3 : Int32))), .val (.ref w_TRUE), .val (.ref w_FALSE), .unset] [(.ref w_TRUE)])) _
          refine XS.aload X78.here hx rfl (hb hby at_28) rfl rfl ?_
          show Steps p.tables e below (T78.setTop (mkF m 30 #[.val (.int p0), .val (.int p1), .val (.int ((p0 &&& (2147483647 : Int32)) % (3 : Int32))), .val (.int ((p1 &&& (2147483647 : Int32)) % (3 : Int32))), .val (.ref w_TRUE), .val (.ref w_FALSE), .unset] [(.ref w_FALSE), (.ref w_TRUE)])) _
          refine st81.trans ?_
          show Steps p.tables e below (T81.setTop (mkF m 33 #[.val (.int p0), .val (.int p1), .val (.int ((p0 &&& (2147483647 : Int32)) % (3 : Int32))), .val (.int ((p1 &&& (2147483647 : Int32)) % (3 : Int32))), .val (.ref w_TRUE), .val (.ref w_FALSE), .unset] [(.ref w_TRUE)])) _
          refine XS.astore X81.here hx rfl (hb hby at_33) rfl rfl (l' := #[.val (.int p0), .val (.int p1), .val (.int ((p0 &&& (2147483647 : Int32)) % (3 : Int32))), .val (.int ((p1 &&& (2147483647 : Int32)) % (3 : Int32))), .val (.ref w_TRUE), .val (.ref w_FALSE), .val (.ref w_TRUE)]) rfl ?_
          show Steps p.tables e below (T81.setTop (mkF m 35 #[.val (.int p0), .val (.int p1), .val (.int ((p0 &&& (2147483647 : Int32)) % (3 : Int32))), .val (.int ((p1 &&& (2147483647 : Int32)) % (3 : Int32))), .val (.ref w_TRUE), .val (.ref w_FALSE), .val (.ref w_TRUE)] [])) _
          refine XS.aload X81.here hx rfl (hb hby at_35) rfl rfl ?_
          show Steps p.tables e below (T81.setTop (mkF m 37 #[.val (.int p0), .val (.int p1), .val (.int ((p0 &&& (2147483647 : Int32)) % (3 : Int32))), .val (.int ((p1 &&& (2147483647 : Int32)) % (3 : Int32))), .val (.ref w_TRUE), .val (.ref w_FALSE), .val (.ref w_TRUE)] [(.ref w_TRUE)])) _
          refine st82 _ ?_
          show Steps p.tables e below (T82.setTop (mkF m 40 #[.val (.int p0), .val (.int p1), .val (.int ((p0 &&& (2147483647 : Int32)) % (3 : Int32))), .val (.int ((p1 &&& (2147483647 : Int32)) % (3 : Int32))), .val (.ref w_TRUE), .val (.ref w_FALSE), .val (.ref w_TRUE)] [(.int (2 : Int32))])) _
          refine XS.iloadN X82.here hx rfl (hb hby at_40) rfl ?_
          show Steps p.tables e below (T82.setTop (mkF m 41 #[.val (.int p0), .val (.int p1), .val (.int ((p0 &&& (2147483647 : Int32)) % (3 : Int32))), .val (.int ((p1 &&& (2147483647 : Int32)) % (3 : Int32))), .val (.ref w_TRUE), .val (.ref w_FALSE), .val (.ref w_TRUE)] [(.int ((p0 &&& (2147483647 : Int32)) % (3 : Int32))), (.int (2 : Int32))])) _
          refine XS.iloadN X82.here hx rfl (hb hby at_41) rfl ?_
          show Steps p.tables e below (T82.setTop (mkF m 42 #[.val (.int p0), .val (.int p1), .val (.int ((p0 &&& (2147483647 : Int32)) % (3 : Int32))), .val (.int ((p1 &&& (2147483647 : Int32)) % (3 : Int32))), .val (.ref w_TRUE), .val (.ref w_FALSE), .val (.ref w_TRUE)] [(.int ((p1 &&& (2147483647 : Int32)) % (3 : Int32))), (.int ((p0 &&& (2147483647 : Int32)) % (3 : Int32))), (.int (2 : Int32))])) _
          refine st83 _ ?_
          exact k)
        by_cases hc45_84 : (2 : Int32) = (F_max ((p0 &&& (2147483647 : Int32)) % (3 : Int32)) ((p1 &&& (2147483647 : Int32)) % (3 : Int32)))
        · obtain ⟨fs, hr, hrun, hended, hW, hsame⟩ := X83.leave (v := some (.int (1 : Int32))) (fun h => by rw [Bd.returns] at h; cases h)
          refine ⟨_, _, pre85 _ ?_, hrun, hended, _, _, rfl, ?_, ⟨_, rfl⟩, hW, hsame.mono (by decide) (by decide)⟩
          · show Steps p.tables e below (T83.setTop (mkF m 45 #[.val (.int p0), .val (.int p1), .val (.int ((p0 &&& (2147483647 : Int32)) % (3 : Int32))), .val (.int ((p1 &&& (2147483647 : Int32)) % (3 : Int32))), .val (.ref w_TRUE), .val (.ref w_FALSE), .val (.ref w_TRUE)] [(.int (F_max ((p0 &&& (2147483647 : Int32)) % (3 : Int32)) ((p1 &&& (2147483647 : Int32)) % (3 : Int32)))), (.int (2 : Int32))])) _
            refine XS.icmpNo X83.here hx rfl (hb hby at_45) rfl (teq hc45_84).2 ?_
            show Steps p.tables e below (T83.setTop (mkF m 48 #[.val (.int p0), .val (.int p1), .val (.int ((p0 &&& (2147483647 : Int32)) % (3 : Int32))), .val (.int ((p1 &&& (2147483647 : Int32)) % (3 : Int32))), .val (.ref w_TRUE), .val (.ref w_FALSE), .val (.ref w_TRUE)] [])) _
            refine XS.iconst X83.here hx rfl (hb hby at_48) ?_
            show Steps p.tables e below (T83.setTop (mkF m 49 #[.val (.int p0), .val (.int p1), .val (.int ((p0 &&& (2147483647 : Int32)) % (3 : Int32))), .val (.int ((p1 &&& (2147483647 : Int32)) % (3 : Int32))), .val (.ref w_TRUE), .val (.ref w_FALSE), .val (.ref w_TRUE)] [(.int (1 : Int32))])) _
            refine XS.goto X83.here hx rfl (pc0 := 49) (pc' := 53) rfl (hb hby at_49) (by decide) (by decide) ?_
            show Steps p.tables e below (T83.setTop (mkF m 53 #[.val (.int p0), .val (.int p1), .val (.int ((p0 &&& (2147483647 : Int32)) % (3 : Int32))), .val (.int ((p1 &&& (2147483647 : Int32)) % (3 : Int32))), .val (.ref w_TRUE), .val (.ref w_FALSE), .val (.ref w_TRUE)] [(.int (1 : Int32))])) _
            exact retN X83 hx (t := .boolean) Bd.returns (by simp) (hb hby at_53) hr
          · show Q_law Z p0 p1 w_TRUE w_FALSE w_UNKNOWN h0 n0 _ T83.heap _
            refine ⟨?_, N83, trivial⟩
            rw [F_law, if_neg hs_38, if_neg hs_58, if_pos hs_80, if_pos hc45_84]
        · obtain ⟨fs, hr, hrun, hended, hW, hsame⟩ := X83.leave (v := some (.int (0 : Int32))) (fun h => by rw [Bd.returns] at h; cases h)
          refine ⟨_, _, pre85 _ ?_, hrun, hended, _, _, rfl, ?_, ⟨_, rfl⟩, hW, hsame.mono (by decide) (by decide)⟩
          · show Steps p.tables e below (T83.setTop (mkF m 45 #[.val (.int p0), .val (.int p1), .val (.int ((p0 &&& (2147483647 : Int32)) % (3 : Int32))), .val (.int ((p1 &&& (2147483647 : Int32)) % (3 : Int32))), .val (.ref w_TRUE), .val (.ref w_FALSE), .val (.ref w_TRUE)] [(.int (F_max ((p0 &&& (2147483647 : Int32)) % (3 : Int32)) ((p1 &&& (2147483647 : Int32)) % (3 : Int32)))), (.int (2 : Int32))])) _
            refine XS.icmpYes X83.here hx rfl (pc0 := 45) (pc' := 52) rfl (hb hby at_45) rfl (feq hc45_84).2 (by decide) (by decide) ?_
            show Steps p.tables e below (T83.setTop (mkF m 52 #[.val (.int p0), .val (.int p1), .val (.int ((p0 &&& (2147483647 : Int32)) % (3 : Int32))), .val (.int ((p1 &&& (2147483647 : Int32)) % (3 : Int32))), .val (.ref w_TRUE), .val (.ref w_FALSE), .val (.ref w_TRUE)] [])) _
            refine XS.iconst X83.here hx rfl (hb hby at_52) ?_
            show Steps p.tables e below (T83.setTop (mkF m 53 #[.val (.int p0), .val (.int p1), .val (.int ((p0 &&& (2147483647 : Int32)) % (3 : Int32))), .val (.int ((p1 &&& (2147483647 : Int32)) % (3 : Int32))), .val (.ref w_TRUE), .val (.ref w_FALSE), .val (.ref w_TRUE)] [(.int (0 : Int32))])) _
            exact retN X83 hx (t := .boolean) Bd.returns (by simp) (hb hby at_53) hr
          · show Q_law Z p0 p1 w_TRUE w_FALSE w_UNKNOWN h0 n0 _ T83.heap _
            refine ⟨?_, N83, trivial⟩
            rw [F_law, if_neg hs_38, if_neg hs_58, if_pos hs_80, if_neg hc45_84]
      · by_cases hs_86 : ((p1 &&& (2147483647 : Int32)) % (3 : Int32)) = (1 : Int32)
        · have q78 : (F_pick ((p1 &&& (2147483647 : Int32)) % (3 : Int32)) w_TRUE w_FALSE w_UNKNOWN) = w_UNKNOWN := by rw [F_pick, if_neg hs_80, if_pos hs_86]
          rw [q78] at st78
          obtain ⟨cq87, kq87, q87a, q87b, q87c⟩ := isOf hZ e78 E_TRUE
          obtain ⟨_, _, ⟨T87, L87, k87, n87⟩, -, X87, ⟨Lc87, hQ87, l87, y87, z87⟩, st87⟩ := X78.virtualBack hx (y := (⟨"com/example/gard/gard/core/Truth", "or", "(Lcom/example/gard/gard/core/Truth;)Lcom/example/gard/gard/core/Truth;"⟩ : MethodName)) (z := (⟨"com/example/gard/gard/core/Truth", "or", "(Lcom/example/gard/gard/core/Truth;)Lcom/example/gard/gard/core/Truth;"⟩ : MethodName)) hown (mvT hZ (hw _ (List.mem_of_getElem? (i := 8) rfl))) (mvT hZ (hw _ (List.mem_of_getElem? (i := 9) rfl))) (notFace_of_selects (args := #[]) (mvT hZ (hw _ (List.mem_of_getElem? (i := 11) rfl)))) (mvT hZ (hw _ (List.mem_of_getElem? (i := 11) rfl))) (mvT hZ (hw _ (List.mem_of_getElem? (i := 10) rfl))) (by decide) (backOf (W := 0) (rm_disj l Z a0' hw [] w_TRUE w_UNKNOWN w_TRUE w_FALSE w_UNKNOWN h0 n0 Z0 S_TRUE S_FALSE S_UNKNOWN) hZ (hw _ (List.mem_of_getElem? (i := 12) rfl)) (hw _ (List.mem_of_getElem? (i := 6) rfl)) (by decide) (by decide)) q87a q87c (g := (mkF m 30 #[.val (.int p0), .val (.int p1), .val (.int ((p0 &&& (2147483647 : Int32)) % (3 : Int32))), .val (.int ((p1 &&& (2147483647 : Int32)) % (3 : Int32))), .val (.ref w_TRUE), .val (.ref w_UNKNOWN), .unset] [(.ref w_UNKNOWN), (.ref w_TRUE)])) rfl (by rw [hml]; rfl) (Steps.refl _) (argsL := [(.ref w_UNKNOWN)]) (rest := []) (lenOf own_pd1 rfl) rfl (by show 2 * 0 + _ ≤ _; exact Nat.le_of_eq rfl) (hb hby at_30) (fun _ _ => ⟨rfl, e78, (by decide : 0 + 0 ≤ _), (by decide : 0 + 0 ≤ _)⟩)
          dsimp only [Pt.U, Pt.locs, Pt.cells, Pt.slots] at X87 l87 y87 z87 st87 hQ87
          subst l87 y87 z87
          obtain ⟨rfl, N87q, e87⟩ := hQ87
          have N87 := Fr.app N78 N87q
          have q87 : (F_disj w_TRUE w_UNKNOWN w_TRUE w_FALSE w_UNKNOWN) = w_TRUE := by rw [F_disj, if_pos (rfl : w_TRUE = w_TRUE)]
          rw [q87] at st87
          obtain ⟨_, _, ⟨T88, L88, k88, n88⟩, -, X88, ⟨Lc88, hQ88, l88, y88, z88⟩, st88⟩ := Jvm.LawKit.callS X87 hx (y := (⟨"com/example/gard/gard/core/TruthOrPinLaw", "rank", "(Lcom/example/gard/gard/core/Truth;)I"⟩ : MethodName)) hown (mvT hZ (hw _ (List.mem_of_getElem? (i := 16) rfl))) (mvT hZ (hw _ (List.mem_of_getElem? (i := 17) rfl))) (mvT hZ (hw _ (List.mem_of_getElem? (i := 3) rfl))) (mvT hZ (hw _ (List.mem_of_getElem? (i := 18) rfl))) (by decide) (backOf (W := 0) (rm_rank l Z a0' hw [] w_TRUE w_TRUE w_FALSE w_UNKNOWN h0 n0 Z0 S_TRUE S_FALSE S_UNKNOWN) hZ (hw _ (List.mem_of_getElem? (i := 18) rfl)) (hw _ (List.mem_of_getElem? (i := 3) rfl)) (by decide) (by decide)) (g := (mkF m 37 #[.val (.int p0), .val (.int p1), .val (.int ((p0 &&& (2147483647 : Int32)) % (3 : Int32))), .val (.int ((p1 &&& (2147483647 : Int32)) % (3 : Int32))), .val (.ref w_TRUE), .val (.ref w_UNKNOWN), .val (.ref w_TRUE)] [(.ref w_TRUE)])) rfl (by rw [hml]; rfl) (argsL := [(.ref w_TRUE)]) (rest := []) (lenOf own_pd2 rfl) rfl (by show 2 * 0 + _ ≤ _; exact Nat.le_of_eq rfl) (hb hby at_37) (fun _ _ => ⟨rfl, e87, (by decide : 0 + 0 ≤ _), (by decide : 0 + 0 ≤ _)⟩)
          dsimp only [Pt.U, Pt.locs, Pt.cells, Pt.slots] at X88 l88 y88 z88 st88 hQ88
          subst l88 y88 z88
          obtain ⟨rfl, N88q, e88⟩ := hQ88
          have N88 := Fr.app N87 N88q
          have q88 : (F_rank w_TRUE w_TRUE w_FALSE w_UNKNOWN) = (2 : Int32) := by rw [F_rank, if_neg ne_TRUE_FALSE, if_neg ne_TRUE_UNKNOWN, if_pos (rfl : w_TRUE = w_TRUE)]
          rw [q88] at st88
          obtain ⟨_, _, ⟨T89, L89, k89, n89⟩, -, X89, ⟨Lc89, hQ89, l89, y89, z89⟩, st89⟩ := Jvm.LawKit.callS X88 hx (y := (⟨"java/lang/Math", "max", "(II)I"⟩ : MethodName)) hown (mvT hZ (hw _ (List.mem_of_getElem? (i := 19) rfl))) (mvT hZ (hw _ (List.mem_of_getElem? (i := 20) rfl))) (mvT hZ (hw _ (List.mem_of_getElem? (i := 21) rfl))) (mvT hZ (hw _ (List.mem_of_getElem? (i := 22) rfl))) (by decide) (backOf (W := 1) (rm_max l Z a0' hw [] ((p0 &&& (2147483647 : Int32)) % (3 : Int32)) ((p1 &&& (2147483647 : Int32)) % (3 : Int32)) h0 n0 Z0) hZ (hw _ (List.mem_of_getElem? (i := 22) rfl)) (hw _ (List.mem_of_getElem? (i := 21) rfl)) (by decide) (by decide)) (g := (mkF m 42 #[.val (.int p0), .val (.int p1), .val (.int ((p0 &&& (2147483647 : Int32)) % (3 : Int32))), .val (.int ((p1 &&& (2147483647 : Int32)) % (3 : Int32))), .val (.ref w_TRUE), .val (.ref w_UNKNOWN), .val (.ref w_TRUE)] [(.int ((p1 &&& (2147483647 : Int32)) % (3 : Int32))), (.int ((p0 &&& (2147483647 : Int32)) % (3 : Int32))), (.int (2 : Int32))])) rfl (by rw [hml]; rfl) (argsL := [(.int ((p0 &&& (2147483647 : Int32)) % (3 : Int32))), (.int ((p1 &&& (2147483647 : Int32)) % (3 : Int32)))]) (rest := [(.int (2 : Int32))]) (lenOf own_pd3 rfl) rfl (by show 2 * 0 + _ ≤ _; exact Nat.le_of_eq rfl) (hb hby at_42) (fun _ _ => ⟨rfl, e88, (by decide : 0 + 0 ≤ _), (by decide : 0 + 0 ≤ _)⟩)
          dsimp only [Pt.U, Pt.locs, Pt.cells, Pt.slots] at X89 l89 y89 z89 st89 hQ89
          subst l89 y89 z89
          obtain ⟨rfl, N89q, e89⟩ := hQ89
          have N89 := Fr.app N88 N89q
          have pre91 : ∀ t, Steps p.tables e below (T89.setTop (mkF m 45 #[.val (.int p0), .val (.int p1), .val (.int ((p0 &&& (2147483647 : Int32)) % (3 : Int32))), .val (.int ((p1 &&& (2147483647 : Int32)) % (3 : Int32))), .val (.ref w_TRUE), .val (.ref w_UNKNOWN), .val (.ref w_TRUE)] [(.int (F_max ((p0 &&& (2147483647 : Int32)) % (3 : Int32)) ((p1 &&& (2147483647 : Int32)) % (3 : Int32)))), (.int (2 : Int32))])) t → Steps p.tables e below (s₁.setTop (entryFrame m #[(.int p0), (.int p1)] maxLocals)) t := fun t k => pre79 t (by
            show Steps p.tables e below (T36.setTop (mkF m 21 #[.val (.int p0), .val (.int p1), .val (.int ((p0 &&& (2147483647 : Int32)) % (3 : Int32))), .val (.int ((p1 &&& (2147483647 : Int32)) % (3 : Int32))), .val (.ref w_TRUE), .unset, .unset] [(.int ((p1 &&& (2147483647 : Int32)) % (3 : Int32)))])) _
            refine st78 _ ?_
            show Steps p.tables e below (T78.setTop (mkF m 24 #[.val (.int p0), .val (.int p1), .val (.int ((p0 &&& (2147483647 : Int32)) % (3 : Int32))), .val (.int ((p1 &&& (2147483647 : Int32)) % (3 : Int32))), .val (.ref w_TRUE), .unset, .unset] [(.ref w_UNKNOWN)])) _
            refine XS.astore X78.here hx rfl (hb hby at_24) rfl rfl (l' := #[.val (.int p0), .val (.int p1), .val (.int ((p0 &&& (2147483647 : Int32)) % (3 : Int32))), .val (.int ((p1 &&& (2147483647 : Int32)) % (3 : Int32))), .val (.ref w_TRUE), .val (.ref w_UNKNOWN), .unset]) rfl ?_
            show Steps p.tables e below (T78.setTop (mkF m 26 #[.val (.int p0), .val (.int p1), .val (.int ((p0 &&& (2147483647 : Int32)) % (3 : Int32))), .val (.int ((p1 &&& (2147483647 : Int32)) % (3 : Int32))), .val (.ref w_TRUE), .val (.ref w_UNKNOWN), .unset] [])) _
            refine XS.aload X78.here hx rfl (hb hby at_26) rfl rfl ?_
            show Steps p.tables e below (T78.setTop (mkF m 28 #[.val (.int p0), .val (.int p1), .val (.int ((p0 &&& (2147483647 : Int32)) % (3 : Int32))), .val (.int ((p1 &&& (2147483647 : Int32)) % (3 : Int32))), .val (.ref w_TRUE), .val (.ref w_UNKNOWN), .unset] [(.ref w_TRUE)])) _
            refine XS.aload X78.here hx rfl (hb hby at_28) rfl rfl ?_
            show Steps p.tables e below (T78.setTop (mkF m 30 #[.val (.int p0), .val (.int p1), .val (.int ((p0 &&& (2147483647 : Int32)) % (3 : Int32))), .val (.int ((p1 &&& (2147483647 : Int32)) % (3 : Int32))), .val (.ref w_TRUE), .val (.ref w_UNKNOWN), .unset] [(.ref w_UNKNOWN), (.ref w_TRUE)])) _
            refine st87.trans ?_
            show Steps p.tables e below (T87.setTop (mkF m 33 #[.val (.int p0), .val (.int p1), .val (.int ((p0 &&& (2147483647 : Int32)) % (3 : Int32))), .val (.int ((p1 &&& (2147483647 : Int32)) % (3 : Int32))), .val (.ref w_TRUE), .val (.ref w_UNKNOWN), .unset] [(.ref w_TRUE)])) _
            refine XS.astore X87.here hx rfl (hb hby at_33) rfl rfl (l' := #[.val (.int p0), .val (.int p1), .val (.int ((p0 &&& (2147483647 : Int32)) % (3 : Int32))), .val (.int ((p1 &&& (2147483647 : Int32)) % (3 : Int32))), .val (.ref w_TRUE), .val (.ref w_UNKNOWN), .val (.ref w_TRUE)]) rfl ?_
            show Steps p.tables e below (T87.setTop (mkF m 35 #[.val (.int p0), .val (.int p1), .val (.int ((p0 &&& (2147483647 : Int32)) % (3 : Int32))), .val (.int ((p1 &&& (2147483647 : Int32)) % (3 : Int32))), .val (.ref w_TRUE), .val (.ref w_UNKNOWN), .val (.ref w_TRUE)] [])) _
            refine XS.aload X87.here hx rfl (hb hby at_35) rfl rfl ?_
            show Steps p.tables e below (T87.setTop (mkF m 37 #[.val (.int p0), .val (.int p1), .val (.int ((p0 &&& (2147483647 : Int32)) % (3 : Int32))), .val (.int ((p1 &&& (2147483647 : Int32)) % (3 : Int32))), .val (.ref w_TRUE), .val (.ref w_UNKNOWN), .val (.ref w_TRUE)] [(.ref w_TRUE)])) _
            refine st88 _ ?_
            show Steps p.tables e below (T88.setTop (mkF m 40 #[.val (.int p0), .val (.int p1), .val (.int ((p0 &&& (2147483647 : Int32)) % (3 : Int32))), .val (.int ((p1 &&& (2147483647 : Int32)) % (3 : Int32))), .val (.ref w_TRUE), .val (.ref w_UNKNOWN), .val (.ref w_TRUE)] [(.int (2 : Int32))])) _
            refine XS.iloadN X88.here hx rfl (hb hby at_40) rfl ?_
            show Steps p.tables e below (T88.setTop (mkF m 41 #[.val (.int p0), .val (.int p1), .val (.int ((p0 &&& (2147483647 : Int32)) % (3 : Int32))), .val (.int ((p1 &&& (2147483647 : Int32)) % (3 : Int32))), .val (.ref w_TRUE), .val (.ref w_UNKNOWN), .val (.ref w_TRUE)] [(.int ((p0 &&& (2147483647 : Int32)) % (3 : Int32))), (.int (2 : Int32))])) _
            refine XS.iloadN X88.here hx rfl (hb hby at_41) rfl ?_
            show Steps p.tables e below (T88.setTop (mkF m 42 #[.val (.int p0), .val (.int p1), .val (.int ((p0 &&& (2147483647 : Int32)) % (3 : Int32))), .val (.int ((p1 &&& (2147483647 : Int32)) % (3 : Int32))), .val (.ref w_TRUE), .val (.ref w_UNKNOWN), .val (.ref w_TRUE)] [(.int ((p1 &&& (2147483647 : Int32)) % (3 : Int32))), (.int ((p0 &&& (2147483647 : Int32)) % (3 : Int32))), (.int (2 : Int32))])) _
            refine st89 _ ?_
            exact k)
          by_cases hc45_90 : (2 : Int32) = (F_max ((p0 &&& (2147483647 : Int32)) % (3 : Int32)) ((p1 &&& (2147483647 : Int32)) % (3 : Int32)))
          · obtain ⟨fs, hr, hrun, hended, hW, hsame⟩ := X89.leave (v := some (.int (1 : Int32))) (fun h => by rw [Bd.returns] at h; cases h)
            refine ⟨_, _, pre91 _ ?_, hrun, hended, _, _, rfl, ?_, ⟨_, rfl⟩, hW, hsame.mono (by decide) (by decide)⟩
            · show Steps p.tables e below (T89.setTop (mkF m 45 #[.val (.int p0), .val (.int p1), .val (.int ((p0 &&& (2147483647 : Int32)) % (3 : Int32))), .val (.int ((p1 &&& (2147483647 : Int32)) % (3 : Int32))), .val (.ref w_TRUE), .val (.ref w_UNKNOWN), .val (.ref w_TRUE)] [(.int (F_max ((p0 &&& (2147483647 : Int32)) % (3 : Int32)) ((p1 &&& (2147483647 : Int32)) % (3 : Int32)))), (.int (2 : Int32))])) _
              refine XS.icmpNo X89.here hx rfl (hb hby at_45) rfl (teq hc45_90).2 ?_
              show Steps p.tables e below (T89.setTop (mkF m 48 #[.val (.int p0), .val (.int p1), .val (.int ((p0 &&& (2147483647 : Int32)) % (3 : Int32))), .val (.int ((p1 &&& (2147483647 : Int32)) % (3 : Int32))), .val (.ref w_TRUE), .val (.ref w_UNKNOWN), .val (.ref w_TRUE)] [])) _
              refine XS.iconst X89.here hx rfl (hb hby at_48) ?_
              show Steps p.tables e below (T89.setTop (mkF m 49 #[.val (.int p0), .val (.int p1), .val (.int ((p0 &&& (2147483647 : Int32)) % (3 : Int32))), .val (.int ((p1 &&& (2147483647 : Int32)) % (3 : Int32))), .val (.ref w_TRUE), .val (.ref w_UNKNOWN), .val (.ref w_TRUE)] [(.int (1 : Int32))])) _
              refine XS.goto X89.here hx rfl (pc0 := 49) (pc' := 53) rfl (hb hby at_49) (by decide) (by decide) ?_
              show Steps p.tables e below (T89.setTop (mkF m 53 #[.val (.int p0), .val (.int p1), .val (.int ((p0 &&& (2147483647 : Int32)) % (3 : Int32))), .val (.int ((p1 &&& (2147483647 : Int32)) % (3 : Int32))), .val (.ref w_TRUE), .val (.ref w_UNKNOWN), .val (.ref w_TRUE)] [(.int (1 : Int32))])) _
              exact retN X89 hx (t := .boolean) Bd.returns (by simp) (hb hby at_53) hr
            · show Q_law Z p0 p1 w_TRUE w_FALSE w_UNKNOWN h0 n0 _ T89.heap _
              refine ⟨?_, N89, trivial⟩
              rw [F_law, if_neg hs_38, if_neg hs_58, if_neg hs_80, if_pos hs_86, if_pos hc45_90]
          · obtain ⟨fs, hr, hrun, hended, hW, hsame⟩ := X89.leave (v := some (.int (0 : Int32))) (fun h => by rw [Bd.returns] at h; cases h)
            refine ⟨_, _, pre91 _ ?_, hrun, hended, _, _, rfl, ?_, ⟨_, rfl⟩, hW, hsame.mono (by decide) (by decide)⟩
            · show Steps p.tables e below (T89.setTop (mkF m 45 #[.val (.int p0), .val (.int p1), .val (.int ((p0 &&& (2147483647 : Int32)) % (3 : Int32))), .val (.int ((p1 &&& (2147483647 : Int32)) % (3 : Int32))), .val (.ref w_TRUE), .val (.ref w_UNKNOWN), .val (.ref w_TRUE)] [(.int (F_max ((p0 &&& (2147483647 : Int32)) % (3 : Int32)) ((p1 &&& (2147483647 : Int32)) % (3 : Int32)))), (.int (2 : Int32))])) _
              refine XS.icmpYes X89.here hx rfl (pc0 := 45) (pc' := 52) rfl (hb hby at_45) rfl (feq hc45_90).2 (by decide) (by decide) ?_
              show Steps p.tables e below (T89.setTop (mkF m 52 #[.val (.int p0), .val (.int p1), .val (.int ((p0 &&& (2147483647 : Int32)) % (3 : Int32))), .val (.int ((p1 &&& (2147483647 : Int32)) % (3 : Int32))), .val (.ref w_TRUE), .val (.ref w_UNKNOWN), .val (.ref w_TRUE)] [])) _
              refine XS.iconst X89.here hx rfl (hb hby at_52) ?_
              show Steps p.tables e below (T89.setTop (mkF m 53 #[.val (.int p0), .val (.int p1), .val (.int ((p0 &&& (2147483647 : Int32)) % (3 : Int32))), .val (.int ((p1 &&& (2147483647 : Int32)) % (3 : Int32))), .val (.ref w_TRUE), .val (.ref w_UNKNOWN), .val (.ref w_TRUE)] [(.int (0 : Int32))])) _
              exact retN X89 hx (t := .boolean) Bd.returns (by simp) (hb hby at_53) hr
            · show Q_law Z p0 p1 w_TRUE w_FALSE w_UNKNOWN h0 n0 _ T89.heap _
              refine ⟨?_, N89, trivial⟩
              rw [F_law, if_neg hs_38, if_neg hs_58, if_neg hs_80, if_pos hs_86, if_neg hc45_90]
        · have q78 : (F_pick ((p1 &&& (2147483647 : Int32)) % (3 : Int32)) w_TRUE w_FALSE w_UNKNOWN) = w_TRUE := by rw [F_pick, if_neg hs_80, if_neg hs_86]
          rw [q78] at st78
          obtain ⟨cq92, kq92, q92a, q92b, q92c⟩ := isOf hZ e78 E_TRUE
          obtain ⟨_, _, ⟨T92, L92, k92, n92⟩, -, X92, ⟨Lc92, hQ92, l92, y92, z92⟩, st92⟩ := X78.virtualBack hx (y := (⟨"com/example/gard/gard/core/Truth", "or", "(Lcom/example/gard/gard/core/Truth;)Lcom/example/gard/gard/core/Truth;"⟩ : MethodName)) (z := (⟨"com/example/gard/gard/core/Truth", "or", "(Lcom/example/gard/gard/core/Truth;)Lcom/example/gard/gard/core/Truth;"⟩ : MethodName)) hown (mvT hZ (hw _ (List.mem_of_getElem? (i := 8) rfl))) (mvT hZ (hw _ (List.mem_of_getElem? (i := 9) rfl))) (notFace_of_selects (args := #[]) (mvT hZ (hw _ (List.mem_of_getElem? (i := 11) rfl)))) (mvT hZ (hw _ (List.mem_of_getElem? (i := 11) rfl))) (mvT hZ (hw _ (List.mem_of_getElem? (i := 10) rfl))) (by decide) (backOf (W := 0) (rm_disj l Z a0' hw [] w_TRUE w_TRUE w_TRUE w_FALSE w_UNKNOWN h0 n0 Z0 S_TRUE S_FALSE S_UNKNOWN) hZ (hw _ (List.mem_of_getElem? (i := 12) rfl)) (hw _ (List.mem_of_getElem? (i := 6) rfl)) (by decide) (by decide)) q92a q92c (g := (mkF m 30 #[.val (.int p0), .val (.int p1), .val (.int ((p0 &&& (2147483647 : Int32)) % (3 : Int32))), .val (.int ((p1 &&& (2147483647 : Int32)) % (3 : Int32))), .val (.ref w_TRUE), .val (.ref w_TRUE), .unset] [(.ref w_TRUE), (.ref w_TRUE)])) rfl (by rw [hml]; rfl) (Steps.refl _) (argsL := [(.ref w_TRUE)]) (rest := []) (lenOf own_pd1 rfl) rfl (by show 2 * 0 + _ ≤ _; exact Nat.le_of_eq rfl) (hb hby at_30) (fun _ _ => ⟨rfl, e78, (by decide : 0 + 0 ≤ _), (by decide : 0 + 0 ≤ _)⟩)
          dsimp only [Pt.U, Pt.locs, Pt.cells, Pt.slots] at X92 l92 y92 z92 st92 hQ92
          subst l92 y92 z92
          obtain ⟨rfl, N92q, e92⟩ := hQ92
          have N92 := Fr.app N78 N92q
          have q92 : (F_disj w_TRUE w_TRUE w_TRUE w_FALSE w_UNKNOWN) = w_TRUE := by rw [F_disj, if_pos (rfl : w_TRUE = w_TRUE)]
          rw [q92] at st92
          obtain ⟨_, _, ⟨T93, L93, k93, n93⟩, -, X93, ⟨Lc93, hQ93, l93, y93, z93⟩, st93⟩ := Jvm.LawKit.callS X92 hx (y := (⟨"com/example/gard/gard/core/TruthOrPinLaw", "rank", "(Lcom/example/gard/gard/core/Truth;)I"⟩ : MethodName)) hown (mvT hZ (hw _ (List.mem_of_getElem? (i := 16) rfl))) (mvT hZ (hw _ (List.mem_of_getElem? (i := 17) rfl))) (mvT hZ (hw _ (List.mem_of_getElem? (i := 3) rfl))) (mvT hZ (hw _ (List.mem_of_getElem? (i := 18) rfl))) (by decide) (backOf (W := 0) (rm_rank l Z a0' hw [] w_TRUE w_TRUE w_FALSE w_UNKNOWN h0 n0 Z0 S_TRUE S_FALSE S_UNKNOWN) hZ (hw _ (List.mem_of_getElem? (i := 18) rfl)) (hw _ (List.mem_of_getElem? (i := 3) rfl)) (by decide) (by decide)) (g := (mkF m 37 #[.val (.int p0), .val (.int p1), .val (.int ((p0 &&& (2147483647 : Int32)) % (3 : Int32))), .val (.int ((p1 &&& (2147483647 : Int32)) % (3 : Int32))), .val (.ref w_TRUE), .val (.ref w_TRUE), .val (.ref w_TRUE)] [(.ref w_TRUE)])) rfl (by rw [hml]; rfl) (argsL := [(.ref w_TRUE)]) (rest := []) (lenOf own_pd2 rfl) rfl (by show 2 * 0 + _ ≤ _; exact Nat.le_of_eq rfl) (hb hby at_37) (fun _ _ => ⟨rfl, e92, (by decide : 0 + 0 ≤ _), (by decide : 0 + 0 ≤ _)⟩)
          dsimp only [Pt.U, Pt.locs, Pt.cells, Pt.slots] at X93 l93 y93 z93 st93 hQ93
          subst l93 y93 z93
          obtain ⟨rfl, N93q, e93⟩ := hQ93
          have N93 := Fr.app N92 N93q
          have q93 : (F_rank w_TRUE w_TRUE w_FALSE w_UNKNOWN) = (2 : Int32) := by rw [F_rank, if_neg ne_TRUE_FALSE, if_neg ne_TRUE_UNKNOWN, if_pos (rfl : w_TRUE = w_TRUE)]
          rw [q93] at st93
          obtain ⟨_, _, ⟨T94, L94, k94, n94⟩, -, X94, ⟨Lc94, hQ94, l94, y94, z94⟩, st94⟩ := Jvm.LawKit.callS X93 hx (y := (⟨"java/lang/Math", "max", "(II)I"⟩ : MethodName)) hown (mvT hZ (hw _ (List.mem_of_getElem? (i := 19) rfl))) (mvT hZ (hw _ (List.mem_of_getElem? (i := 20) rfl))) (mvT hZ (hw _ (List.mem_of_getElem? (i := 21) rfl))) (mvT hZ (hw _ (List.mem_of_getElem? (i := 22) rfl))) (by decide) (backOf (W := 1) (rm_max l Z a0' hw [] ((p0 &&& (2147483647 : Int32)) % (3 : Int32)) ((p1 &&& (2147483647 : Int32)) % (3 : Int32)) h0 n0 Z0) hZ (hw _ (List.mem_of_getElem? (i := 22) rfl)) (hw _ (List.mem_of_getElem? (i := 21) rfl)) (by decide) (by decide)) (g := (mkF m 42 #[.val (.int p0), .val (.int p1), .val (.int ((p0 &&& (2147483647 : Int32)) % (3 : Int32))), .val (.int ((p1 &&& (2147483647 : Int32)) % (3 : Int32))), .val (.ref w_TRUE), .val (.ref w_TRUE), .val (.ref w_TRUE)] [(.int ((p1 &&& (2147483647 : Int32)) % (3 : Int32))), (.int ((p0 &&& (2147483647 : Int32)) % (3 : Int32))), (.int (2 : Int32))])) rfl (by rw [hml]; rfl) (argsL := [(.int ((p0 &&& (2147483647 : Int32)) % (3 : Int32))), (.int ((p1 &&& (2147483647 : Int32)) % (3 : Int32)))]) (rest := [(.int (2 : Int32))]) (lenOf own_pd3 rfl) rfl (by show 2 * 0 + _ ≤ _; exact Nat.le_of_eq rfl) (hb hby at_42) (fun _ _ => ⟨rfl, e93, (by decide : 0 + 0 ≤ _), (by decide : 0 + 0 ≤ _)⟩)
          dsimp only [Pt.U, Pt.locs, Pt.cells, Pt.slots] at X94 l94 y94 z94 st94 hQ94
          subst l94 y94 z94
          obtain ⟨rfl, N94q, e94⟩ := hQ94
          have N94 := Fr.app N93 N94q
          have pre96 : ∀ t, Steps p.tables e below (T94.setTop (mkF m 45 #[.val (.int p0), .val (.int p1), .val (.int ((p0 &&& (2147483647 : Int32)) % (3 : Int32))), .val (.int ((p1 &&& (2147483647 : Int32)) % (3 : Int32))), .val (.ref w_TRUE), .val (.ref w_TRUE), .val (.ref w_TRUE)] [(.int (F_max ((p0 &&& (2147483647 : Int32)) % (3 : Int32)) ((p1 &&& (2147483647 : Int32)) % (3 : Int32)))), (.int (2 : Int32))])) t → Steps p.tables e below (s₁.setTop (entryFrame m #[(.int p0), (.int p1)] maxLocals)) t := fun t k => pre79 t (by
            show Steps p.tables e below (T36.setTop (mkF m 21 #[.val (.int p0), .val (.int p1), .val (.int ((p0 &&& (2147483647 : Int32)) % (3 : Int32))), .val (.int ((p1 &&& (2147483647 : Int32)) % (3 : Int32))), .val (.ref w_TRUE), .unset, .unset] [(.int ((p1 &&& (2147483647 : Int32)) % (3 : Int32)))])) _
            refine st78 _ ?_
            show Steps p.tables e below (T78.setTop (mkF m 24 #[.val (.int p0), .val (.int p1), .val (.int ((p0 &&& (2147483647 : Int32)) % (3 : Int32))), .val (.int ((p1 &&& (2147483647 : Int32)) % (3 : Int32))), .val (.ref w_TRUE), .unset, .unset] [(.ref w_TRUE)])) _
            refine XS.astore X78.here hx rfl (hb hby at_24) rfl rfl (l' := #[.val (.int p0), .val (.int p1), .val (.int ((p0 &&& (2147483647 : Int32)) % (3 : Int32))), .val (.int ((p1 &&& (2147483647 : Int32)) % (3 : Int32))), .val (.ref w_TRUE), .val (.ref w_TRUE), .unset]) rfl ?_
            show Steps p.tables e below (T78.setTop (mkF m 26 #[.val (.int p0), .val (.int p1), .val (.int ((p0 &&& (2147483647 : Int32)) % (3 : Int32))), .val (.int ((p1 &&& (2147483647 : Int32)) % (3 : Int32))), .val (.ref w_TRUE), .val (.ref w_TRUE), .unset] [])) _
            refine XS.aload X78.here hx rfl (hb hby at_26) rfl rfl ?_
            show Steps p.tables e below (T78.setTop (mkF m 28 #[.val (.int p0), .val (.int p1), .val (.int ((p0 &&& (2147483647 : Int32)) % (3 : Int32))), .val (.int ((p1 &&& (2147483647 : Int32)) % (3 : Int32))), .val (.ref w_TRUE), .val (.ref w_TRUE), .unset] [(.ref w_TRUE)])) _
            refine XS.aload X78.here hx rfl (hb hby at_28) rfl rfl ?_
            show Steps p.tables e below (T78.setTop (mkF m 30 #[.val (.int p0), .val (.int p1), .val (.int ((p0 &&& (2147483647 : Int32)) % (3 : Int32))), .val (.int ((p1 &&& (2147483647 : Int32)) % (3 : Int32))), .val (.ref w_TRUE), .val (.ref w_TRUE), .unset] [(.ref w_TRUE), (.ref w_TRUE)])) _
            refine st92.trans ?_
            show Steps p.tables e below (T92.setTop (mkF m 33 #[.val (.int p0), .val (.int p1), .val (.int ((p0 &&& (2147483647 : Int32)) % (3 : Int32))), .val (.int ((p1 &&& (2147483647 : Int32)) % (3 : Int32))), .val (.ref w_TRUE), .val (.ref w_TRUE), .unset] [(.ref w_TRUE)])) _
            refine XS.astore X92.here hx rfl (hb hby at_33) rfl rfl (l' := #[.val (.int p0), .val (.int p1), .val (.int ((p0 &&& (2147483647 : Int32)) % (3 : Int32))), .val (.int ((p1 &&& (2147483647 : Int32)) % (3 : Int32))), .val (.ref w_TRUE), .val (.ref w_TRUE), .val (.ref w_TRUE)]) rfl ?_
            show Steps p.tables e below (T92.setTop (mkF m 35 #[.val (.int p0), .val (.int p1), .val (.int ((p0 &&& (2147483647 : Int32)) % (3 : Int32))), .val (.int ((p1 &&& (2147483647 : Int32)) % (3 : Int32))), .val (.ref w_TRUE), .val (.ref w_TRUE), .val (.ref w_TRUE)] [])) _
            refine XS.aload X92.here hx rfl (hb hby at_35) rfl rfl ?_
            show Steps p.tables e below (T92.setTop (mkF m 37 #[.val (.int p0), .val (.int p1), .val (.int ((p0 &&& (2147483647 : Int32)) % (3 : Int32))), .val (.int ((p1 &&& (2147483647 : Int32)) % (3 : Int32))), .val (.ref w_TRUE), .val (.ref w_TRUE), .val (.ref w_TRUE)] [(.ref w_TRUE)])) _
            refine st93 _ ?_
            show Steps p.tables e below (T93.setTop (mkF m 40 #[.val (.int p0), .val (.int p1), .val (.int ((p0 &&& (2147483647 : Int32)) % (3 : Int32))), .val (.int ((p1 &&& (2147483647 : Int32)) % (3 : Int32))), .val (.ref w_TRUE), .val (.ref w_TRUE), .val (.ref w_TRUE)] [(.int (2 : Int32))])) _
            refine XS.iloadN X93.here hx rfl (hb hby at_40) rfl ?_
            show Steps p.tables e below (T93.setTop (mkF m 41 #[.val (.int p0), .val (.int p1), .val (.int ((p0 &&& (2147483647 : Int32)) % (3 : Int32))), .val (.int ((p1 &&& (2147483647 : Int32)) % (3 : Int32))), .val (.ref w_TRUE), .val (.ref w_TRUE), .val (.ref w_TRUE)] [(.int ((p0 &&& (2147483647 : Int32)) % (3 : Int32))), (.int (2 : Int32))])) _
            refine XS.iloadN X93.here hx rfl (hb hby at_41) rfl ?_
            show Steps p.tables e below (T93.setTop (mkF m 42 #[.val (.int p0), .val (.int p1), .val (.int ((p0 &&& (2147483647 : Int32)) % (3 : Int32))), .val (.int ((p1 &&& (2147483647 : Int32)) % (3 : Int32))), .val (.ref w_TRUE), .val (.ref w_TRUE), .val (.ref w_TRUE)] [(.int ((p1 &&& (2147483647 : Int32)) % (3 : Int32))), (.int ((p0 &&& (2147483647 : Int32)) % (3 : Int32))), (.int (2 : Int32))])) _
            refine st94 _ ?_
            exact k)
          by_cases hc45_95 : (2 : Int32) = (F_max ((p0 &&& (2147483647 : Int32)) % (3 : Int32)) ((p1 &&& (2147483647 : Int32)) % (3 : Int32)))
          · obtain ⟨fs, hr, hrun, hended, hW, hsame⟩ := X94.leave (v := some (.int (1 : Int32))) (fun h => by rw [Bd.returns] at h; cases h)
            refine ⟨_, _, pre96 _ ?_, hrun, hended, _, _, rfl, ?_, ⟨_, rfl⟩, hW, hsame.mono (by decide) (by decide)⟩
            · show Steps p.tables e below (T94.setTop (mkF m 45 #[.val (.int p0), .val (.int p1), .val (.int ((p0 &&& (2147483647 : Int32)) % (3 : Int32))), .val (.int ((p1 &&& (2147483647 : Int32)) % (3 : Int32))), .val (.ref w_TRUE), .val (.ref w_TRUE), .val (.ref w_TRUE)] [(.int (F_max ((p0 &&& (2147483647 : Int32)) % (3 : Int32)) ((p1 &&& (2147483647 : Int32)) % (3 : Int32)))), (.int (2 : Int32))])) _
              refine XS.icmpNo X94.here hx rfl (hb hby at_45) rfl (teq hc45_95).2 ?_
              show Steps p.tables e below (T94.setTop (mkF m 48 #[.val (.int p0), .val (.int p1), .val (.int ((p0 &&& (2147483647 : Int32)) % (3 : Int32))), .val (.int ((p1 &&& (2147483647 : Int32)) % (3 : Int32))), .val (.ref w_TRUE), .val (.ref w_TRUE), .val (.ref w_TRUE)] [])) _
              refine XS.iconst X94.here hx rfl (hb hby at_48) ?_
              show Steps p.tables e below (T94.setTop (mkF m 49 #[.val (.int p0), .val (.int p1), .val (.int ((p0 &&& (2147483647 : Int32)) % (3 : Int32))), .val (.int ((p1 &&& (2147483647 : Int32)) % (3 : Int32))), .val (.ref w_TRUE), .val (.ref w_TRUE), .val (.ref w_TRUE)] [(.int (1 : Int32))])) _
              refine XS.goto X94.here hx rfl (pc0 := 49) (pc' := 53) rfl (hb hby at_49) (by decide) (by decide) ?_
              show Steps p.tables e below (T94.setTop (mkF m 53 #[.val (.int p0), .val (.int p1), .val (.int ((p0 &&& (2147483647 : Int32)) % (3 : Int32))), .val (.int ((p1 &&& (2147483647 : Int32)) % (3 : Int32))), .val (.ref w_TRUE), .val (.ref w_TRUE), .val (.ref w_TRUE)] [(.int (1 : Int32))])) _
              exact retN X94 hx (t := .boolean) Bd.returns (by simp) (hb hby at_53) hr
            · show Q_law Z p0 p1 w_TRUE w_FALSE w_UNKNOWN h0 n0 _ T94.heap _
              refine ⟨?_, N94, trivial⟩
              rw [F_law, if_neg hs_38, if_neg hs_58, if_neg hs_80, if_neg hs_86, if_pos hc45_95]
          · obtain ⟨fs, hr, hrun, hended, hW, hsame⟩ := X94.leave (v := some (.int (0 : Int32))) (fun h => by rw [Bd.returns] at h; cases h)
            refine ⟨_, _, pre96 _ ?_, hrun, hended, _, _, rfl, ?_, ⟨_, rfl⟩, hW, hsame.mono (by decide) (by decide)⟩
            · show Steps p.tables e below (T94.setTop (mkF m 45 #[.val (.int p0), .val (.int p1), .val (.int ((p0 &&& (2147483647 : Int32)) % (3 : Int32))), .val (.int ((p1 &&& (2147483647 : Int32)) % (3 : Int32))), .val (.ref w_TRUE), .val (.ref w_TRUE), .val (.ref w_TRUE)] [(.int (F_max ((p0 &&& (2147483647 : Int32)) % (3 : Int32)) ((p1 &&& (2147483647 : Int32)) % (3 : Int32)))), (.int (2 : Int32))])) _
              refine XS.icmpYes X94.here hx rfl (pc0 := 45) (pc' := 52) rfl (hb hby at_45) rfl (feq hc45_95).2 (by decide) (by decide) ?_
              show Steps p.tables e below (T94.setTop (mkF m 52 #[.val (.int p0), .val (.int p1), .val (.int ((p0 &&& (2147483647 : Int32)) % (3 : Int32))), .val (.int ((p1 &&& (2147483647 : Int32)) % (3 : Int32))), .val (.ref w_TRUE), .val (.ref w_TRUE), .val (.ref w_TRUE)] [])) _
              refine XS.iconst X94.here hx rfl (hb hby at_52) ?_
              show Steps p.tables e below (T94.setTop (mkF m 53 #[.val (.int p0), .val (.int p1), .val (.int ((p0 &&& (2147483647 : Int32)) % (3 : Int32))), .val (.int ((p1 &&& (2147483647 : Int32)) % (3 : Int32))), .val (.ref w_TRUE), .val (.ref w_TRUE), .val (.ref w_TRUE)] [(.int (0 : Int32))])) _
              exact retN X94 hx (t := .boolean) Bd.returns (by simp) (hb hby at_53) hr
            · show Q_law Z p0 p1 w_TRUE w_FALSE w_UNKNOWN h0 n0 _ T94.heap _
              refine ⟨?_, N94, trivial⟩
              rw [F_law, if_neg hs_38, if_neg hs_58, if_neg hs_80, if_neg hs_86, if_neg hc45_95]
theorem own_idx (x : Int32) : (x &&& (2147483647 : Int32)) % (3 : Int32) = (0 : Int32) ∨ (x &&& (2147483647 : Int32)) % (3 : Int32) = (1 : Int32) ∨ (x &&& (2147483647 : Int32)) % (3 : Int32) = (2 : Int32) := by
  have e1 : (x &&& (2147483647 : Int32)).toInt = x.toInt % 2 ^ 31 := Jvm.Kit.i32_mask x 2147483647 (k := 31) (by decide) (by decide)
  have e2 : ((x &&& (2147483647 : Int32)) % (3 : Int32)).toInt = (x &&& (2147483647 : Int32)).toInt % (3 : Int32).toInt := Jvm.Kit.i32_rem_nonneg (by rw [e1]; omega)
  have e3 : (3 : Int32).toInt = 3 := by decide
  rw [e3] at e2
  simp only [← Int32.toInt_inj]
  have c0 : (0 : Int32).toInt = 0 := by decide
  have c1 : (1 : Int32).toInt = 1 := by decide
  have c2 : (2 : Int32).toInt = 2 := by decide
  simp only [c0, c1, c2]
  omega
theorem own_law (p0 : Int32) (p1 : Int32) : F_law p0 p1 = 1 := by
  unfold F_law
  rcases own_idx p0 with h | h | h <;> rcases own_idx p1 with h' | h' | h' <;> rw [h, h'] <;> simp [F_max]
set_option maxRecDepth 65536 in
set_option maxHeartbeats 40000000 in
theorem own_comes {Post : Tables → Env → Array Value → State → Outcome → State → Prop} (hpost : ∀ tb e args s v u, (limb_1_1.after args s (.returned v) u = true ∧ limb_1_2.after args s (.returned v) u = true ∧ True) → FrameEnd s (.returned v) u (Jvm.fieldLocs frame_1_writes args s ++ Jvm.arrayLocs frame_1_arrays args s ++ Jvm.staticLocs frame_1_statics s) 0 0 → Post tb e args s (.returned v) u) :
    ArmFor flags0 classFile x code maxLocals ret World_1 tables_1 room_1 Calls_1 rest_1 Pre_1 Post := by
  intro l hfl _ _ p e ha hc hk s m args below hf hA hF happ hP
  obtain ⟨hcalls, hrest, hpre⟩ := hP
  obtain ⟨-, -, -, hnamed, -, -, -, hat⟩ := (Spec.applies_iff hf).mp happ
  obtain ⟨hg, hn⟩ := and_e (Cond.before_iff.mp (show (Jvm.Cond.and given_1 narrow_1).before args s = true from hpre))
  obtain ⟨g1, g1'⟩ := and_e hg
  obtain ⟨g2, g2'⟩ := and_e g1'
  obtain ⟨g3, g3'⟩ := and_e hn
  obtain ⟨g4, g4'⟩ := and_e g3'
  obtain ⟨g5, g5'⟩ := and_e g4'
  obtain ⟨g6, g6'⟩ := and_e g5'
  obtain ⟨g7, g7'⟩ := and_e g6'
  obtain ⟨u0, u1, rfl⟩ : ∃ u0 u1 : Value, args = #[u0, u1] := by
    have hs : args.size = 2 := by simpa [Cond.value, given_1] using g1
    obtain ⟨L⟩ := args
    match L, hs with
    | [u0, u1], _ => exact ⟨u0, u1, rfl⟩
  have hw := fun d (hd : d ∈ tables_1) => atoms_spec (ws := Jvm.Cond.code x code maxLocals ret :: tables_1) hat d (List.mem_cons_of_mem _ hd)
  obtain ⟨i0, ei0⟩ := is_v g2
  obtain rfl : u0 = (.int i0) := Option.some.inj ei0
  obtain ⟨i1, ei1⟩ := is_v g2'
  obtain rfl : u1 = (.int i1) := Option.some.inj ei1
  obtain ⟨w_FALSE, ev_FALSE⟩ := exa_v g3
  have E_FALSE := Exa.start ev_FALSE g3
  have S_FALSE := Sta.start ev_FALSE (Or.inr ⟨(hw _ (List.mem_of_getElem? (i := 6) rfl)), (hw _ (List.mem_of_getElem? (i := 7) rfl))⟩)
  obtain ⟨w_TRUE, ev_TRUE⟩ := exa_v g4
  have E_TRUE := Exa.start ev_TRUE g4
  have S_TRUE := Sta.start ev_TRUE (Or.inr ⟨(hw _ (List.mem_of_getElem? (i := 6) rfl)), (hw _ (List.mem_of_getElem? (i := 14) rfl))⟩)
  obtain ⟨w_UNKNOWN, ev_UNKNOWN⟩ := exa_v g7
  have E_UNKNOWN := Exa.start ev_UNKNOWN g7
  have S_UNKNOWN := Sta.start ev_UNKNOWN (Or.inr ⟨(hw _ (List.mem_of_getElem? (i := 6) rfl)), (hw _ (List.mem_of_getElem? (i := 25) rfl))⟩)
  have o_FALSE := (fld_at ev_FALSE).symm.trans (own_eqk g5)
  have o_TRUE := (fld_at ev_TRUE).symm.trans (own_eqk g6)
  have o_UNKNOWN := (fld_at ev_UNKNOWN).symm.trans (own_eqk g7')
  have ne_TRUE_FALSE : ¬ (w_TRUE = w_FALSE) := fun q => by
    have q2 : s.fieldOf? w_TRUE "java/lang/Enum" "ordinal" "I" = s.fieldOf? w_FALSE "java/lang/Enum" "ordinal" "I" := by rw [q]
    rw [o_TRUE, o_FALSE] at q2
    simp at q2
  have ne_TRUE_UNKNOWN : ¬ (w_TRUE = w_UNKNOWN) := fun q => by
    have q2 : s.fieldOf? w_TRUE "java/lang/Enum" "ordinal" "I" = s.fieldOf? w_UNKNOWN "java/lang/Enum" "ordinal" "I" := by rw [q]
    rw [o_TRUE, o_UNKNOWN] at q2
    simp at q2
  have ne_FALSE_TRUE : ¬ (w_FALSE = w_TRUE) := fun q => by
    have q2 : s.fieldOf? w_FALSE "java/lang/Enum" "ordinal" "I" = s.fieldOf? w_TRUE "java/lang/Enum" "ordinal" "I" := by rw [q]
    rw [o_FALSE, o_TRUE] at q2
    simp at q2
  have ne_UNKNOWN_TRUE : ¬ (w_UNKNOWN = w_TRUE) := fun q => by
    have q2 : s.fieldOf? w_UNKNOWN "java/lang/Enum" "ordinal" "I" = s.fieldOf? w_TRUE "java/lang/Enum" "ordinal" "I" := by rw [q]
    rw [o_UNKNOWN, o_TRUE] at q2
    simp at q2
  have ne_UNKNOWN_FALSE : ¬ (w_UNKNOWN = w_FALSE) := fun q => by
    have q2 : s.fieldOf? w_UNKNOWN "java/lang/Enum" "ordinal" "I" = s.fieldOf? w_FALSE "java/lang/Enum" "ordinal" "I" := by rw [q]
    rw [o_UNKNOWN, o_FALSE] at q2
    simp at q2
  have hlaw := own_law i0 i1
  obtain ⟨n, o, h1, h2, h3, v, L, rfl, ⟨hv, N, -⟩, hq⟩ := rm_law l s _ hw tables_1 i0 i1 w_TRUE w_FALSE w_UNKNOWN s.heap s.heap.size (Nat.le_refl _) S_TRUE E_TRUE S_FALSE E_FALSE S_UNKNOWN E_UNKNOWN ne_TRUE_FALSE ne_TRUE_UNKNOWN ne_FALSE_TRUE ne_UNKNOWN_TRUE ne_UNKNOWN_FALSE p e ha hc hk s m _ below hf ((Spec.applies_iff_loose hf).mp happ).1 ⟨rfl, State.Warmed39.refl s, rfl⟩ trivial
  rw [hlaw] at hv
  subst hv
  refine ⟨n, _, h1, h2, h3, hpost _ _ _ _ _ _ ⟨Cond.after_iff.mpr rfl, Cond.after_iff.mpr (eq_i res_at (Term.int_eval (1)) rfl), trivial⟩ ⟨hq.1, hq.2.1, (hq.2.2.sift fun y hy => Or.inr (N y hy)).mono (by decide) (by decide)⟩⟩
theorem main_1_1 : Claimed_1_1 := own_comes fun _ _ _ _ _ _ h hF => ⟨h.1, hF⟩
theorem main_1_2 : Claimed_1_2 := own_comes fun _ _ _ _ _ _ h hF => ⟨h.2.1, hF⟩
end Jvm.Pilot.@@N@@
namespace Jvm.Pilot.@@N@@
open Jvm Jvm.ClassFile Sem Op Lib Jvm.Free Jvm.Stand Jvm.Pilot.@@N@@.Jvm.D
/-! MADE BY PROGRAM (witnessworld.py) out of the Statement's table words and the real class files: 13 classes; the members and pool entries that the words name. The judged class is class 1, her method 3. -/
namespace start1
open Jvm.ClassFile
def u (s : String) : CpInfo := .utf8 (stringToUtf16 s)
/-- a pool by its gaps: so many unusable entries, then the entry; so many at the end -/
def gap : Nat → List CpInfo → List CpInfo
  | 0, r => r
  | n + 1, r => .unusable :: gap n r
def poolList (es : List (Nat × CpInfo)) (last : Nat) : List CpInfo := es.foldr (fun e r => gap e.1 (e.2 :: r)) (gap last [])
def pool (es : List (Nat × CpInfo)) (last : Nat) : Array CpInfo := ⟨poolList es last⟩
def fileOf (pool : Array CpInfo) (this : Nat) (attrs : Array Attribute := #[]) (ms : Array MethodInfo := #[]) (fl : Nat := 33) (sup : Nat := 0) (ifs : Array Nat := #[]) (fds : Array FieldInfo := #[]) : ClassFile where
  minorVersion := 0
  majorVersion := 65
  constantPool := pool
  accessFlags := fl
  thisClass := this
  superClass := sup
  interfaces := ifs
  fields := fds
  methods := ms
  attributes := attrs
def plain (name : String) (sup : Option ClassId) : Class where
  name := name
  kind := .ordinary
  loader := none
  accessFlags := 33
  super := sup
  interfaces := #[]
  cf := none
  fields := #[]
  methods := #[]
  instanceTypes := #[]
  staticTypes := #[]
  resolved := #[]
  callSites := []
  init := .initialized
  statics := none
  mirror := none

def pool0 : Array CpInfo := pool [(5, u "<init>"), (0, u "()V"), (1, .class_ 10), (1, u "java/lang/Object")] 113

def k0m0 : Method := { name := "<init>", desc := "()V", sig := { parameters := [], returnType := none }, accessFlags := 1, code := none }
/-- java/lang/Object -/
def k0 : Class := { plain "java/lang/Object" none with
  accessFlags := 33
  interfaces := #[]
  cf := some (fileOf pool0 8 #[] #[{ accessFlags := 1, nameIndex := 5, descriptorIndex := 6, attributes := #[] }] 33 0 #[] #[])
  fields := #[]
  methods := #[k0m0]
  instanceTypes := #[]
  staticTypes := #[]
  resolved := Array.replicate 124 none
  statics := none }

def pool1 : Array CpInfo := pool [(2, .class_ 4), (1, u "java/lang/Object"), (0, u "<init>"), (0, u "()V"), (0, .fieldref 8 9), (0, .class_ 10), (0, .nameAndType 11 12), (0, u "com/example/gard/gard/core/Truth"), (0, u "FALSE"), (0, u "Lcom/example/gard/gard/core/Truth;"), (0, .fieldref 8 14), (0, .nameAndType 15 12), (0, u "UNKNOWN"), (0, .fieldref 8 17), (0, .nameAndType 18 12), (0, u "TRUE"), (0, .integer 2147483647), (0, .methodref 21 22), (0, .class_ 23), (0, .nameAndType 24 25), (0, u "com/example/gard/gard/core/TruthOrPinLaw"), (0, u "pick"), (0, u "(I)Lcom/example/gard/gard/core/Truth;"), (0, .methodref 8 27), (0, .nameAndType 28 29), (0, u "or"), (0, u "(Lcom/example/gard/gard/core/Truth;)Lcom/example/gard/gard/core/Truth;"), (0, .methodref 21 31), (0, .nameAndType 32 33), (0, u "rank"), (0, u "(Lcom/example/gard/gard/core/Truth;)I"), (0, .methodref 35 36), (0, .class_ 37), (0, .nameAndType 38 39), (0, u "java/lang/Math"), (0, u "max"), (0, u "(II)I"), (3, u "law"), (0, u "(II)Z")] 2

def k1m0 : Method := { name := "<init>", desc := "()V", sig := { parameters := [], returnType := none }, accessFlags := 2, code := none }
def k1c1 : Code := { maxStack := 2, maxLocals := 1, code := method_2_code, exceptionTable := #[], attributes := #[] }
def k1m1 : Method := { name := "pick", desc := "(I)Lcom/example/gard/gard/core/Truth;", sig := { parameters := [.int], returnType := some (.object "com/example/gard/gard/core/Truth") }, accessFlags := 10, code := some k1c1 }
def k1c2 : Code := { maxStack := 2, maxLocals := 1, code := method_3_code, exceptionTable := #[], attributes := #[] }
def k1m2 : Method := { name := "rank", desc := "(Lcom/example/gard/gard/core/Truth;)I", sig := { parameters := [(.object "com/example/gard/gard/core/Truth")], returnType := some .int }, accessFlags := 10, code := some k1c2 }
def k1c3 : Code := { maxStack := 3, maxLocals := 7, code := code, exceptionTable := #[], attributes := #[] }
def k1m3 : Method := { name := "law", desc := "(II)Z", sig := { parameters := [.int, .int], returnType := some .boolean }, accessFlags := 9, code := some k1c3 }
/-- com/example/gard/gard/core/TruthOrPinLaw -/
def k1 : Class := { plain "com/example/gard/gard/core/TruthOrPinLaw" (some 0) with
  accessFlags := 49
  interfaces := #[]
  cf := some (fileOf pool1 21 #[] #[{ accessFlags := 2, nameIndex := 5, descriptorIndex := 6, attributes := #[] }, { accessFlags := 10, nameIndex := 24, descriptorIndex := 25, attributes := #[] }, { accessFlags := 10, nameIndex := 32, descriptorIndex := 33, attributes := #[] }, { accessFlags := 9, nameIndex := 43, descriptorIndex := 44, attributes := #[] }] 49 2 #[] #[])
  fields := #[]
  methods := #[k1m0, k1m1, k1m2, k1m3]
  instanceTypes := #[]
  staticTypes := #[]
  resolved := Array.replicate 47 none
  statics := none }

def pool2 : Array CpInfo := pool [(1, .class_ 2), (0, u "java/lang/constant/Constable"), (0, .class_ 4), (0, u "java/lang/Object")] 6

/-- java/lang/constant/Constable -/
def k2 : Class := { plain "java/lang/constant/Constable" (some 0) with
  accessFlags := 1537
  interfaces := #[]
  cf := some (fileOf pool2 1 #[] #[] 1537 3 #[] #[])
  fields := #[]
  methods := #[]
  instanceTypes := #[]
  staticTypes := #[]
  resolved := Array.replicate 11 none
  statics := none }

def pool3 : Array CpInfo := pool [(1, .class_ 2), (0, u "java/lang/Comparable"), (0, .class_ 4), (0, u "java/lang/Object")] 7

/-- java/lang/Comparable -/
def k3 : Class := { plain "java/lang/Comparable" (some 0) with
  accessFlags := 1537
  interfaces := #[]
  cf := some (fileOf pool3 1 #[] #[] 1537 3 #[] #[])
  fields := #[]
  methods := #[]
  instanceTypes := #[]
  staticTypes := #[]
  resolved := Array.replicate 12 none
  statics := none }

def pool4 : Array CpInfo := pool [(1, .class_ 2), (0, u "java/io/Serializable"), (0, .class_ 4), (0, u "java/lang/Object")] 2

/-- java/io/Serializable -/
def k4 : Class := { plain "java/io/Serializable" (some 0) with
  accessFlags := 1537
  interfaces := #[]
  cf := some (fileOf pool4 1 #[] #[] 1537 3 #[] #[])
  fields := #[]
  methods := #[]
  instanceTypes := #[]
  staticTypes := #[]
  resolved := Array.replicate 7 none
  statics := none }

def pool5 : Array CpInfo := pool [(2, .class_ 4), (1, u "java/lang/Enum"), (0, u "name"), (0, u "Ljava/lang/String;"), (2, u "ordinal"), (0, u "I"), (1, .class_ 14), (1, u "java/lang/Object"), (4, u "hash"), (86, .class_ 108), (1, u "java/lang/Enum$EnumDesc"), (2, .class_ 112), (0, u "java/lang/constant/Constable"), (0, .class_ 114), (0, u "java/lang/Comparable"), (0, .class_ 116), (0, u "java/io/Serializable")] 87

/-- java/lang/Enum -/
def k5 : Class := { plain "java/lang/Enum" (some 0) with
  accessFlags := 1057
  interfaces := #[2, 3, 4]
  cf := some (fileOf pool5 2 #[.nestMembers #[106]] #[] 1057 12 #[111, 113, 115] #[{ accessFlags := 18, nameIndex := 5, descriptorIndex := 6, attributes := #[] }, { accessFlags := 18, nameIndex := 9, descriptorIndex := 10, attributes := #[] }, { accessFlags := 2, nameIndex := 19, descriptorIndex := 10, attributes := #[] }])
  fields := #[{ name := "name", type := (.object "java/lang/String"), accessFlags := 18, slot := 0, constantValue := 0 }, { name := "ordinal", type := .int, accessFlags := 18, slot := 1, constantValue := 0 }, { name := "hash", type := .int, accessFlags := 2, slot := 2, constantValue := 0 }]
  methods := #[]
  instanceTypes := #[(.object "java/lang/String"), .int, .int]
  staticTypes := #[]
  resolved := Array.replicate 204 none
  statics := none }

def pool6 : Array CpInfo := pool [(1, .class_ 2), (0, u "com/example/gard/gard/core/Truth"), (0, .fieldref 1 4), (0, .nameAndType 5 6), (0, u "TRUE"), (0, u "Lcom/example/gard/gard/core/Truth;"), (0, .fieldref 1 8), (0, .nameAndType 9 6), (0, u "FALSE"), (0, .fieldref 1 11), (0, .nameAndType 12 6), (0, u "UNKNOWN"), (2, u "$VALUES"), (0, u "[Lcom/example/gard/gard/core/Truth;"), (6, .class_ 25), (1, u "java/lang/Enum"), (36, u "(Lcom/example/gard/gard/core/Truth;)Lcom/example/gard/gard/core/Truth;"), (0, u "or")] 4

def k6c0 : Code := { maxStack := 2, maxLocals := 3, code := prog_57_method_7_code, exceptionTable := #[], attributes := #[] }
def k6m0 : Method := { name := "or", desc := "(Lcom/example/gard/gard/core/Truth;)Lcom/example/gard/gard/core/Truth;", sig := { parameters := [(.object "com/example/gard/gard/core/Truth")], returnType := some (.object "com/example/gard/gard/core/Truth") }, accessFlags := 1, code := some k6c0 }
/-- com/example/gard/gard/core/Truth -/
def k6 : Class := { plain "com/example/gard/gard/core/Truth" (some 5) with
  accessFlags := 16433
  interfaces := #[]
  cf := some (fileOf pool6 1 #[] #[{ accessFlags := 1, nameIndex := 63, descriptorIndex := 62, attributes := #[] }] 16433 23 #[] #[{ accessFlags := 16409, nameIndex := 5, descriptorIndex := 6, attributes := #[] }, { accessFlags := 16409, nameIndex := 9, descriptorIndex := 6, attributes := #[] }, { accessFlags := 16409, nameIndex := 12, descriptorIndex := 6, attributes := #[] }, { accessFlags := 4122, nameIndex := 15, descriptorIndex := 16, attributes := #[] }])
  fields := #[{ name := "TRUE", type := (.object "com/example/gard/gard/core/Truth"), accessFlags := 16409, slot := 0, constantValue := 0 }, { name := "FALSE", type := (.object "com/example/gard/gard/core/Truth"), accessFlags := 16409, slot := 1, constantValue := 0 }, { name := "UNKNOWN", type := (.object "com/example/gard/gard/core/Truth"), accessFlags := 16409, slot := 2, constantValue := 0 }, { name := "$VALUES", type := (.array (.object "com/example/gard/gard/core/Truth")), accessFlags := 4122, slot := 3, constantValue := 0 }]
  methods := #[k6m0]
  instanceTypes := #[(.object "java/lang/String"), .int, .int]
  staticTypes := #[(.object "com/example/gard/gard/core/Truth"), (.object "com/example/gard/gard/core/Truth"), (.object "com/example/gard/gard/core/Truth"), (.array (.object "com/example/gard/gard/core/Truth"))]
  resolved := Array.replicate 68 none
  statics := some 0 }

def pool7 : Array CpInfo := pool [(1, .class_ 2), (0, u "java/lang/Math"), (1, .class_ 6), (1, u "java/lang/Object"), (0, u "<init>"), (0, u "()V"), (89, .class_ 100), (1, u "java/lang/Math$RandomNumberGeneratorHolder"), (71, u "negativeZeroFloatBits"), (0, u "J"), (2, u "negativeZeroDoubleBits"), (21, u "max"), (46, u "$assertionsDisabled"), (0, u "Z"), (88, u "(II)I"), (2, u "twoToTheDoubleScaleDown"), (0, u "D"), (4, u "twoToTheDoubleScaleUp"), (9, u "E"), (3, u "PI"), (2, u "TAU"), (2, u "DEGREES_TO_RADIANS"), (0, u "RADIANS_TO_DEGREES")] 94

def k7m0 : Method := { name := "<init>", desc := "()V", sig := { parameters := [], returnType := none }, accessFlags := 2, code := none }
def k7c1 : Code := { maxStack := 2, maxLocals := 2, code := jdk_29_method_65_code, exceptionTable := #[], attributes := #[] }
def k7m1 : Method := { name := "max", desc := "(II)I", sig := { parameters := [.int, .int], returnType := some .int }, accessFlags := 9, code := some k7c1 }
/-- java/lang/Math -/
def k7 : Class := { plain "java/lang/Math" (some 0) with
  accessFlags := 49
  interfaces := #[]
  cf := some (fileOf pool7 1 #[.nestMembers #[98]] #[{ accessFlags := 2, nameIndex := 7, descriptorIndex := 8, attributes := #[] }, { accessFlags := 9, nameIndex := 198, descriptorIndex := 335, attributes := #[] }] 49 4 #[] #[{ accessFlags := 25, nameIndex := 354, descriptorIndex := 339, attributes := #[] }, { accessFlags := 25, nameIndex := 358, descriptorIndex := 339, attributes := #[] }, { accessFlags := 25, nameIndex := 361, descriptorIndex := 339, attributes := #[] }, { accessFlags := 26, nameIndex := 364, descriptorIndex := 339, attributes := #[] }, { accessFlags := 26, nameIndex := 365, descriptorIndex := 339, attributes := #[] }, { accessFlags := 26, nameIndex := 172, descriptorIndex := 173, attributes := #[] }, { accessFlags := 26, nameIndex := 176, descriptorIndex := 173, attributes := #[] }, { accessFlags := 8, nameIndex := 344, descriptorIndex := 339, attributes := #[] }, { accessFlags := 8, nameIndex := 338, descriptorIndex := 339, attributes := #[] }, { accessFlags := 4120, nameIndex := 245, descriptorIndex := 246, attributes := #[] }])
  fields := #[{ name := "E", type := .double, accessFlags := 25, slot := 0, constantValue := 0 }, { name := "PI", type := .double, accessFlags := 25, slot := 1, constantValue := 0 }, { name := "TAU", type := .double, accessFlags := 25, slot := 2, constantValue := 0 }, { name := "DEGREES_TO_RADIANS", type := .double, accessFlags := 26, slot := 3, constantValue := 0 }, { name := "RADIANS_TO_DEGREES", type := .double, accessFlags := 26, slot := 4, constantValue := 0 }, { name := "negativeZeroFloatBits", type := .long, accessFlags := 26, slot := 5, constantValue := 0 }, { name := "negativeZeroDoubleBits", type := .long, accessFlags := 26, slot := 6, constantValue := 0 }, { name := "twoToTheDoubleScaleUp", type := .double, accessFlags := 8, slot := 7, constantValue := 0 }, { name := "twoToTheDoubleScaleDown", type := .double, accessFlags := 8, slot := 8, constantValue := 0 }, { name := "$assertionsDisabled", type := .boolean, accessFlags := 4120, slot := 9, constantValue := 0 }]
  methods := #[k7m0, k7m1]
  instanceTypes := #[]
  staticTypes := #[.double, .double, .double, .double, .double, .long, .long, .double, .double, .boolean]
  resolved := Array.replicate 460 none
  statics := none }

def pool8 : Array CpInfo := pool [(1, u "java/lang/Cloneable"), (0, .class_ 1), (0, u "java/lang/Object"), (0, .class_ 3)] 3

/-- java/lang/Cloneable -/
def k8 : Class := { plain "java/lang/Cloneable" (some 0) with
  accessFlags := 1537
  interfaces := #[]
  cf := some (fileOf pool8 2 #[] #[] 1537 4 #[] #[])
  fields := #[]
  methods := #[]
  instanceTypes := #[]
  staticTypes := #[]
  resolved := Array.replicate 8 none
  statics := none }

/-- the primitive byte -/
def k9 : Class := { plain "byte" none with kind := .primitive 'B', accessFlags := 0x411 }
/-- [B -/
def k10 : Class := { plain "[B" (some 0) with kind := .array 9 .byte, interfaces := #[8, 4], accessFlags := 1041 }

/-- the primitive int -/
def k11 : Class := { plain "int" none with kind := .primitive 'I', accessFlags := 0x411 }
/-- [I -/
def k12 : Class := { plain "[I" (some 0) with kind := .array 11 .int, interfaces := #[8, 4], accessFlags := 1041 }

def heap : Heap := #[{ cls := 6, slots := #[.ref 2, .ref 1, .ref 3, .null], vm := .statics 6 },
  { cls := 6, slots := #[.null, .int 1, .int 0], vm := .none },
  { cls := 6, slots := #[.null, .int 0, .int 0], vm := .none },
  { cls := 6, slots := #[.null, .int 2, .int 0], vm := .none }]
def classes : Array Class := #[k0, k1, k2, k3, k4, k5, k6, k7, k8, k9, k10, k11, k12]
def interned : List (Array UInt16 × Addr) := []
def slotsUsed : Nat := 13
def theMethod : MethodId := ⟨1, 3⟩
def args0 : Array Value := #[.int 5, .int 7]
def aboutOver (below : List Frame) : State where
  vm := { classes := classes, interned := interned.toArray }
  heap := heap
  slotsUsed := slotsUsed
  threads := #[{ frames := .invoking theMethod args0 :: below }]
def below0 : List Frame := [.native { method := ⟨0, 0⟩, args := #[] }]
def about1 : State := aboutOver below0
def p0 : Program := .bare "" "" ""
def e0 : Env := launch0.env 0 0 0
theorem w_frames : about1.frames = Frame.invoking theMethod args0 :: below0 := rfl
set_option maxRecDepth 65536 in
theorem w_args : argsFit about1.vm theMethod args0 = true := by decide +kernel
set_option maxRecDepth 65536 in
theorem w_heap : heapFits about1 = true := by decide +kernel
set_option maxRecDepth 65536 in
theorem w_runnable : about1.curStatus? = some .runnable := by decide +kernel
set_option maxRecDepth 65536 in
theorem w_alone : about1.alone = true := by decide +kernel
set_option maxRecDepth 65536 in
theorem w_named : about1.methodNamed? x = some theMethod := by decide +kernel
set_option maxRecDepth 65536 in
theorem w_hears : about1.hears theMethod below0 = true := by decide +kernel
set_option maxRecDepth 65536 in
theorem w_ripe : about1.ripe theMethod args0 below0 = true := by decide +kernel
theorem w_running : about1.status = .running := rfl
set_option maxRecDepth 65536 in
theorem w_room : about1.hasRoom e0.platform room_1 = true :=
  launch0.hasRoom_least _ room_1 (by decide +kernel) (by decide +kernel) (by decide +kernel) (by decide +kernel) (by decide +kernel) (by decide +kernel)
theorem allAtoms_all (ts : List Jvm.Cond) (a : Array Jvm.Value) (st : Jvm.State) : (allAtoms ts).before a st = ts.all (fun c => c.before a st) := by
  induction ts with
  | nil => rfl
  | cons c t ih =>
    show (Jvm.Cond.and c (allAtoms t)).before a st = _
    rw [Jvm.Cond.before_and, ih, List.all_cons]
def words1 : List Jvm.Cond := Jvm.Cond.code x code maxLocals ret :: tables_1
/-- a 'code' word, met by the world's own term for the bytes: nothing is compared byte by byte -/
theorem code_word {y : MethodName} {bytes : ByteArray} {mx : Nat} {rt : Option FieldType} {a : Array Value} {s : State} {m : MethodId} {meth : Method} {c : Code} (h1 : s.methodNamed? y = some m) (h2 : s.vm.method? m = some meth) (h3 : meth.code = some c) (h4 : c.code = bytes)
    (h5 : (c.maxLocals == mx && c.exceptionTable.isEmpty && decide (c.maxStack ≤ mostOperands) && decide (meth.sig.returnType = rt) && !meth.locks && decide (parseMethodDescriptor y.desc = some meth.sig)) = true) : (Jvm.Cond.code y bytes mx rt).before a s = true := by
  simp only [Bool.and_eq_true, beq_iff_eq, Bool.not_eq_true', decide_eq_true_eq] at h5
  obtain ⟨⟨⟨⟨⟨g1, g2⟩, g3⟩, g4⟩, g5⟩, g6⟩ := h5
  simp [Cond.before, Cond.holds, Cond.value, h1, h2, h3, h4, g1, g2, g3, g4, g5, g6]
def isCode : Jvm.Cond → Bool
  | .code _ _ _ _ => true
  | _ => false
theorem all_split {L : List Jvm.Cond} {P : Jvm.Cond → Bool} (h1 : L.all (fun c => isCode c || P c) = true) (h2 : ∀ c ∈ L.filter isCode, P c = true) : L.all P = true := by
  refine List.all_eq_true.mpr fun c hc => ?_
  have h := List.all_eq_true.mp h1 c hc
  rcases Bool.eq_false_or_eq_true (isCode c) with hi | hi
  · exact h2 c (List.mem_filter.mpr ⟨hc, hi⟩)
  · simpa [hi] using h
set_option maxRecDepth 65536 in
theorem w_c0 : (Jvm.Cond.code x code maxLocals ret).before args0 about1 = true := code_word (m := ⟨1, 3⟩) (meth := k1m3) (c := k1c3) (by decide +kernel) rfl rfl rfl (by decide +kernel)
set_option maxRecDepth 65536 in
theorem w_c1 : (Jvm.Cond.code ({ cls := "com/example/gard/gard/core/TruthOrPinLaw", name := "pick", desc := "(I)Lcom/example/gard/gard/core/Truth;" } : Jvm.MethodName) method_2_code (1 : Nat) (Option.some (Jvm.ClassFile.FieldType.object "com/example/gard/gard/core/Truth"))).before args0 about1 = true := code_word (m := ⟨1, 1⟩) (meth := k1m1) (c := k1c1) (by decide +kernel) rfl rfl rfl (by decide +kernel)
set_option maxRecDepth 65536 in
theorem w_c2 : (Jvm.Cond.code ({ cls := "com/example/gard/gard/core/Truth", name := "or", desc := "(Lcom/example/gard/gard/core/Truth;)Lcom/example/gard/gard/core/Truth;" } : Jvm.MethodName) prog_57_method_7_code (3 : Nat) (Option.some (Jvm.ClassFile.FieldType.object "com/example/gard/gard/core/Truth"))).before args0 about1 = true := code_word (m := ⟨6, 0⟩) (meth := k6m0) (c := k6c0) (by decide +kernel) rfl rfl rfl (by decide +kernel)
set_option maxRecDepth 65536 in
theorem w_c3 : (Jvm.Cond.code ({ cls := "com/example/gard/gard/core/TruthOrPinLaw", name := "rank", desc := "(Lcom/example/gard/gard/core/Truth;)I" } : Jvm.MethodName) method_3_code (1 : Nat) (Option.some Jvm.ClassFile.FieldType.int)).before args0 about1 = true := code_word (m := ⟨1, 2⟩) (meth := k1m2) (c := k1c2) (by decide +kernel) rfl rfl rfl (by decide +kernel)
set_option maxRecDepth 65536 in
theorem w_c4 : (Jvm.Cond.code ({ cls := "java/lang/Math", name := "max", desc := "(II)I" } : Jvm.MethodName) jdk_29_method_65_code (2 : Nat) (Option.some Jvm.ClassFile.FieldType.int)).before args0 about1 = true := code_word (m := ⟨7, 1⟩) (meth := k7m1) (c := k7c1) (by decide +kernel) rfl rfl rfl (by decide +kernel)
def codes1 : List Jvm.Cond := [Jvm.Cond.code x code maxLocals ret, Jvm.Cond.code ({ cls := "com/example/gard/gard/core/TruthOrPinLaw", name := "pick", desc := "(I)Lcom/example/gard/gard/core/Truth;" } : Jvm.MethodName) method_2_code (1 : Nat) (Option.some (Jvm.ClassFile.FieldType.object "com/example/gard/gard/core/Truth")), Jvm.Cond.code ({ cls := "com/example/gard/gard/core/Truth", name := "or", desc := "(Lcom/example/gard/gard/core/Truth;)Lcom/example/gard/gard/core/Truth;" } : Jvm.MethodName) prog_57_method_7_code (3 : Nat) (Option.some (Jvm.ClassFile.FieldType.object "com/example/gard/gard/core/Truth")), Jvm.Cond.code ({ cls := "com/example/gard/gard/core/TruthOrPinLaw", name := "rank", desc := "(Lcom/example/gard/gard/core/Truth;)I" } : Jvm.MethodName) method_3_code (1 : Nat) (Option.some Jvm.ClassFile.FieldType.int), Jvm.Cond.code ({ cls := "java/lang/Math", name := "max", desc := "(II)I" } : Jvm.MethodName) jdk_29_method_65_code (2 : Nat) (Option.some Jvm.ClassFile.FieldType.int)]
set_option maxRecDepth 65536 in
theorem codes_eq : words1.filter isCode = codes1 := rfl
theorem w_codes : ∀ c ∈ words1.filter isCode, c.before args0 about1 = true := by
  rw [codes_eq]
  intro c hc
  simp only [codes1, List.mem_cons, List.not_mem_nil, or_false] at hc
  rcases hc with rfl | rfl | rfl | rfl | rfl
  · exact w_c0
  · exact w_c1
  · exact w_c2
  · exact w_c3
  · exact w_c4
set_option maxRecDepth 65536 in
theorem w_t1 : (words1.take 24).all (fun c => isCode c || c.before args0 about1) = true := by decide +kernel
set_option maxRecDepth 65536 in
theorem w_t2 : (words1.drop 24).all (fun c => isCode c || c.before args0 about1) = true := by decide +kernel
theorem w_tables : (allAtoms (Jvm.Cond.code x code maxLocals ret :: tables_1)).before args0 about1 = true := by
  rw [allAtoms_all]
  show words1.all (fun c => c.before args0 about1) = true
  refine all_split ?_ w_codes
  rw [← List.take_append_drop 24 words1, List.all_append, w_t1, w_t2]
  rfl
set_option maxRecDepth 65536 in
theorem w_case : (Jvm.Cond.and given_1 narrow_1).before args0 about1 = true := by decide +kernel
theorem w_applies : (headSpec (Jvm.Cond.code x code maxLocals ret :: tables_1) room_1).applies x e0.platform about1 = true :=
  (Spec.applies_iff w_frames).mpr ⟨w_running, w_runnable, w_alone, w_named, w_hears, w_ripe, w_room, w_tables⟩
theorem atStart : AtStart classFile x code maxLocals ret World_1 tables_1 room_1 Calls_1 rest_1 Pre_1 launch0 p0 e0 about1 theMethod args0 below0 :=
  ⟨lists_1, trivial, launch0.admits_env _ _ _, launch0.least_env, fairChoices_fair.cas, fairChoices_fair.clock, w_frames, w_args, w_heap, w_applies, trivial, trivial, w_case⟩
end start1
theorem witness_1 : WitnessClaimed_1 := ⟨start1.p0, start1.e0, start1.about1, start1.theMethod, start1.args0, start1.below0, start1.atStart⟩
end Jvm.Pilot.@@N@@
