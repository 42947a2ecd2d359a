import JvmDerived
import JvmDerived.Pilot.@@N@@Statement
import JvmDerived.Pilot.@@N@@Code
set_option linter.unusedVariables false
set_option linter.unusedSimpArgs false
@@BLOCK:NumsL.lean.txt@@
namespace Jvm.Pilot.@@N@@
open Jvm Jvm.ClassFile Sem Op Lib Jvm.Free Jvm.Stand Jvm.LawKit Jvm.RoadKit Bundle Jvm.Pilot.@@N@@.Jvm.D
theorem own_retI {p : Program} {l : Launch} {e : Env} {R : Room} {s : State} {m : MethodId} {args : Array Value} {below : List Frame} {meth : Method} {c : Code} {T : State} {locs : List Loc} {cells slots : Nat} (X : Stand p l e R s m args below meth c T locs cells slots) (hx : p.tables.exec = Jvm.exec) {pc : Nat} {Ls : Array Slot} {z : Int32} {rest : List Value} (hret : meth.sig.returnType = some .int) (hd : decode c.code pc = .ok (.ireturn, 1)) {fs : List Frame}
    (hl : ∀ (f : JFrame) (acts : List Action), f.method = m → f.locked = none → f.entered = [] → (doReturn e (T.setTop f) acts (some (.int z))).1 = T.setFrames fs) : Steps p.tables e below (T.setTop (mkF m pc Ls (.int z :: rest))) (T.setFrames fs) :=
  retOut X hx hret rfl (Or.inl ⟨rfl, Or.inl rfl, z, rfl⟩) hd hl
theorem own_retA {p : Program} {l : Launch} {e : Env} {R : Room} {s : State} {m : MethodId} {args : Array Value} {below : List Frame} {meth : Method} {c : Code} {T : State} {locs : List Loc} {cells slots : Nat} (X : Stand p l e R s m args below meth c T locs cells slots) (hx : p.tables.exec = Jvm.exec) {pc : Nat} {Ls : Array Slot} {w : Value} {t : FieldType} {rest : List Value} (hret : meth.sig.returnType = some t) (ht : t.isReference = true) (hw : w.isRef = true) (hn : narrow t w = w) (hd : decode c.code pc = .ok (.areturn, 1)) {fs : List Frame}
    (hl : ∀ (f : JFrame) (acts : List Action), f.method = m → f.locked = none → f.entered = [] → (doReturn e (T.setTop f) acts (some w)).1 = T.setFrames fs) : Steps p.tables e below (T.setTop (mkF m pc Ls (w :: rest))) (T.setFrames fs) :=
  retOut X hx hret hn (Or.inr (Or.inr (Or.inr (Or.inr ⟨rfl, ht, hw⟩)))) hd hl
theorem own_retJ {p : Program} {l : Launch} {e : Env} {R : Room} {s : State} {m : MethodId} {args : Array Value} {below : List Frame} {meth : Method} {c : Code} {T : State} {locs : List Loc} {cells slots : Nat} (X : Stand p l e R s m args below meth c T locs cells slots) (hx : p.tables.exec = Jvm.exec) {pc : Nat} {Ls : Array Slot} {z : Int64} {rest : List Value} (hret : meth.sig.returnType = some .long) (hd : decode c.code pc = .ok (.lreturn, 1)) {fs : List Frame}
    (hl : ∀ (f : JFrame) (acts : List Action), f.method = m → f.locked = none → f.entered = [] → (doReturn e (T.setTop f) acts (some (.long z))).1 = T.setFrames fs) : Steps p.tables e below (T.setTop (mkF m pc Ls (.long z :: rest))) (T.setFrames fs) :=
  retOut X hx hret rfl (Or.inr (Or.inl ⟨rfl, rfl, z, rfl⟩)) hd hl
theorem own_exttr {h0 h h' : Heap} (E : Ext h0 h) (E' : Ext h h') : Ext h0 h' := ⟨Nat.le_trans E.1 E'.1, fun a c q => E'.2 _ _ (E.2 _ _ q)⟩
theorem own_extwr {h0 h h' : Heap} {a : Addr} {sl : Nat} {v : Value} (E : Ext h0 h) (W : Wr h h' a sl v) (q : h0.size ≤ a) : Ext h0 h' := by
  refine ⟨Nat.le_trans E.1 (Nat.le_of_eq W.size.symm), fun x c hc => ?_⟩
  obtain ⟨c', e1, -, -, -, e5, -⟩ := wr_at W (E.2 x c hc)
  have hx : x < h0.size := (Array.getElem?_eq_some_iff.mp hc).1
  rw [e5 (Nat.ne_of_lt (Nat.lt_of_lt_of_le hx q))] at e1
  exact e1
theorem own_wmono {s t : State} {o : Outcome} {L : List Loc} {k n k' n' : Nat} (h : ReturnedEndW s o t L k n) (hk : k ≤ k') (hn : n ≤ n') : ReturnedEndW s o t L k' n' := ⟨h.1, h.2.1, h.2.2.1, h.2.2.2.mono hk hn⟩
theorem own_strAtoms {Z : State} {a0 : Array Value} (w1 : (Jvm.Cond.initialized "java/lang/String").before a0 Z = true) (w2 : (Jvm.Cond.instantiable "java/lang/String" 4).before a0 Z = true) (w3 : (Jvm.Cond.arrayClass .byte).before a0 Z = true) (w4 : (Jvm.Cond.laysFinal "java/lang/String" "java/lang/String" "value" "[B").before a0 Z = true) (w5 : (Jvm.Cond.laysFinal "java/lang/String" "java/lang/String" "coder" "B").before a0 Z = true) (w6 : (Jvm.Cond.soleField "java/lang/String" "value").before a0 Z = true) (w7 : (Jvm.Cond.soleField "java/lang/String" "coder").before a0 Z = true) : ∀ a ∈ Bundle.stringAtoms, a.before a0 Z = true := by
  intro a ha
  simp only [Bundle.stringAtoms, List.mem_cons, List.not_mem_nil, or_false] at ha
  rcases ha with rfl | rfl | rfl | rfl | rfl | rfl | rfl <;> assumption
theorem own_extkeep {h0 h h' : Heap} {a : Addr} (E : Ext h0 h) (K : Keep h h' [a]) (q : h0.size ≤ a) : Ext h0 h' := ⟨Nat.le_trans E.1 K.1, fun x c hc => K.2.1 x c (E.2 x c hc) (fun hm => absurd (List.mem_singleton.mp hm) (Nat.ne_of_lt (Nat.lt_of_lt_of_le (Array.getElem?_eq_some_iff.mp hc).1 q)))⟩
theorem own_fld2 {Z : State} {h : Heap} {a : Addr} {C O n d O1 n1 d1 : String} {v1 : Value} {a0 : Array Value} {k : Nat} (E : Exa Z h a C) (F : Fld Z h a O1 n1 d1 v1) (L : Laid Z a0 C O n d) (wi : (Jvm.Cond.instantiable C k).before a0 Z = true) : ∃ v, Fld Z h a O n d v := by
  obtain ⟨cell, kc, h1, h2, h3, h4, h5⟩ := E
  obtain ⟨cell', cf', k', i', f', g1, -, -, g4, g5, -, -⟩ := F
  cases h1.symm.trans g1
  obtain ⟨c, k2, cf, kf, i, f, a1, a2, a3, a4, a5, a6, -⟩ := L.spec
  cases h2.symm.trans a1
  cases h3.symm.trans a2
  obtain ⟨c2, k3, i1, i2, i3, -⟩ := Cond.instantiable_spec wi
  cases h2.symm.trans i1
  cases h3.symm.trans i2
  have hs := h5 i3
  have hlt : f.slot < cell.slots.size := by rw [hs]; exact (Array.getElem?_eq_some_iff.mp a6).1
  exact ⟨cell.slots[f.slot], cell, cf, kf, i, f, h1, a3, a4, g4, g5, a5, Array.getElem?_eq_getElem hlt⟩
theorem own_retD {p : Program} {l : Launch} {e : Env} {R : Room} {s : State} {m : MethodId} {args : Array Value} {below : List Frame} {meth : Method} {c : Code} {T : State} {locs : List Loc} {cells slots : Nat} (X : Stand p l e R s m args below meth c T locs cells slots) (hx : p.tables.exec = Jvm.exec) {pc : Nat} {Ls : Array Slot} {z : UInt64} {rest : List Value} (hret : meth.sig.returnType = some .double) (hd : decode c.code pc = .ok (.dreturn, 1)) {fs : List Frame}
    (hl : ∀ (f : JFrame) (acts : List Action), f.method = m → f.locked = none → f.entered = [] → (doReturn e (T.setTop f) acts (some (.double z))).1 = T.setFrames fs) : Steps p.tables e below (T.setTop (mkF m pc Ls (.double z :: rest))) (T.setFrames fs) :=
  retOut X hx hret rfl (Or.inr (Or.inr (Or.inl ⟨rfl, rfl, z, rfl⟩))) hd hl
theorem own_eqk {args : Array Value} {first s : State} {o : Option Outcome} {idx : List Nat} {t : Term} {k : Int32} (h : (Jvm.Cond.eq t (.int k)).value args first o s idx = some true) : t.eval args first o idx s = some (.int k) := by
  have hk : (Term.int k).eval args first o idx s = some (.int k) := Term.int_eval k
  cases ht : t.eval args first o idx s with
  | none => simp [Cond.value, ht] at h
  | some x => cases x <;> simp [Cond.value, ht, hk] at h ⊢ <;> exact h
theorem own_idx (x : Int32) : (x &&& (2147483647 : Int32)) % (3 : Int32) = (0 : Int32) ∨ (x &&& (2147483647 : Int32)) % (3 : Int32) = (1 : Int32) ∨ (x &&& (2147483647 : Int32)) % (3 : Int32) = (2 : Int32) := by
  have e1 : (x &&& (2147483647 : Int32)).toInt = x.toInt % 2 ^ 31 := Jvm.Kit.i32_mask x 2147483647 (k := 31) (by decide) (by decide)
  have e2 : ((x &&& (2147483647 : Int32)) % (3 : Int32)).toInt = (x &&& (2147483647 : Int32)).toInt % (3 : Int32).toInt := Jvm.Kit.i32_rem_nonneg (by rw [e1]; omega)
  have e3 : (3 : Int32).toInt = 3 := by decide
  rw [e3] at e2
  simp only [← Int32.toInt_inj]
  have c0 : (0 : Int32).toInt = 0 := by decide
  have c1 : (1 : Int32).toInt = 1 := by decide
  have c2 : (2 : Int32).toInt = 2 := by decide
  simp only [c0, c1, c2]
  omega
theorem own_pn0 : plainName "com/example/ferrule/ferrule/model/TypeAcceptsPinLaw" = true := by first | (simp [plainName, overriddenIn]; done) | decide +kernel
theorem own_d_pick_0 : decode method_2_code 0 = .ok (.iload_n 0, 1) := by decide +kernel
theorem own_d_pick_1 : decode method_2_code 1 = .ok (.ifCond .ne 7, 3) := by decide +kernel
theorem own_d_pick_4 : decode method_2_code 4 = .ok (.getstatic 7, 3) := by decide +kernel
theorem own_d_pick_7 : decode method_2_code 7 = .ok (.areturn, 1) := by decide +kernel
theorem own_d_pick_8 : decode method_2_code 8 = .ok (.iload_n 0, 1) := by decide +kernel
theorem own_d_pick_9 : decode method_2_code 9 = .ok (.iconst 1, 1) := by decide +kernel
theorem own_d_pick_10 : decode method_2_code 10 = .ok (.if_icmp .ne 7, 3) := by decide +kernel
theorem own_d_pick_13 : decode method_2_code 13 = .ok (.getstatic 13, 3) := by decide +kernel
theorem own_d_pick_16 : decode method_2_code 16 = .ok (.areturn, 1) := by decide +kernel
theorem own_d_pick_17 : decode method_2_code 17 = .ok (.getstatic 16, 3) := by decide +kernel
theorem own_d_pick_20 : decode method_2_code 20 = .ok (.areturn, 1) := by decide +kernel
def F_pick (p0 : Int32) (w_BOOL : Addr) (w_INT : Addr) (w_REAL : Addr) : Addr := (if p0 = (0 : Int32) then w_BOOL else (if p0 = (1 : Int32) then w_INT else w_REAL))
theorem own_ef_pick (m : MethodId) (p0 : Int32) : entryFrame m #[(.int p0)] 1 = mkF m 0 #[.val (.int p0)] [] := by first | (simp [entryFrame, mkF, argsToLocals, Value.category]; done) | rfl
def Q_pick (Z : State) (p0 : Int32) (w_BOOL : Addr) (w_INT : Addr) (w_REAL : Addr) (h0 : Heap) (n0 : Nat) (v : Option Value) (h : Heap) (L : List Loc) : Prop := v = some (.ref (F_pick p0 w_BOOL w_INT w_REAL)) ∧ Fr n0 L ∧ h = h0
set_option maxRecDepth 65536 in
set_option maxHeartbeats 40000000 in
theorem rm_pick (l : Launch) (Z : State) (a0' : Array Value) (hw : ∀ d ∈ tables_1, d.before a0' Z = true) (ws : List Jvm.Cond) (p0 : Int32) (w_BOOL : Addr) (w_INT : Addr) (w_REAL : Addr) (h0 : Heap) (n0 : Nat) (Z0 : n0 ≤ h0.size) (S_BOOL : Sta Z h0 "com/example/ferrule/ferrule/model/Type" "BOOL" "Lcom/example/ferrule/ferrule/model/Type;" (.ref w_BOOL)) (S_INT : Sta Z h0 "com/example/ferrule/ferrule/model/Type" "INT" "Lcom/example/ferrule/ferrule/model/Type;" (.ref w_INT)) (S_REAL : Sta Z h0 "com/example/ferrule/ferrule/model/Type" "REAL" "Lcom/example/ferrule/ferrule/model/Type;" (.ref w_REAL)) :
    MetFree l (⟨"com/example/ferrule/ferrule/model/TypeAcceptsPinLaw", "pick", "(I)Lcom/example/ferrule/ferrule/model/Type;"⟩ : MethodName) (head1 (Jvm.Cond.code (⟨"com/example/ferrule/ferrule/model/TypeAcceptsPinLaw", "pick", "(I)Lcom/example/ferrule/ferrule/model/Type;"⟩ : MethodName) method_2_code 1 (some (.object "com/example/ferrule/ferrule/model/Type")) :: ws) ({ frames := 0, cells := 0, slots := 0, locals := 0 } : Room)) (fun a U => a = #[(.int p0)] ∧ Z.Warmed39 U.vm ∧ U.heap = h0) (fun _ _ _ _ _ => True) (fun _ U o U' => ∃ v L, o = .returned v ∧ Q_pick Z p0 w_BOOL w_INT w_REAL h0 n0 v U'.heap L ∧ FrameEnd U o U' L ({ frames := 0, cells := 0, slots := 0, locals := 0 } : Room).cells ({ frames := 0, cells := 0, slots := 0, locals := 0 } : Room).slots) := by
  refine MetFree.of_bodySF (plainFor_of_name own_pn0) hisR ?_
  intro p e s m args below meth c s₁ Bd hml0 hP hK
  obtain ⟨rfl, hZ, hh⟩ := hP
  have hx := Bd.exec
  have hby := Bd.bytes
  have hml : c.maxLocals = 1 := hml0
  have hown : s.vm.findClass "com/example/ferrule/ferrule/model/TypeAcceptsPinLaw" = some m.cls := findClass_of_methodNamed Bd.named
  have hnm := (name_of_methodNamed Bd.named Bd.method).1
  have X0 : Stand p l e ({ frames := 0, cells := 0, slots := 0, locals := 0 } : Room) s m #[(.int p0)] below meth c s₁ [] 0 0 := Stand.of_body Bd
  have e0 : s₁.heap = h0 := by rw [← hh, Bd.state]; rfl
  have N0 := Fr.nil n0
  have pre0 : ∀ t, Steps p.tables e below (s₁.setTop (mkF m 0 #[.val (.int p0)] [])) t → Steps p.tables e below (s₁.setTop (entryFrame m #[(.int p0)] 1)) t := fun t k => castTop (own_ef_pick m p0) k
  have pre2 : ∀ t, Steps p.tables e below (s₁.setTop (mkF m 1 #[.val (.int p0)] [(.int p0)])) t → Steps p.tables e below (s₁.setTop (entryFrame m #[(.int p0)] 1)) t := fun t k => pre0 t (by
    show Steps p.tables e below (s₁.setTop (mkF m 0 #[.val (.int p0)] [])) _
    refine XS.iloadN X0.here hx rfl (hb hby own_d_pick_0) rfl ?_
    exact k)
  by_cases hc1_1 : p0 = (0 : Int32)
  · obtain ⟨T3, X3, e3, st3⟩ := getS2 X0 hx hZ hown (host := "") (Or.inl (hw _ (List.mem_of_getElem? (i := 6) rfl))) Via.refl e0 S_BOOL (g := (mkF m 4 #[.val (.int p0)] [])) rfl (hb hby own_d_pick_4)
    obtain ⟨fs, hr, hrun, hended, hW, hsame⟩ := X3.leave (v := some (.ref w_BOOL)) (fun h => by rw [Bd.returns] at h; cases h)
    refine ⟨_, _, pre2 _ ?_, hrun, hended, _, _, rfl, ?_, ⟨_, rfl⟩, hW, hsame.mono (by decide) (by decide)⟩
    · show Steps p.tables e below (s₁.setTop (mkF m 1 #[.val (.int p0)] [(.int p0)])) _
      refine XS.ifNo X0.here hx rfl (hb hby own_d_pick_1) rfl ((if0 _ _).trans (teq hc1_1).2) ?_
      show Steps p.tables e below (s₁.setTop (mkF m 4 #[.val (.int p0)] [])) _
      refine st3 _ ?_
      show Steps p.tables e below (T3.setTop (mkF m 7 #[.val (.int p0)] [(.ref w_BOOL)])) _
      exact own_retA X3 hx Bd.returns rfl rfl rfl (hb hby own_d_pick_7) hr
    · show Q_pick Z p0 w_BOOL w_INT w_REAL h0 n0 _ T3.heap _
      refine ⟨?_, N0, e3⟩
      rw [F_pick, if_pos hc1_1]
  · have pre5 : ∀ t, Steps p.tables e below (s₁.setTop (mkF m 10 #[.val (.int p0)] [(.int (1 : Int32)), (.int p0)])) t → Steps p.tables e below (s₁.setTop (entryFrame m #[(.int p0)] 1)) t := fun t k => pre2 t (by
      show Steps p.tables e below (s₁.setTop (mkF m 1 #[.val (.int p0)] [(.int p0)])) _
      refine XS.ifYes X0.here hx rfl (pc0 := 1) (pc' := 8) rfl (hb hby own_d_pick_1) rfl ((if0 _ _).trans (feq hc1_1).2) (by decide) (by decide) ?_
      show Steps p.tables e below (s₁.setTop (mkF m 8 #[.val (.int p0)] [])) _
      refine XS.iloadN X0.here hx rfl (hb hby own_d_pick_8) rfl ?_
      show Steps p.tables e below (s₁.setTop (mkF m 9 #[.val (.int p0)] [(.int p0)])) _
      refine XS.iconst X0.here hx rfl (hb hby own_d_pick_9) ?_
      exact k)
    by_cases hc10_4 : p0 = (1 : Int32)
    · obtain ⟨T6, X6, e6, st6⟩ := getS2 X0 hx hZ hown (host := "") (Or.inl (hw _ (List.mem_of_getElem? (i := 16) rfl))) Via.refl e0 S_INT (g := (mkF m 13 #[.val (.int p0)] [])) rfl (hb hby own_d_pick_13)
      obtain ⟨fs, hr, hrun, hended, hW, hsame⟩ := X6.leave (v := some (.ref w_INT)) (fun h => by rw [Bd.returns] at h; cases h)
      refine ⟨_, _, pre5 _ ?_, hrun, hended, _, _, rfl, ?_, ⟨_, rfl⟩, hW, hsame.mono (by decide) (by decide)⟩
      · show Steps p.tables e below (s₁.setTop (mkF m 10 #[.val (.int p0)] [(.int (1 : Int32)), (.int p0)])) _
        refine XS.icmpNo X0.here hx rfl (hb hby own_d_pick_10) rfl (teq hc10_4).2 ?_
        show Steps p.tables e below (s₁.setTop (mkF m 13 #[.val (.int p0)] [])) _
        refine st6 _ ?_
        show Steps p.tables e below (T6.setTop (mkF m 16 #[.val (.int p0)] [(.ref w_INT)])) _
        exact own_retA X6 hx Bd.returns rfl rfl rfl (hb hby own_d_pick_16) hr
      · show Q_pick Z p0 w_BOOL w_INT w_REAL h0 n0 _ T6.heap _
        refine ⟨?_, N0, e6⟩
        rw [F_pick, if_neg hc1_1, if_pos hc10_4]
    · obtain ⟨T7, X7, e7, st7⟩ := getS2 X0 hx hZ hown (host := "") (Or.inl (hw _ (List.mem_of_getElem? (i := 14) rfl))) Via.refl e0 S_REAL (g := (mkF m 17 #[.val (.int p0)] [])) rfl (hb hby own_d_pick_17)
      obtain ⟨fs, hr, hrun, hended, hW, hsame⟩ := X7.leave (v := some (.ref w_REAL)) (fun h => by rw [Bd.returns] at h; cases h)
      refine ⟨_, _, pre5 _ ?_, hrun, hended, _, _, rfl, ?_, ⟨_, rfl⟩, hW, hsame.mono (by decide) (by decide)⟩
      · show Steps p.tables e below (s₁.setTop (mkF m 10 #[.val (.int p0)] [(.int (1 : Int32)), (.int p0)])) _
        refine XS.icmpYes X0.here hx rfl (pc0 := 10) (pc' := 17) rfl (hb hby own_d_pick_10) rfl (feq hc10_4).2 (by decide) (by decide) ?_
        show Steps p.tables e below (s₁.setTop (mkF m 17 #[.val (.int p0)] [])) _
        refine st7 _ ?_
        show Steps p.tables e below (T7.setTop (mkF m 20 #[.val (.int p0)] [(.ref w_REAL)])) _
        exact own_retA X7 hx Bd.returns rfl rfl rfl (hb hby own_d_pick_20) hr
      · show Q_pick Z p0 w_BOOL w_INT w_REAL h0 n0 _ T7.heap _
        refine ⟨?_, N0, e7⟩
        rw [F_pick, if_neg hc1_1, if_neg hc10_4]
theorem own_pn1 : plainName "com/example/ferrule/ferrule/model/Type" = true := by first | (simp [plainName, overriddenIn]; done) | decide +kernel
theorem own_d_acc_0 : decode prog_57_method_6_code 0 = .ok (.aload_n 1, 1) := by decide +kernel
theorem own_d_acc_1 : decode prog_57_method_6_code 1 = .ok (.aload_n 0, 1) := by decide +kernel
theorem own_d_acc_2 : decode prog_57_method_6_code 2 = .ok (.if_acmp .eq 17, 3) := by decide +kernel
theorem own_d_acc_19 : decode prog_57_method_6_code 19 = .ok (.iconst 1, 1) := by decide +kernel
theorem own_d_acc_20 : decode prog_57_method_6_code 20 = .ok (.goto 4, 3) := by decide +kernel
theorem own_d_acc_24 : decode prog_57_method_6_code 24 = .ok (.ireturn, 1) := by decide +kernel
theorem own_d_acc_5 : decode prog_57_method_6_code 5 = .ok (.aload_n 0, 1) := by decide +kernel
theorem own_d_acc_6 : decode prog_57_method_6_code 6 = .ok (.getstatic 10, 3) := by decide +kernel
theorem own_d_acc_9 : decode prog_57_method_6_code 9 = .ok (.if_acmp .ne 14, 3) := by decide +kernel
theorem own_d_acc_12 : decode prog_57_method_6_code 12 = .ok (.aload_n 1, 1) := by decide +kernel
theorem own_d_acc_13 : decode prog_57_method_6_code 13 = .ok (.getstatic 7, 3) := by decide +kernel
theorem own_d_acc_16 : decode prog_57_method_6_code 16 = .ok (.if_acmp .ne 7, 3) := by decide +kernel
theorem own_d_acc_23 : decode prog_57_method_6_code 23 = .ok (.iconst 0, 1) := by decide +kernel
def F_acc (a0 : Addr) (a1 : Addr) (w_INT : Addr) (w_REAL : Addr) : Int32 := (if a1 = a0 then (1 : Int32) else (if a0 = w_REAL then (if a1 = w_INT then (1 : Int32) else (0 : Int32)) else (0 : Int32)))
theorem own_ef_acc (m : MethodId) (a0 : Addr) (a1 : Addr) : entryFrame m #[(.ref a0), (.ref a1)] 2 = mkF m 0 #[.val (.ref a0), .val (.ref a1)] [] := by first | (simp [entryFrame, mkF, argsToLocals, Value.category]; done) | rfl
def Q_acc (Z : State) (a0 : Addr) (a1 : Addr) (w_INT : Addr) (w_REAL : Addr) (h0 : Heap) (n0 : Nat) (v : Option Value) (h : Heap) (L : List Loc) : Prop := v = some (.int (F_acc a0 a1 w_INT w_REAL)) ∧ Fr n0 L ∧ h = h0
set_option maxRecDepth 65536 in
set_option maxHeartbeats 40000000 in
theorem rm_acc (l : Launch) (Z : State) (a0' : Array Value) (hw : ∀ d ∈ tables_1, d.before a0' Z = true) (ws : List Jvm.Cond) (a0 : Addr) (a1 : Addr) (w_INT : Addr) (w_REAL : Addr) (h0 : Heap) (n0 : Nat) (Z0 : n0 ≤ h0.size) (S_INT : Sta Z h0 "com/example/ferrule/ferrule/model/Type" "INT" "Lcom/example/ferrule/ferrule/model/Type;" (.ref w_INT)) (S_REAL : Sta Z h0 "com/example/ferrule/ferrule/model/Type" "REAL" "Lcom/example/ferrule/ferrule/model/Type;" (.ref w_REAL)) :
    MetFree l (⟨"com/example/ferrule/ferrule/model/Type", "accepts", "(Lcom/example/ferrule/ferrule/model/Type;)Z"⟩ : MethodName) (head1 (Jvm.Cond.code (⟨"com/example/ferrule/ferrule/model/Type", "accepts", "(Lcom/example/ferrule/ferrule/model/Type;)Z"⟩ : MethodName) prog_57_method_6_code 2 (some .boolean) :: ws) ({ frames := 0, cells := 0, slots := 0, locals := 0 } : Room)) (fun a U => a = #[(.ref a0), (.ref a1)] ∧ Z.Warmed39 U.vm ∧ U.heap = h0) (fun _ _ _ _ _ => True) (fun _ U o U' => ∃ v L, o = .returned v ∧ Q_acc Z a0 a1 w_INT w_REAL h0 n0 v U'.heap L ∧ FrameEnd U o U' L ({ frames := 0, cells := 0, slots := 0, locals := 0 } : Room).cells ({ frames := 0, cells := 0, slots := 0, locals := 0 } : Room).slots) := by
  refine MetFree.of_bodySF (plainFor_of_name own_pn1) hisR ?_
  intro p e s m args below meth c s₁ Bd hml0 hP hK
  obtain ⟨rfl, hZ, hh⟩ := hP
  have hx := Bd.exec
  have hby := Bd.bytes
  have hml : c.maxLocals = 2 := hml0
  have hown : s.vm.findClass "com/example/ferrule/ferrule/model/Type" = some m.cls := findClass_of_methodNamed Bd.named
  have hnm := (name_of_methodNamed Bd.named Bd.method).1
  have X0 : Stand p l e ({ frames := 0, cells := 0, slots := 0, locals := 0 } : Room) s m #[(.ref a0), (.ref a1)] below meth c s₁ [] 0 0 := Stand.of_body Bd
  have e0 : s₁.heap = h0 := by rw [← hh, Bd.state]; rfl
  have N0 := Fr.nil n0
  have pre0 : ∀ t, Steps p.tables e below (s₁.setTop (mkF m 0 #[.val (.ref a0), .val (.ref a1)] [])) t → Steps p.tables e below (s₁.setTop (entryFrame m #[(.ref a0), (.ref a1)] 2)) t := fun t k => castTop (own_ef_acc m a0 a1) k
  have pre9 : ∀ t, Steps p.tables e below (s₁.setTop (mkF m 2 #[.val (.ref a0), .val (.ref a1)] [(.ref a0), (.ref a1)])) t → Steps p.tables e below (s₁.setTop (entryFrame m #[(.ref a0), (.ref a1)] 2)) t := fun t k => pre0 t (by
    show Steps p.tables e below (s₁.setTop (mkF m 0 #[.val (.ref a0), .val (.ref a1)] [])) _
    refine XS.aloadN X0.here hx rfl (hb hby own_d_acc_0) rfl rfl ?_
    show Steps p.tables e below (s₁.setTop (mkF m 1 #[.val (.ref a0), .val (.ref a1)] [(.ref a1)])) _
    refine XS.aloadN X0.here hx rfl (hb hby own_d_acc_1) rfl rfl ?_
    exact k)
  by_cases hc2_8 : a1 = a0
  · obtain ⟨fs, hr, hrun, hended, hW, hsame⟩ := X0.leave (v := some (.int (1 : Int32))) (fun h => by rw [Bd.returns] at h; cases h)
    refine ⟨_, _, pre9 _ ?_, hrun, hended, _, _, rfl, ?_, ⟨_, rfl⟩, hW, hsame.mono (by decide) (by decide)⟩
    · show Steps p.tables e below (s₁.setTop (mkF m 2 #[.val (.ref a0), .val (.ref a1)] [(.ref a0), (.ref a1)])) _
      refine Jvm.RoadKit.acmp (g := (mkF m 2 #[.val (.ref a0), .val (.ref a1)] [(.ref a0), (.ref a1)])) X0 hx rfl rfl rfl (pc0 := 2) (pc' := 19) (same := true) rfl (hb hby own_d_acc_2) rfl (decide_eq_true (congrArg Value.ref hc2_8)) (by decide) (by decide) ?_
      show Steps p.tables e below (s₁.setTop (mkF m 19 #[.val (.ref a0), .val (.ref a1)] [])) _
      refine XS.iconst X0.here hx rfl (hb hby own_d_acc_19) ?_
      show Steps p.tables e below (s₁.setTop (mkF m 20 #[.val (.ref a0), .val (.ref a1)] [(.int (1 : Int32))])) _
      refine XS.goto X0.here hx rfl (pc0 := 20) (pc' := 24) rfl (hb hby own_d_acc_20) (by decide) (by decide) ?_
      show Steps p.tables e below (s₁.setTop (mkF m 24 #[.val (.ref a0), .val (.ref a1)] [(.int (1 : Int32))])) _
      exact retN X0 hx (t := .boolean) Bd.returns (by simp) (hb hby own_d_acc_24) hr
    · show Q_acc Z a0 a1 w_INT w_REAL h0 n0 _ s₁.heap _
      refine ⟨?_, N0, e0⟩
      rw [F_acc, if_pos hc2_8]
  · obtain ⟨T10, X10, e10, st10⟩ := getS2 X0 hx hZ hown (host := "") (Or.inl (hw _ (List.mem_of_getElem? (i := 18) rfl))) Via.refl e0 S_REAL (g := (mkF m 6 #[.val (.ref a0), .val (.ref a1)] [(.ref a0)])) rfl (hb hby own_d_acc_6)
    have pre12 : ∀ t, Steps p.tables e below (T10.setTop (mkF m 9 #[.val (.ref a0), .val (.ref a1)] [(.ref w_REAL), (.ref a0)])) t → Steps p.tables e below (s₁.setTop (entryFrame m #[(.ref a0), (.ref a1)] 2)) t := fun t k => pre9 t (by
      show Steps p.tables e below (s₁.setTop (mkF m 2 #[.val (.ref a0), .val (.ref a1)] [(.ref a0), (.ref a1)])) _
      refine Jvm.RoadKit.acmp (g := (mkF m 2 #[.val (.ref a0), .val (.ref a1)] [(.ref a0), (.ref a1)])) X0 hx rfl rfl rfl (pc0 := 2) (pc' := 5) (same := false) rfl (hb hby own_d_acc_2) rfl (decide_eq_false fun q => hc2_8 (Value.ref.inj q)) (by decide) (by decide) ?_
      show Steps p.tables e below (s₁.setTop (mkF m 5 #[.val (.ref a0), .val (.ref a1)] [])) _
      refine XS.aloadN X0.here hx rfl (hb hby own_d_acc_5) rfl rfl ?_
      show Steps p.tables e below (s₁.setTop (mkF m 6 #[.val (.ref a0), .val (.ref a1)] [(.ref a0)])) _
      refine st10 _ ?_
      exact k)
    by_cases hc9_11 : a0 = w_REAL
    · obtain ⟨T13, X13, e13, st13⟩ := getS2 X10 hx hZ hown (host := "") (Or.inl (hw _ (List.mem_of_getElem? (i := 19) rfl))) Via.refl e10 S_INT (g := (mkF m 13 #[.val (.ref a0), .val (.ref a1)] [(.ref a1)])) rfl (hb hby own_d_acc_13)
      have pre15 : ∀ t, Steps p.tables e below (T13.setTop (mkF m 16 #[.val (.ref a0), .val (.ref a1)] [(.ref w_INT), (.ref a1)])) t → Steps p.tables e below (s₁.setTop (entryFrame m #[(.ref a0), (.ref a1)] 2)) t := fun t k => pre12 t (by
        show Steps p.tables e below (T10.setTop (mkF m 9 #[.val (.ref a0), .val (.ref a1)] [(.ref w_REAL), (.ref a0)])) _
        refine Jvm.RoadKit.acmp (g := (mkF m 9 #[.val (.ref a0), .val (.ref a1)] [(.ref w_REAL), (.ref a0)])) X10 hx rfl rfl rfl (pc0 := 9) (pc' := 12) (same := true) rfl (hb hby own_d_acc_9) rfl (decide_eq_true (congrArg Value.ref hc9_11)) (by decide) (by decide) ?_
        show Steps p.tables e below (T10.setTop (mkF m 12 #[.val (.ref a0), .val (.ref a1)] [])) _
        refine XS.aloadN X10.here hx rfl (hb hby own_d_acc_12) rfl rfl ?_
        show Steps p.tables e below (T10.setTop (mkF m 13 #[.val (.ref a0), .val (.ref a1)] [(.ref a1)])) _
        refine st13 _ ?_
        exact k)
      by_cases hc16_14 : a1 = w_INT
      · obtain ⟨fs, hr, hrun, hended, hW, hsame⟩ := X13.leave (v := some (.int (1 : Int32))) (fun h => by rw [Bd.returns] at h; cases h)
        refine ⟨_, _, pre15 _ ?_, hrun, hended, _, _, rfl, ?_, ⟨_, rfl⟩, hW, hsame.mono (by decide) (by decide)⟩
        · show Steps p.tables e below (T13.setTop (mkF m 16 #[.val (.ref a0), .val (.ref a1)] [(.ref w_INT), (.ref a1)])) _
          refine Jvm.RoadKit.acmp (g := (mkF m 16 #[.val (.ref a0), .val (.ref a1)] [(.ref w_INT), (.ref a1)])) X13 hx rfl rfl rfl (pc0 := 16) (pc' := 19) (same := true) rfl (hb hby own_d_acc_16) rfl (decide_eq_true (congrArg Value.ref hc16_14)) (by decide) (by decide) ?_
          show Steps p.tables e below (T13.setTop (mkF m 19 #[.val (.ref a0), .val (.ref a1)] [])) _
          refine XS.iconst X13.here hx rfl (hb hby own_d_acc_19) ?_
          show Steps p.tables e below (T13.setTop (mkF m 20 #[.val (.ref a0), .val (.ref a1)] [(.int (1 : Int32))])) _
          refine XS.goto X13.here hx rfl (pc0 := 20) (pc' := 24) rfl (hb hby own_d_acc_20) (by decide) (by decide) ?_
          show Steps p.tables e below (T13.setTop (mkF m 24 #[.val (.ref a0), .val (.ref a1)] [(.int (1 : Int32))])) _
          exact retN X13 hx (t := .boolean) Bd.returns (by simp) (hb hby own_d_acc_24) hr
        · show Q_acc Z a0 a1 w_INT w_REAL h0 n0 _ T13.heap _
          refine ⟨?_, N0, e13⟩
          rw [F_acc, if_neg hc2_8, if_pos hc9_11, if_pos hc16_14]
      · obtain ⟨fs, hr, hrun, hended, hW, hsame⟩ := X13.leave (v := some (.int (0 : Int32))) (fun h => by rw [Bd.returns] at h; cases h)
        refine ⟨_, _, pre15 _ ?_, hrun, hended, _, _, rfl, ?_, ⟨_, rfl⟩, hW, hsame.mono (by decide) (by decide)⟩
        · show Steps p.tables e below (T13.setTop (mkF m 16 #[.val (.ref a0), .val (.ref a1)] [(.ref w_INT), (.ref a1)])) _
          refine Jvm.RoadKit.acmp (g := (mkF m 16 #[.val (.ref a0), .val (.ref a1)] [(.ref w_INT), (.ref a1)])) X13 hx rfl rfl rfl (pc0 := 16) (pc' := 23) (same := false) rfl (hb hby own_d_acc_16) rfl (decide_eq_false fun q => hc16_14 (Value.ref.inj q)) (by decide) (by decide) ?_
          show Steps p.tables e below (T13.setTop (mkF m 23 #[.val (.ref a0), .val (.ref a1)] [])) _
          refine XS.iconst X13.here hx rfl (hb hby own_d_acc_23) ?_
          show Steps p.tables e below (T13.setTop (mkF m 24 #[.val (.ref a0), .val (.ref a1)] [(.int (0 : Int32))])) _
          exact retN X13 hx (t := .boolean) Bd.returns (by simp) (hb hby own_d_acc_24) hr
        · show Q_acc Z a0 a1 w_INT w_REAL h0 n0 _ T13.heap _
          refine ⟨?_, N0, e13⟩
          rw [F_acc, if_neg hc2_8, if_pos hc9_11, if_neg hc16_14]
    · obtain ⟨fs, hr, hrun, hended, hW, hsame⟩ := X10.leave (v := some (.int (0 : Int32))) (fun h => by rw [Bd.returns] at h; cases h)
      refine ⟨_, _, pre12 _ ?_, hrun, hended, _, _, rfl, ?_, ⟨_, rfl⟩, hW, hsame.mono (by decide) (by decide)⟩
      · show Steps p.tables e below (T10.setTop (mkF m 9 #[.val (.ref a0), .val (.ref a1)] [(.ref w_REAL), (.ref a0)])) _
        refine Jvm.RoadKit.acmp (g := (mkF m 9 #[.val (.ref a0), .val (.ref a1)] [(.ref w_REAL), (.ref a0)])) X10 hx rfl rfl rfl (pc0 := 9) (pc' := 23) (same := false) rfl (hb hby own_d_acc_9) rfl (decide_eq_false fun q => hc9_11 (Value.ref.inj q)) (by decide) (by decide) ?_
        show Steps p.tables e below (T10.setTop (mkF m 23 #[.val (.ref a0), .val (.ref a1)] [])) _
        refine XS.iconst X10.here hx rfl (hb hby own_d_acc_23) ?_
        show Steps p.tables e below (T10.setTop (mkF m 24 #[.val (.ref a0), .val (.ref a1)] [(.int (0 : Int32))])) _
        exact retN X10 hx (t := .boolean) Bd.returns (by simp) (hb hby own_d_acc_24) hr
      · show Q_acc Z a0 a1 w_INT w_REAL h0 n0 _ T10.heap _
        refine ⟨?_, N0, e10⟩
        rw [F_acc, if_neg hc2_8, if_neg hc9_11]
theorem own_pd0 : parseMethodDescriptor "(I)Lcom/example/ferrule/ferrule/model/Type;" = some ⟨[.int], some (.object "com/example/ferrule/ferrule/model/Type")⟩ := by decide +kernel
theorem own_pd1 : parseMethodDescriptor "(Lcom/example/ferrule/ferrule/model/Type;)Z" = some ⟨[(.object "com/example/ferrule/ferrule/model/Type")], some .boolean⟩ := by decide +kernel
def F_law (p0 : Int32) (p1 : Int32) : Int32 := (if ((p0 &&& (2147483647 : Int32)) % (3 : Int32)) = (0 : Int32) then (if ((p1 &&& (2147483647 : Int32)) % (3 : Int32)) = (0 : Int32) then (1 : Int32) else (if ((p1 &&& (2147483647 : Int32)) % (3 : Int32)) = (1 : Int32) then (1 : Int32) else (1 : Int32))) else (if ((p0 &&& (2147483647 : Int32)) % (3 : Int32)) = (1 : Int32) then (if ((p1 &&& (2147483647 : Int32)) % (3 : Int32)) = (0 : Int32) then (1 : Int32) else (if ((p1 &&& (2147483647 : Int32)) % (3 : Int32)) = (1 : Int32) then (1 : Int32) else (1 : Int32))) else (if ((p1 &&& (2147483647 : Int32)) % (3 : Int32)) = (0 : Int32) then (1 : Int32) else (if ((p1 &&& (2147483647 : Int32)) % (3 : Int32)) = (1 : Int32) then (1 : Int32) else (1 : Int32)))))
theorem own_ef_law (m : MethodId) (p0 : Int32) (p1 : Int32) : entryFrame m #[(.int p0), (.int p1)] maxLocals = mkF m 0 #[.val (.int p0), .val (.int p1), .unset, .unset, .unset, .unset, .unset] [] := by first | (simp [entryFrame, mkF, argsToLocals, Value.category, maxLocals]; done) | rfl
def Q_law (Z : State) (p0 : Int32) (p1 : Int32) (w_BOOL : Addr) (w_INT : Addr) (w_REAL : Addr) (h0 : Heap) (n0 : Nat) (v : Option Value) (h : Heap) (L : List Loc) : Prop := v = some (.int (F_law p0 p1)) ∧ Fr n0 L ∧ True
set_option maxRecDepth 65536 in
set_option maxHeartbeats 40000000 in
theorem rm_law (l : Launch) (Z : State) (a0' : Array Value) (hw : ∀ d ∈ tables_1, d.before a0' Z = true) (ws : List Jvm.Cond) (p0 : Int32) (p1 : Int32) (w_BOOL : Addr) (w_INT : Addr) (w_REAL : Addr) (h0 : Heap) (n0 : Nat) (Z0 : n0 ≤ h0.size) (S_BOOL : Sta Z h0 "com/example/ferrule/ferrule/model/Type" "BOOL" "Lcom/example/ferrule/ferrule/model/Type;" (.ref w_BOOL)) (E_BOOL : Exa Z h0 w_BOOL "com/example/ferrule/ferrule/model/Type") (S_INT : Sta Z h0 "com/example/ferrule/ferrule/model/Type" "INT" "Lcom/example/ferrule/ferrule/model/Type;" (.ref w_INT)) (E_INT : Exa Z h0 w_INT "com/example/ferrule/ferrule/model/Type") (S_REAL : Sta Z h0 "com/example/ferrule/ferrule/model/Type" "REAL" "Lcom/example/ferrule/ferrule/model/Type;" (.ref w_REAL)) (E_REAL : Exa Z h0 w_REAL "com/example/ferrule/ferrule/model/Type") (ne_BOOL_INT : ¬ (w_BOOL = w_INT)) (ne_BOOL_REAL : ¬ (w_BOOL = w_REAL)) (ne_INT_BOOL : ¬ (w_INT = w_BOOL)) (ne_INT_REAL : ¬ (w_INT = w_REAL)) (ne_REAL_BOOL : ¬ (w_REAL = w_BOOL)) (ne_REAL_INT : ¬ (w_REAL = w_INT)) :
    MetFree l x (head1 (Jvm.Cond.code x code maxLocals ret :: ws) room_1) (fun a U => a = #[(.int p0), (.int p1)] ∧ Z.Warmed39 U.vm ∧ U.heap = h0) (fun _ _ _ _ _ => True) (fun _ U o U' => ∃ v L, o = .returned v ∧ Q_law Z p0 p1 w_BOOL w_INT w_REAL h0 n0 v U'.heap L ∧ FrameEnd U o U' L room_1.cells room_1.slots) := by
  refine MetFree.of_bodySF (plainFor_of_name own_pn0) hisR ?_
  intro p e s m args below meth c s₁ Bd hml0 hP hK
  obtain ⟨rfl, hZ, hh⟩ := hP
  have hx := Bd.exec
  have hby := Bd.bytes
  have hml : c.maxLocals = 7 := hml0
  have hown : s.vm.findClass "com/example/ferrule/ferrule/model/TypeAcceptsPinLaw" = some m.cls := findClass_of_methodNamed Bd.named
  have hnm := (name_of_methodNamed Bd.named Bd.method).1
  have X0 : Stand p l e room_1 s m #[(.int p0), (.int p1)] below meth c s₁ [] 0 0 := Stand.of_body Bd
  have e0 : s₁.heap = h0 := by rw [← hh, Bd.state]; rfl
  have N0 := Fr.nil n0
  have pre0 : ∀ t, Steps p.tables e below (s₁.setTop (mkF m 0 #[.val (.int p0), .val (.int p1), .unset, .unset, .unset, .unset, .unset] [])) t → Steps p.tables e below (s₁.setTop (entryFrame m #[(.int p0), (.int p1)] maxLocals)) t := fun t k => castTop (own_ef_law m p0 p1) k
  obtain ⟨T16, h16, k16, X16, e16, E16, A16, st16⟩ := newP X0 hx hZ (hw _ (List.mem_of_getElem? (i := 1) rfl)) e0 (g := (mkF m 16 #[.val (.int p0), .val (.int p1), .val (.int ((p0 &&& (2147483647 : Int32)) % (3 : Int32))), .val (.int ((p1 &&& (2147483647 : Int32)) % (3 : Int32))), .unset, .unset, .unset] [(.int (9 : Int32))])) rfl (hb hby at_16) rfl (by decide) (cap := 9) (by decide) (by decide) (by decide) (by decide)
  obtain ⟨b16, g16⟩ : ∃ z, z = h0.size := ⟨_, rfl⟩
  rw [← g16] at A16 st16
  have V_b16 : Arv Z h16 b16 k16 .boolean (9 : Int32) [(.int (0 : Int32)), (.int (0 : Int32)), (.int (0 : Int32)), (.int (0 : Int32)), (.int (0 : Int32)), (.int (0 : Int32)), (.int (0 : Int32)), (.int (0 : Int32)), (.int (0 : Int32))] (.int (0 : Int32)) := (Arv.new A16 (by decide)).pad (pad_rep [] (.int (0 : Int32)) 9)
  have EX16 : Ext h0 h16 := E16
  have g_b16 : n0 ≤ b16 := Nat.le_trans Z0 (Nat.le_of_eq g16.symm)
  have sz_b16 : h0.size ≤ b16 := Nat.le_of_eq g16.symm
  have Z16 : n0 ≤ h16.size := Nat.le_trans Z0 EX16.1
  obtain ⟨cl17, Ar17, q17, S17, N17, H17, G17⟩ := V_b16
  have hin17 : ¬ ((0 : Int32) < 0 ∨ cl17.slots.size ≤ ((0 : Int32)).toNatClampNeg) := inb_of S17 ⟨by decide, by decide⟩
  obtain ⟨T18, h18, X18, e18, W18, st18⟩ := stZ X16 hx hZ e16 Ar17 (j := (0 : Int32)) hin17 (g := (mkF m 21 #[.val (.int p0), .val (.int p1), .val (.int ((p0 &&& (2147483647 : Int32)) % (3 : Int32))), .val (.int ((p1 &&& (2147483647 : Int32)) % (3 : Int32))), .unset, .unset, .unset] [(.int (1 : Int32)), (.int (0 : Int32)), (.ref b16), (.ref b16)])) rfl rfl (hb hby at_21)
  have V_b16_18 : Arv Z h18 b16 k16 .boolean (9 : Int32) [(.int (nar .boolean (1 : Int32))), (.int (0 : Int32)), (.int (0 : Int32)), (.int (0 : Int32)), (.int (0 : Int32)), (.int (0 : Int32)), (.int (0 : Int32)), (.int (0 : Int32)), (.int (0 : Int32))] (.int (0 : Int32)) := Arv.set Ar17 q17 S17 N17 H17 G17 (fits_nar_bool _) W18 0 rfl (Nat.le_of_ble_eq_true rfl)
  have EX18 : Ext h0 h18 := own_extwr EX16 W18 sz_b16
  have Z18 : n0 ≤ h18.size := Nat.le_trans Z0 EX18.1
  have N18 := Fr.snoc X18 N0 g_b16
  obtain ⟨cl19, Ar19, q19, S19, N19, H19, G19⟩ := V_b16_18
  have hin19 : ¬ ((1 : Int32) < 0 ∨ cl19.slots.size ≤ ((1 : Int32)).toNatClampNeg) := inb_of S19 ⟨by decide, by decide⟩
  obtain ⟨T20, h20, X20, e20, W20, st20⟩ := stZ X18 hx hZ e18 Ar19 (j := (1 : Int32)) hin19 (g := (mkF m 25 #[.val (.int p0), .val (.int p1), .val (.int ((p0 &&& (2147483647 : Int32)) % (3 : Int32))), .val (.int ((p1 &&& (2147483647 : Int32)) % (3 : Int32))), .unset, .unset, .unset] [(.int (0 : Int32)), (.int (1 : Int32)), (.ref b16), (.ref b16)])) rfl rfl (hb hby at_25)
  have V_b16_20 : Arv Z h20 b16 k16 .boolean (9 : Int32) [(.int (nar .boolean (1 : Int32))), (.int (nar .boolean (0 : Int32))), (.int (0 : Int32)), (.int (0 : Int32)), (.int (0 : Int32)), (.int (0 : Int32)), (.int (0 : Int32)), (.int (0 : Int32)), (.int (0 : Int32))] (.int (0 : Int32)) := Arv.set Ar19 q19 S19 N19 H19 G19 (fits_nar_bool _) W20 1 rfl (Nat.le_of_ble_eq_true rfl)
  have EX20 : Ext h0 h20 := own_extwr EX18 W20 sz_b16
  have Z20 : n0 ≤ h20.size := Nat.le_trans Z0 EX20.1
  have N20 := Fr.snoc X20 N18 g_b16
  obtain ⟨cl21, Ar21, q21, S21, N21, H21, G21⟩ := V_b16_20
  have hin21 : ¬ ((2 : Int32) < 0 ∨ cl21.slots.size ≤ ((2 : Int32)).toNatClampNeg) := inb_of S21 ⟨by decide, by decide⟩
  obtain ⟨T22, h22, X22, e22, W22, st22⟩ := stZ X20 hx hZ e20 Ar21 (j := (2 : Int32)) hin21 (g := (mkF m 29 #[.val (.int p0), .val (.int p1), .val (.int ((p0 &&& (2147483647 : Int32)) % (3 : Int32))), .val (.int ((p1 &&& (2147483647 : Int32)) % (3 : Int32))), .unset, .unset, .unset] [(.int (0 : Int32)), (.int (2 : Int32)), (.ref b16), (.ref b16)])) rfl rfl (hb hby at_29)
  have V_b16_22 : Arv Z h22 b16 k16 .boolean (9 : Int32) [(.int (nar .boolean (1 : Int32))), (.int (nar .boolean (0 : Int32))), (.int (nar .boolean (0 : Int32))), (.int (0 : Int32)), (.int (0 : Int32)), (.int (0 : Int32)), (.int (0 : Int32)), (.int (0 : Int32)), (.int (0 : Int32))] (.int (0 : Int32)) := Arv.set Ar21 q21 S21 N21 H21 G21 (fits_nar_bool _) W22 2 rfl (Nat.le_of_ble_eq_true rfl)
  have EX22 : Ext h0 h22 := own_extwr EX20 W22 sz_b16
  have Z22 : n0 ≤ h22.size := Nat.le_trans Z0 EX22.1
  have N22 := Fr.snoc X22 N20 g_b16
  obtain ⟨cl23, Ar23, q23, S23, N23, H23, G23⟩ := V_b16_22
  have hin23 : ¬ ((3 : Int32) < 0 ∨ cl23.slots.size ≤ ((3 : Int32)).toNatClampNeg) := inb_of S23 ⟨by decide, by decide⟩
  obtain ⟨T24, h24, X24, e24, W24, st24⟩ := stZ X22 hx hZ e22 Ar23 (j := (3 : Int32)) hin23 (g := (mkF m 33 #[.val (.int p0), .val (.int p1), .val (.int ((p0 &&& (2147483647 : Int32)) % (3 : Int32))), .val (.int ((p1 &&& (2147483647 : Int32)) % (3 : Int32))), .unset, .unset, .unset] [(.int (0 : Int32)), (.int (3 : Int32)), (.ref b16), (.ref b16)])) rfl rfl (hb hby at_33)
  have V_b16_24 : Arv Z h24 b16 k16 .boolean (9 : Int32) [(.int (nar .boolean (1 : Int32))), (.int (nar .boolean (0 : Int32))), (.int (nar .boolean (0 : Int32))), (.int (nar .boolean (0 : Int32))), (.int (0 : Int32)), (.int (0 : Int32)), (.int (0 : Int32)), (.int (0 : Int32)), (.int (0 : Int32))] (.int (0 : Int32)) := Arv.set Ar23 q23 S23 N23 H23 G23 (fits_nar_bool _) W24 3 rfl (Nat.le_of_ble_eq_true rfl)
  have EX24 : Ext h0 h24 := own_extwr EX22 W24 sz_b16
  have Z24 : n0 ≤ h24.size := Nat.le_trans Z0 EX24.1
  have N24 := Fr.snoc X24 N22 g_b16
  obtain ⟨cl25, Ar25, q25, S25, N25, H25, G25⟩ := V_b16_24
  have hin25 : ¬ ((4 : Int32) < 0 ∨ cl25.slots.size ≤ ((4 : Int32)).toNatClampNeg) := inb_of S25 ⟨by decide, by decide⟩
  obtain ⟨T26, h26, X26, e26, W26, st26⟩ := stZ X24 hx hZ e24 Ar25 (j := (4 : Int32)) hin25 (g := (mkF m 37 #[.val (.int p0), .val (.int p1), .val (.int ((p0 &&& (2147483647 : Int32)) % (3 : Int32))), .val (.int ((p1 &&& (2147483647 : Int32)) % (3 : Int32))), .unset, .unset, .unset] [(.int (1 : Int32)), (.int (4 : Int32)), (.ref b16), (.ref b16)])) rfl rfl (hb hby at_37)
  have V_b16_26 : Arv Z h26 b16 k16 .boolean (9 : Int32) [(.int (nar .boolean (1 : Int32))), (.int (nar .boolean (0 : Int32))), (.int (nar .boolean (0 : Int32))), (.int (nar .boolean (0 : Int32))), (.int (nar .boolean (1 : Int32))), (.int (0 : Int32)), (.int (0 : Int32)), (.int (0 : Int32)), (.int (0 : Int32))] (.int (0 : Int32)) := Arv.set Ar25 q25 S25 N25 H25 G25 (fits_nar_bool _) W26 4 rfl (Nat.le_of_ble_eq_true rfl)
  have EX26 : Ext h0 h26 := own_extwr EX24 W26 sz_b16
  have Z26 : n0 ≤ h26.size := Nat.le_trans Z0 EX26.1
  have N26 := Fr.snoc X26 N24 g_b16
  obtain ⟨cl27, Ar27, q27, S27, N27, H27, G27⟩ := V_b16_26
  have hin27 : ¬ ((5 : Int32) < 0 ∨ cl27.slots.size ≤ ((5 : Int32)).toNatClampNeg) := inb_of S27 ⟨by decide, by decide⟩
  obtain ⟨T28, h28, X28, e28, W28, st28⟩ := stZ X26 hx hZ e26 Ar27 (j := (5 : Int32)) hin27 (g := (mkF m 41 #[.val (.int p0), .val (.int p1), .val (.int ((p0 &&& (2147483647 : Int32)) % (3 : Int32))), .val (.int ((p1 &&& (2147483647 : Int32)) % (3 : Int32))), .unset, .unset, .unset] [(.int (0 : Int32)), (.int (5 : Int32)), (.ref b16), (.ref b16)])) rfl rfl (hb hby at_41)
  have V_b16_28 : Arv Z h28 b16 k16 .boolean (9 : Int32) [(.int (nar .boolean (1 : Int32))), (.int (nar .boolean (0 : Int32))), (.int (nar .boolean (0 : Int32))), (.int (nar .boolean (0 : Int32))), (.int (nar .boolean (1 : Int32))), (.int (nar .boolean (0 : Int32))), (.int (0 : Int32)), (.int (0 : Int32)), (.int (0 : Int32))] (.int (0 : Int32)) := Arv.set Ar27 q27 S27 N27 H27 G27 (fits_nar_bool _) W28 5 rfl (Nat.le_of_ble_eq_true rfl)
  have EX28 : Ext h0 h28 := own_extwr EX26 W28 sz_b16
  have Z28 : n0 ≤ h28.size := Nat.le_trans Z0 EX28.1
  have N28 := Fr.snoc X28 N26 g_b16
  obtain ⟨cl29, Ar29, q29, S29, N29, H29, G29⟩ := V_b16_28
  have hin29 : ¬ ((6 : Int32) < 0 ∨ cl29.slots.size ≤ ((6 : Int32)).toNatClampNeg) := inb_of S29 ⟨by decide, by decide⟩
  obtain ⟨T30, h30, X30, e30, W30, st30⟩ := stZ X28 hx hZ e28 Ar29 (j := (6 : Int32)) hin29 (g := (mkF m 46 #[.val (.int p0), .val (.int p1), .val (.int ((p0 &&& (2147483647 : Int32)) % (3 : Int32))), .val (.int ((p1 &&& (2147483647 : Int32)) % (3 : Int32))), .unset, .unset, .unset] [(.int (0 : Int32)), (.int (6 : Int32)), (.ref b16), (.ref b16)])) rfl rfl (hb hby at_46)
  have V_b16_30 : Arv Z h30 b16 k16 .boolean (9 : Int32) [(.int (nar .boolean (1 : Int32))), (.int (nar .boolean (0 : Int32))), (.int (nar .boolean (0 : Int32))), (.int (nar .boolean (0 : Int32))), (.int (nar .boolean (1 : Int32))), (.int (nar .boolean (0 : Int32))), (.int (nar .boolean (0 : Int32))), (.int (0 : Int32)), (.int (0 : Int32))] (.int (0 : Int32)) := Arv.set Ar29 q29 S29 N29 H29 G29 (fits_nar_bool _) W30 6 rfl (Nat.le_of_ble_eq_true rfl)
  have EX30 : Ext h0 h30 := own_extwr EX28 W30 sz_b16
  have Z30 : n0 ≤ h30.size := Nat.le_trans Z0 EX30.1
  have N30 := Fr.snoc X30 N28 g_b16
  obtain ⟨cl31, Ar31, q31, S31, N31, H31, G31⟩ := V_b16_30
  have hin31 : ¬ ((7 : Int32) < 0 ∨ cl31.slots.size ≤ ((7 : Int32)).toNatClampNeg) := inb_of S31 ⟨by decide, by decide⟩
  obtain ⟨T32, h32, X32, e32, W32, st32⟩ := stZ X30 hx hZ e30 Ar31 (j := (7 : Int32)) hin31 (g := (mkF m 51 #[.val (.int p0), .val (.int p1), .val (.int ((p0 &&& (2147483647 : Int32)) % (3 : Int32))), .val (.int ((p1 &&& (2147483647 : Int32)) % (3 : Int32))), .unset, .unset, .unset] [(.int (1 : Int32)), (.int (7 : Int32)), (.ref b16), (.ref b16)])) rfl rfl (hb hby at_51)
  have V_b16_32 : Arv Z h32 b16 k16 .boolean (9 : Int32) [(.int (nar .boolean (1 : Int32))), (.int (nar .boolean (0 : Int32))), (.int (nar .boolean (0 : Int32))), (.int (nar .boolean (0 : Int32))), (.int (nar .boolean (1 : Int32))), (.int (nar .boolean (0 : Int32))), (.int (nar .boolean (0 : Int32))), (.int (nar .boolean (1 : Int32))), (.int (0 : Int32))] (.int (0 : Int32)) := Arv.set Ar31 q31 S31 N31 H31 G31 (fits_nar_bool _) W32 7 rfl (Nat.le_of_ble_eq_true rfl)
  have EX32 : Ext h0 h32 := own_extwr EX30 W32 sz_b16
  have Z32 : n0 ≤ h32.size := Nat.le_trans Z0 EX32.1
  have N32 := Fr.snoc X32 N30 g_b16
  obtain ⟨cl33, Ar33, q33, S33, N33, H33, G33⟩ := V_b16_32
  have hin33 : ¬ ((8 : Int32) < 0 ∨ cl33.slots.size ≤ ((8 : Int32)).toNatClampNeg) := inb_of S33 ⟨by decide, by decide⟩
  obtain ⟨T34, h34, X34, e34, W34, st34⟩ := stZ X32 hx hZ e32 Ar33 (j := (8 : Int32)) hin33 (g := (mkF m 56 #[.val (.int p0), .val (.int p1), .val (.int ((p0 &&& (2147483647 : Int32)) % (3 : Int32))), .val (.int ((p1 &&& (2147483647 : Int32)) % (3 : Int32))), .unset, .unset, .unset] [(.int (1 : Int32)), (.int (8 : Int32)), (.ref b16), (.ref b16)])) rfl rfl (hb hby at_56)
  have V_b16_34 : Arv Z h34 b16 k16 .boolean (9 : Int32) [(.int (nar .boolean (1 : Int32))), (.int (nar .boolean (0 : Int32))), (.int (nar .boolean (0 : Int32))), (.int (nar .boolean (0 : Int32))), (.int (nar .boolean (1 : Int32))), (.int (nar .boolean (0 : Int32))), (.int (nar .boolean (0 : Int32))), (.int (nar .boolean (1 : Int32))), (.int (nar .boolean (1 : Int32)))] (.int (0 : Int32)) := Arv.set Ar33 q33 S33 N33 H33 G33 (fits_nar_bool _) W34 8 rfl (Nat.le_of_ble_eq_true rfl)
  have EX34 : Ext h0 h34 := own_extwr EX32 W34 sz_b16
  have Z34 : n0 ≤ h34.size := Nat.le_trans Z0 EX34.1
  have N34 := Fr.snoc X34 N32 g_b16
  obtain ⟨_, _, ⟨T35, L35, k35, n35⟩, -, X35, ⟨Lc35, hQ35, l35, y35, z35⟩, st35⟩ := Jvm.LawKit.callS X34 hx (y := (⟨"com/example/ferrule/ferrule/model/TypeAcceptsPinLaw", "pick", "(I)Lcom/example/ferrule/ferrule/model/Type;"⟩ : MethodName)) hown (mvT hZ (hw _ (List.mem_of_getElem? (i := 2) rfl))) (mvT hZ (hw _ (List.mem_of_getElem? (i := 3) rfl))) (mvT hZ (hw _ (List.mem_of_getElem? (i := 4) rfl))) (mvT hZ (hw _ (List.mem_of_getElem? (i := 5) rfl))) (by decide) (backOf (W := 0) (rm_pick l Z a0' hw [] ((p0 &&& (2147483647 : Int32)) % (3 : Int32)) w_BOOL w_INT w_REAL h34 n0 Z34 (S_BOOL.ext EX34) (S_INT.ext EX34) (S_REAL.ext EX34)) hZ (hw _ (List.mem_of_getElem? (i := 5) rfl)) (hw _ (List.mem_of_getElem? (i := 4) rfl)) (by decide) (by decide)) (g := (mkF m 60 #[.val (.int p0), .val (.int p1), .val (.int ((p0 &&& (2147483647 : Int32)) % (3 : Int32))), .val (.int ((p1 &&& (2147483647 : Int32)) % (3 : Int32))), .val (.ref b16), .unset, .unset] [(.int ((p0 &&& (2147483647 : Int32)) % (3 : Int32)))])) rfl (by rw [hml]; rfl) (argsL := [(.int ((p0 &&& (2147483647 : Int32)) % (3 : Int32)))]) (rest := []) (lenOf own_pd0 rfl) rfl (by show 2 * 0 + _ ≤ _; exact Nat.le_of_eq rfl) (hb hby at_60) (fun _ _ => ⟨rfl, e34, (by decide : 1 + 0 ≤ _), (by decide : 9 + 0 ≤ _)⟩)
  dsimp only [Pt.U, Pt.locs, Pt.cells, Pt.slots] at X35 l35 y35 z35 st35 hQ35
  subst l35 y35 z35
  obtain ⟨rfl, N35q, e35⟩ := hQ35
  have N35 := Fr.app N34 N35q
  have pre36 : ∀ t, Steps p.tables e below (T34.setTop (mkF m 60 #[.val (.int p0), .val (.int p1), .val (.int ((p0 &&& (2147483647 : Int32)) % (3 : Int32))), .val (.int ((p1 &&& (2147483647 : Int32)) % (3 : Int32))), .val (.ref b16), .unset, .unset] [(.int ((p0 &&& (2147483647 : Int32)) % (3 : Int32)))])) t → Steps p.tables e below (s₁.setTop (entryFrame m #[(.int p0), (.int p1)] maxLocals)) t := fun t k => pre0 t (by
    show Steps p.tables e below (s₁.setTop (mkF m 0 #[.val (.int p0), .val (.int p1), .unset, .unset, .unset, .unset, .unset] [])) _
    refine XS.iloadN X0.here hx rfl (hb hby at_0) rfl ?_
    show Steps p.tables e below (s₁.setTop (mkF m 1 #[.val (.int p0), .val (.int p1), .unset, .unset, .unset, .unset, .unset] [(.int p0)])) _
    refine X0.ldcInt hx hown (mvT hZ (hw _ (List.mem_of_getElem? (i := 0) rfl))) (g := (mkF m 1 #[.val (.int p0), .val (.int p1), .unset, .unset, .unset, .unset, .unset] [(.int p0)])) rfl (hb hby at_1) _ ?_
    show Steps p.tables e below (s₁.setTop (mkF m 3 #[.val (.int p0), .val (.int p1), .unset, .unset, .unset, .unset, .unset] [(.int (2147483647 : Int32)), (.int p0)])) _
    refine XS.iand X0.here hx rfl (hb hby at_3) rfl ?_
    show Steps p.tables e below (s₁.setTop (mkF m 4 #[.val (.int p0), .val (.int p1), .unset, .unset, .unset, .unset, .unset] [(.int (p0 &&& (2147483647 : Int32)))])) _
    refine XS.iconst X0.here hx rfl (hb hby at_4) ?_
    show Steps p.tables e below (s₁.setTop (mkF m 5 #[.val (.int p0), .val (.int p1), .unset, .unset, .unset, .unset, .unset] [(.int (3 : Int32)), (.int (p0 &&& (2147483647 : Int32)))])) _
    refine iremM X0 hx rfl (hb hby at_5) rfl (by decide) ?_
    show Steps p.tables e below (s₁.setTop (mkF m 6 #[.val (.int p0), .val (.int p1), .unset, .unset, .unset, .unset, .unset] [(.int ((p0 &&& (2147483647 : Int32)) % (3 : Int32)))])) _
    refine XS.istoreN X0.here hx rfl (hb hby at_6) rfl (l' := #[.val (.int p0), .val (.int p1), .val (.int ((p0 &&& (2147483647 : Int32)) % (3 : Int32))), .unset, .unset, .unset, .unset]) rfl ?_
    show Steps p.tables e below (s₁.setTop (mkF m 7 #[.val (.int p0), .val (.int p1), .val (.int ((p0 &&& (2147483647 : Int32)) % (3 : Int32))), .unset, .unset, .unset, .unset] [])) _
    refine XS.iloadN X0.here hx rfl (hb hby at_7) rfl ?_
    show Steps p.tables e below (s₁.setTop (mkF m 8 #[.val (.int p0), .val (.int p1), .val (.int ((p0 &&& (2147483647 : Int32)) % (3 : Int32))), .unset, .unset, .unset, .unset] [(.int p1)])) _
    refine X0.ldcInt hx hown (mvT hZ (hw _ (List.mem_of_getElem? (i := 0) rfl))) (g := (mkF m 8 #[.val (.int p0), .val (.int p1), .val (.int ((p0 &&& (2147483647 : Int32)) % (3 : Int32))), .unset, .unset, .unset, .unset] [(.int p1)])) rfl (hb hby at_8) _ ?_
    show Steps p.tables e below (s₁.setTop (mkF m 10 #[.val (.int p0), .val (.int p1), .val (.int ((p0 &&& (2147483647 : Int32)) % (3 : Int32))), .unset, .unset, .unset, .unset] [(.int (2147483647 : Int32)), (.int p1)])) _
    refine XS.iand X0.here hx rfl (hb hby at_10) rfl ?_
    show Steps p.tables e below (s₁.setTop (mkF m 11 #[.val (.int p0), .val (.int p1), .val (.int ((p0 &&& (2147483647 : Int32)) % (3 : Int32))), .unset, .unset, .unset, .unset] [(.int (p1 &&& (2147483647 : Int32)))])) _
    refine XS.iconst X0.here hx rfl (hb hby at_11) ?_
    show Steps p.tables e below (s₁.setTop (mkF m 12 #[.val (.int p0), .val (.int p1), .val (.int ((p0 &&& (2147483647 : Int32)) % (3 : Int32))), .unset, .unset, .unset, .unset] [(.int (3 : Int32)), (.int (p1 &&& (2147483647 : Int32)))])) _
    refine iremM X0 hx rfl (hb hby at_12) rfl (by decide) ?_
    show Steps p.tables e below (s₁.setTop (mkF m 13 #[.val (.int p0), .val (.int p1), .val (.int ((p0 &&& (2147483647 : Int32)) % (3 : Int32))), .unset, .unset, .unset, .unset] [(.int ((p1 &&& (2147483647 : Int32)) % (3 : Int32)))])) _
    refine XS.istoreN X0.here hx rfl (hb hby at_13) rfl (l' := #[.val (.int p0), .val (.int p1), .val (.int ((p0 &&& (2147483647 : Int32)) % (3 : Int32))), .val (.int ((p1 &&& (2147483647 : Int32)) % (3 : Int32))), .unset, .unset, .unset]) rfl ?_
    show Steps p.tables e below (s₁.setTop (mkF m 14 #[.val (.int p0), .val (.int p1), .val (.int ((p0 &&& (2147483647 : Int32)) % (3 : Int32))), .val (.int ((p1 &&& (2147483647 : Int32)) % (3 : Int32))), .unset, .unset, .unset] [])) _
    refine XS.bipush X0.here hx rfl (hb hby at_14) ?_
    show Steps p.tables e below (s₁.setTop (mkF m 16 #[.val (.int p0), .val (.int p1), .val (.int ((p0 &&& (2147483647 : Int32)) % (3 : Int32))), .val (.int ((p1 &&& (2147483647 : Int32)) % (3 : Int32))), .unset, .unset, .unset] [(.int (9 : Int32))])) _
    refine st16 _ ?_
    show Steps p.tables e below (T16.setTop (mkF m 18 #[.val (.int p0), .val (.int p1), .val (.int ((p0 &&& (2147483647 : Int32)) % (3 : Int32))), .val (.int ((p1 &&& (2147483647 : Int32)) % (3 : Int32))), .unset, .unset, .unset] [(.ref b16)])) _
    refine XS.dup X16.here hx rfl (hb hby at_18) rfl rfl ?_
    show Steps p.tables e below (T16.setTop (mkF m 19 #[.val (.int p0), .val (.int p1), .val (.int ((p0 &&& (2147483647 : Int32)) % (3 : Int32))), .val (.int ((p1 &&& (2147483647 : Int32)) % (3 : Int32))), .unset, .unset, .unset] [(.ref b16), (.ref b16)])) _
    refine XS.iconst X16.here hx rfl (hb hby at_19) ?_
    show Steps p.tables e below (T16.setTop (mkF m 20 #[.val (.int p0), .val (.int p1), .val (.int ((p0 &&& (2147483647 : Int32)) % (3 : Int32))), .val (.int ((p1 &&& (2147483647 : Int32)) % (3 : Int32))), .unset, .unset, .unset] [(.int (0 : Int32)), (.ref b16), (.ref b16)])) _
    refine XS.iconst X16.here hx rfl (hb hby at_20) ?_
    show Steps p.tables e below (T16.setTop (mkF m 21 #[.val (.int p0), .val (.int p1), .val (.int ((p0 &&& (2147483647 : Int32)) % (3 : Int32))), .val (.int ((p1 &&& (2147483647 : Int32)) % (3 : Int32))), .unset, .unset, .unset] [(.int (1 : Int32)), (.int (0 : Int32)), (.ref b16), (.ref b16)])) _
    refine st18 _ ?_
    show Steps p.tables e below (T18.setTop (mkF m 22 #[.val (.int p0), .val (.int p1), .val (.int ((p0 &&& (2147483647 : Int32)) % (3 : Int32))), .val (.int ((p1 &&& (2147483647 : Int32)) % (3 : Int32))), .unset, .unset, .unset] [(.ref b16)])) _
    refine XS.dup X18.here hx rfl (hb hby at_22) rfl rfl ?_
    show Steps p.tables e below (T18.setTop (mkF m 23 #[.val (.int p0), .val (.int p1), .val (.int ((p0 &&& (2147483647 : Int32)) % (3 : Int32))), .val (.int ((p1 &&& (2147483647 : Int32)) % (3 : Int32))), .unset, .unset, .unset] [(.ref b16), (.ref b16)])) _
    refine XS.iconst X18.here hx rfl (hb hby at_23) ?_
    show Steps p.tables e below (T18.setTop (mkF m 24 #[.val (.int p0), .val (.int p1), .val (.int ((p0 &&& (2147483647 : Int32)) % (3 : Int32))), .val (.int ((p1 &&& (2147483647 : Int32)) % (3 : Int32))), .unset, .unset, .unset] [(.int (1 : Int32)), (.ref b16), (.ref b16)])) _
    refine XS.iconst X18.here hx rfl (hb hby at_24) ?_
    show Steps p.tables e below (T18.setTop (mkF m 25 #[.val (.int p0), .val (.int p1), .val (.int ((p0 &&& (2147483647 : Int32)) % (3 : Int32))), .val (.int ((p1 &&& (2147483647 : Int32)) % (3 : Int32))), .unset, .unset, .unset] [(.int (0 : Int32)), (.int (1 : Int32)), (.ref b16), (.ref b16)])) _
    refine st20 _ ?_
    show Steps p.tables e below (T20.setTop (mkF m 26 #[.val (.int p0), .val (.int p1), .val (.int ((p0 &&& (2147483647 : Int32)) % (3 : Int32))), .val (.int ((p1 &&& (2147483647 : Int32)) % (3 : Int32))), .unset, .unset, .unset] [(.ref b16)])) _
    refine XS.dup X20.here hx rfl (hb hby at_26) rfl rfl ?_
    show Steps p.tables e below (T20.setTop (mkF m 27 #[.val (.int p0), .val (.int p1), .val (.int ((p0 &&& (2147483647 : Int32)) % (3 : Int32))), .val (.int ((p1 &&& (2147483647 : Int32)) % (3 : Int32))), .unset, .unset, .unset] [(.ref b16), (.ref b16)])) _
    refine XS.iconst X20.here hx rfl (hb hby at_27) ?_
    show Steps p.tables e below (T20.setTop (mkF m 28 #[.val (.int p0), .val (.int p1), .val (.int ((p0 &&& (2147483647 : Int32)) % (3 : Int32))), .val (.int ((p1 &&& (2147483647 : Int32)) % (3 : Int32))), .unset, .unset, .unset] [(.int (2 : Int32)), (.ref b16), (.ref b16)])) _
    refine XS.iconst X20.here hx rfl (hb hby at_28) ?_
    show Steps p.tables e below (T20.setTop (mkF m 29 #[.val (.int p0), .val (.int p1), .val (.int ((p0 &&& (2147483647 : Int32)) % (3 : Int32))), .val (.int ((p1 &&& (2147483647 : Int32)) % (3 : Int32))), .unset, .unset, .unset] [(.int (0 : Int32)), (.int (2 : Int32)), (.ref b16), (.ref b16)])) _
    refine st22 _ ?_
    show Steps p.tables e below (T22.setTop (mkF m 30 #[.val (.int p0), .val (.int p1), .val (.int ((p0 &&& (2147483647 : Int32)) % (3 : Int32))), .val (.int ((p1 &&& (2147483647 : Int32)) % (3 : Int32))), .unset, .unset, .unset] [(.ref b16)])) _
    refine XS.dup X22.here hx rfl (hb hby at_30) rfl rfl ?_
    show Steps p.tables e below (T22.setTop (mkF m 31 #[.val (.int p0), .val (.int p1), .val (.int ((p0 &&& (2147483647 : Int32)) % (3 : Int32))), .val (.int ((p1 &&& (2147483647 : Int32)) % (3 : Int32))), .unset, .unset, .unset] [(.ref b16), (.ref b16)])) _
    refine XS.iconst X22.here hx rfl (hb hby at_31) ?_
    show Steps p.tables e below (T22.setTop (mkF m 32 #[.val (.int p0), .val (.int p1), .val (.int ((p0 &&& (2147483647 : Int32)) % (3 : Int32))), .val (.int ((p1 &&& (2147483647 : Int32)) % (3 : Int32))), .unset, .unset, .unset] [(.int (3 : Int32)), (.ref b16), (.ref b16)])) _
    refine XS.iconst X22.here hx rfl (hb hby at_32) ?_
    show Steps p.tables e below (T22.setTop (mkF m 33 #[.val (.int p0), .val (.int p1), .val (.int ((p0 &&& (2147483647 : Int32)) % (3 : Int32))), .val (.int ((p1 &&& (2147483647 : Int32)) % (3 : Int32))), .unset, .unset, .unset] [(.int (0 : Int32)), (.int (3 : Int32)), (.ref b16), (.ref b16)])) _
    refine st24 _ ?_
    show Steps p.tables e below (T24.setTop (mkF m 34 #[.val (.int p0), .val (.int p1), .val (.int ((p0 &&& (2147483647 : Int32)) % (3 : Int32))), .val (.int ((p1 &&& (2147483647 : Int32)) % (3 : Int32))), .unset, .unset, .unset] [(.ref b16)])) _
    refine XS.dup X24.here hx rfl (hb hby at_34) rfl rfl ?_
    show Steps p.tables e below (T24.setTop (mkF m 35 #[.val (.int p0), .val (.int p1), .val (.int ((p0 &&& (2147483647 : Int32)) % (3 : Int32))), .val (.int ((p1 &&& (2147483647 : Int32)) % (3 : Int32))), .unset, .unset, .unset] [(.ref b16), (.ref b16)])) _
    refine XS.iconst X24.here hx rfl (hb hby at_35) ?_
    show Steps p.tables e below (T24.setTop (mkF m 36 #[.val (.int p0), .val (.int p1), .val (.int ((p0 &&& (2147483647 : Int32)) % (3 : Int32))), .val (.int ((p1 &&& (2147483647 : Int32)) % (3 : Int32))), .unset, .unset, .unset] [(.int (4 : Int32)), (.ref b16), (.ref b16)])) _
    refine XS.iconst X24.here hx rfl (hb hby at_36) ?_
    show Steps p.tables e below (T24.setTop (mkF m 37 #[.val (.int p0), .val (.int p1), .val (.int ((p0 &&& (2147483647 : Int32)) % (3 : Int32))), .val (.int ((p1 &&& (2147483647 : Int32)) % (3 : Int32))), .unset, .unset, .unset] [(.int (1 : Int32)), (.int (4 : Int32)), (.ref b16), (.ref b16)])) _
    refine st26 _ ?_
    show Steps p.tables e below (T26.setTop (mkF m 38 #[.val (.int p0), .val (.int p1), .val (.int ((p0 &&& (2147483647 : Int32)) % (3 : Int32))), .val (.int ((p1 &&& (2147483647 : Int32)) % (3 : Int32))), .unset, .unset, .unset] [(.ref b16)])) _
    refine XS.dup X26.here hx rfl (hb hby at_38) rfl rfl ?_
    show Steps p.tables e below (T26.setTop (mkF m 39 #[.val (.int p0), .val (.int p1), .val (.int ((p0 &&& (2147483647 : Int32)) % (3 : Int32))), .val (.int ((p1 &&& (2147483647 : Int32)) % (3 : Int32))), .unset, .unset, .unset] [(.ref b16), (.ref b16)])) _
    refine XS.iconst X26.here hx rfl (hb hby at_39) ?_
    show Steps p.tables e below (T26.setTop (mkF m 40 #[.val (.int p0), .val (.int p1), .val (.int ((p0 &&& (2147483647 : Int32)) % (3 : Int32))), .val (.int ((p1 &&& (2147483647 : Int32)) % (3 : Int32))), .unset, .unset, .unset] [(.int (5 : Int32)), (.ref b16), (.ref b16)])) _
    refine XS.iconst X26.here hx rfl (hb hby at_40) ?_
    show Steps p.tables e below (T26.setTop (mkF m 41 #[.val (.int p0), .val (.int p1), .val (.int ((p0 &&& (2147483647 : Int32)) % (3 : Int32))), .val (.int ((p1 &&& (2147483647 : Int32)) % (3 : Int32))), .unset, .unset, .unset] [(.int (0 : Int32)), (.int (5 : Int32)), (.ref b16), (.ref b16)])) _
    refine st28 _ ?_
    show Steps p.tables e below (T28.setTop (mkF m 42 #[.val (.int p0), .val (.int p1), .val (.int ((p0 &&& (2147483647 : Int32)) % (3 : Int32))), .val (.int ((p1 &&& (2147483647 : Int32)) % (3 : Int32))), .unset, .unset, .unset] [(.ref b16)])) _
    refine XS.dup X28.here hx rfl (hb hby at_42) rfl rfl ?_
    show Steps p.tables e below (T28.setTop (mkF m 43 #[.val (.int p0), .val (.int p1), .val (.int ((p0 &&& (2147483647 : Int32)) % (3 : Int32))), .val (.int ((p1 &&& (2147483647 : Int32)) % (3 : Int32))), .unset, .unset, .unset] [(.ref b16), (.ref b16)])) _
    refine XS.bipush X28.here hx rfl (hb hby at_43) ?_
    show Steps p.tables e below (T28.setTop (mkF m 45 #[.val (.int p0), .val (.int p1), .val (.int ((p0 &&& (2147483647 : Int32)) % (3 : Int32))), .val (.int ((p1 &&& (2147483647 : Int32)) % (3 : Int32))), .unset, .unset, .unset] [(.int (6 : Int32)), (.ref b16), (.ref b16)])) _
    refine XS.iconst X28.here hx rfl (hb hby at_45) ?_
    show Steps p.tables e below (T28.setTop (mkF m 46 #[.val (.int p0), .val (.int p1), .val (.int ((p0 &&& (2147483647 : Int32)) % (3 : Int32))), .val (.int ((p1 &&& (2147483647 : Int32)) % (3 : Int32))), .unset, .unset, .unset] [(.int (0 : Int32)), (.int (6 : Int32)), (.ref b16), (.ref b16)])) _
    refine st30 _ ?_
    show Steps p.tables e below (T30.setTop (mkF m 47 #[.val (.int p0), .val (.int p1), .val (.int ((p0 &&& (2147483647 : Int32)) % (3 : Int32))), .val (.int ((p1 &&& (2147483647 : Int32)) % (3 : Int32))), .unset, .unset, .unset] [(.ref b16)])) _
    refine XS.dup X30.here hx rfl (hb hby at_47) rfl rfl ?_
    show Steps p.tables e below (T30.setTop (mkF m 48 #[.val (.int p0), .val (.int p1), .val (.int ((p0 &&& (2147483647 : Int32)) % (3 : Int32))), .val (.int ((p1 &&& (2147483647 : Int32)) % (3 : Int32))), .unset, .unset, .unset] [(.ref b16), (.ref b16)])) _
    refine XS.bipush X30.here hx rfl (hb hby at_48) ?_
    show Steps p.tables e below (T30.setTop (mkF m 50 #[.val (.int p0), .val (.int p1), .val (.int ((p0 &&& (2147483647 : Int32)) % (3 : Int32))), .val (.int ((p1 &&& (2147483647 : Int32)) % (3 : Int32))), .unset, .unset, .unset] [(.int (7 : Int32)), (.ref b16), (.ref b16)])) _
    refine XS.iconst X30.here hx rfl (hb hby at_50) ?_
    show Steps p.tables e below (T30.setTop (mkF m 51 #[.val (.int p0), .val (.int p1), .val (.int ((p0 &&& (2147483647 : Int32)) % (3 : Int32))), .val (.int ((p1 &&& (2147483647 : Int32)) % (3 : Int32))), .unset, .unset, .unset] [(.int (1 : Int32)), (.int (7 : Int32)), (.ref b16), (.ref b16)])) _
    refine st32 _ ?_
    show Steps p.tables e below (T32.setTop (mkF m 52 #[.val (.int p0), .val (.int p1), .val (.int ((p0 &&& (2147483647 : Int32)) % (3 : Int32))), .val (.int ((p1 &&& (2147483647 : Int32)) % (3 : Int32))), .unset, .unset, .unset] [(.ref b16)])) _
    refine XS.dup X32.here hx rfl (hb hby at_52) rfl rfl ?_
    show Steps p.tables e below (T32.setTop (mkF m 53 #[.val (.int p0), .val (.int p1), .val (.int ((p0 &&& (2147483647 : Int32)) % (3 : Int32))), .val (.int ((p1 &&& (2147483647 : Int32)) % (3 : Int32))), .unset, .unset, .unset] [(.ref b16), (.ref b16)])) _
    refine XS.bipush X32.here hx rfl (hb hby at_53) ?_
    show Steps p.tables e below (T32.setTop (mkF m 55 #[.val (.int p0), .val (.int p1), .val (.int ((p0 &&& (2147483647 : Int32)) % (3 : Int32))), .val (.int ((p1 &&& (2147483647 : Int32)) % (3 : Int32))), .unset, .unset, .unset] [(.int (8 : Int32)), (.ref b16), (.ref b16)])) _
    refine XS.iconst X32.here hx rfl (hb hby at_55) ?_
    show Steps p.tables e below (T32.setTop (mkF m 56 #[.val (.int p0), .val (.int p1), .val (.int ((p0 &&& (2147483647 : Int32)) % (3 : Int32))), .val (.int ((p1 &&& (2147483647 : Int32)) % (3 : Int32))), .unset, .unset, .unset] [(.int (1 : Int32)), (.int (8 : Int32)), (.ref b16), (.ref b16)])) _
    refine st34 _ ?_
    show Steps p.tables e below (T34.setTop (mkF m 57 #[.val (.int p0), .val (.int p1), .val (.int ((p0 &&& (2147483647 : Int32)) % (3 : Int32))), .val (.int ((p1 &&& (2147483647 : Int32)) % (3 : Int32))), .unset, .unset, .unset] [(.ref b16)])) _
    refine XS.astore X34.here hx rfl (hb hby at_57) rfl rfl (l' := #[.val (.int p0), .val (.int p1), .val (.int ((p0 &&& (2147483647 : Int32)) % (3 : Int32))), .val (.int ((p1 &&& (2147483647 : Int32)) % (3 : Int32))), .val (.ref b16), .unset, .unset]) rfl ?_
    show Steps p.tables e below (T34.setTop (mkF m 59 #[.val (.int p0), .val (.int p1), .val (.int ((p0 &&& (2147483647 : Int32)) % (3 : Int32))), .val (.int ((p1 &&& (2147483647 : Int32)) % (3 : Int32))), .val (.ref b16), .unset, .unset] [])) _
    refine XS.iloadN X34.here hx rfl (hb hby at_59) rfl ?_
    exact k)
  by_cases hs_37 : ((p0 &&& (2147483647 : Int32)) % (3 : Int32)) = (0 : Int32)
  · have q35 : (F_pick ((p0 &&& (2147483647 : Int32)) % (3 : Int32)) w_BOOL w_INT w_REAL) = w_BOOL := by rw [F_pick, if_pos hs_37]
    rw [q35] at st35
    obtain ⟨_, _, ⟨T38, L38, k38, n38⟩, -, X38, ⟨Lc38, hQ38, l38, y38, z38⟩, st38⟩ := Jvm.LawKit.callS X35 hx (y := (⟨"com/example/ferrule/ferrule/model/TypeAcceptsPinLaw", "pick", "(I)Lcom/example/ferrule/ferrule/model/Type;"⟩ : MethodName)) hown (mvT hZ (hw _ (List.mem_of_getElem? (i := 2) rfl))) (mvT hZ (hw _ (List.mem_of_getElem? (i := 3) rfl))) (mvT hZ (hw _ (List.mem_of_getElem? (i := 4) rfl))) (mvT hZ (hw _ (List.mem_of_getElem? (i := 5) rfl))) (by decide) (backOf (W := 0) (rm_pick l Z a0' hw [] ((p1 &&& (2147483647 : Int32)) % (3 : Int32)) w_BOOL w_INT w_REAL h34 n0 Z34 (S_BOOL.ext EX34) (S_INT.ext EX34) (S_REAL.ext EX34)) hZ (hw _ (List.mem_of_getElem? (i := 5) rfl)) (hw _ (List.mem_of_getElem? (i := 4) rfl)) (by decide) (by decide)) (g := (mkF m 66 #[.val (.int p0), .val (.int p1), .val (.int ((p0 &&& (2147483647 : Int32)) % (3 : Int32))), .val (.int ((p1 &&& (2147483647 : Int32)) % (3 : Int32))), .val (.ref b16), .val (.ref w_BOOL), .unset] [(.int ((p1 &&& (2147483647 : Int32)) % (3 : Int32)))])) rfl (by rw [hml]; rfl) (argsL := [(.int ((p1 &&& (2147483647 : Int32)) % (3 : Int32)))]) (rest := []) (lenOf own_pd0 rfl) rfl (by show 2 * 0 + _ ≤ _; exact Nat.le_of_eq rfl) (hb hby at_66) (fun _ _ => ⟨rfl, e35, (by decide : 1 + 0 ≤ _), (by decide : 9 + 0 ≤ _)⟩)
    dsimp only [Pt.U, Pt.locs, Pt.cells, Pt.slots] at X38 l38 y38 z38 st38 hQ38
    subst l38 y38 z38
    obtain ⟨rfl, N38q, e38⟩ := hQ38
    have N38 := Fr.app N35 N38q
    have pre39 : ∀ t, Steps p.tables e below (T35.setTop (mkF m 66 #[.val (.int p0), .val (.int p1), .val (.int ((p0 &&& (2147483647 : Int32)) % (3 : Int32))), .val (.int ((p1 &&& (2147483647 : Int32)) % (3 : Int32))), .val (.ref b16), .val (.ref w_BOOL), .unset] [(.int ((p1 &&& (2147483647 : Int32)) % (3 : Int32)))])) t → Steps p.tables e below (s₁.setTop (entryFrame m #[(.int p0), (.int p1)] maxLocals)) t := fun t k => pre36 t (by
      show Steps p.tables e below (T34.setTop (mkF m 60 #[.val (.int p0), .val (.int p1), .val (.int ((p0 &&& (2147483647 : Int32)) % (3 : Int32))), .val (.int ((p1 &&& (2147483647 : Int32)) % (3 : Int32))), .val (.ref b16), .unset, .unset] [(.int ((p0 &&& (2147483647 : Int32)) % (3 : Int32)))])) _
      refine st35 _ ?_
      show Steps p.tables e below (T35.setTop (mkF m 63 #[.val (.int p0), .val (.int p1), .val (.int ((p0 &&& (2147483647 : Int32)) % (3 : Int32))), .val (.int ((p1 &&& (2147483647 : Int32)) % (3 : Int32))), .val (.ref b16), .unset, .unset] [(.ref w_BOOL)])) _
      refine XS.astore X35.here hx rfl (hb hby at_63) rfl rfl (l' := #[.val (.int p0), .val (.int p1), .val (.int ((p0 &&& (2147483647 : Int32)) % (3 : Int32))), .val (.int ((p1 &&& (2147483647 : Int32)) % (3 : Int32))), .val (.ref b16), .val (.ref w_BOOL), .unset]) rfl ?_
      show Steps p.tables e below (T35.setTop (mkF m 65 #[.val (.int p0), .val (.int p1), .val (.int ((p0 &&& (2147483647 : Int32)) % (3 : Int32))), .val (.int ((p1 &&& (2147483647 : Int32)) % (3 : Int32))), .val (.ref b16), .val (.ref w_BOOL), .unset] [])) _
      refine XS.iloadN X35.here hx rfl (hb hby at_65) rfl ?_
      exact k)
    by_cases hs_40 : ((p1 &&& (2147483647 : Int32)) % (3 : Int32)) = (0 : Int32)
    · have q38 : (F_pick ((p1 &&& (2147483647 : Int32)) % (3 : Int32)) w_BOOL w_INT w_REAL) = w_BOOL := by rw [F_pick, if_pos hs_40]
      rw [q38] at st38
      obtain ⟨cq41, kq41, q41a, q41b, q41c⟩ := isOf hZ e38 (E_BOOL.ext EX34)
      obtain ⟨_, _, ⟨T41, L41, k41, n41⟩, -, X41, ⟨Lc41, hQ41, l41, y41, z41⟩, st41⟩ := X38.virtualBack hx (y := (⟨"com/example/ferrule/ferrule/model/Type", "accepts", "(Lcom/example/ferrule/ferrule/model/Type;)Z"⟩ : MethodName)) (z := (⟨"com/example/ferrule/ferrule/model/Type", "accepts", "(Lcom/example/ferrule/ferrule/model/Type;)Z"⟩ : MethodName)) hown (mvT hZ (hw _ (List.mem_of_getElem? (i := 9) rfl))) (mvT hZ (hw _ (List.mem_of_getElem? (i := 10) rfl))) (notFace_of_selects (args := #[]) (mvT hZ (hw _ (List.mem_of_getElem? (i := 12) rfl)))) (mvT hZ (hw _ (List.mem_of_getElem? (i := 12) rfl))) (mvT hZ (hw _ (List.mem_of_getElem? (i := 11) rfl))) (by decide) (backOf (W := 0) (rm_acc l Z a0' hw [] w_BOOL w_BOOL w_INT w_REAL h34 n0 Z34 (S_INT.ext EX34) (S_REAL.ext EX34)) hZ (hw _ (List.mem_of_getElem? (i := 13) rfl)) (hw _ (List.mem_of_getElem? (i := 7) rfl)) (by decide) (by decide)) q41a q41c (g := (mkF m 75 #[.val (.int p0), .val (.int p1), .val (.int ((p0 &&& (2147483647 : Int32)) % (3 : Int32))), .val (.int ((p1 &&& (2147483647 : Int32)) % (3 : Int32))), .val (.ref b16), .val (.ref w_BOOL), .val (.ref w_BOOL)] [(.ref w_BOOL), (.ref w_BOOL)])) rfl (by rw [hml]; rfl) (Steps.refl _) (argsL := [(.ref w_BOOL)]) (rest := []) (lenOf own_pd1 rfl) rfl (by show 2 * 0 + _ ≤ _; exact Nat.le_of_eq rfl) (hb hby at_75) (fun _ _ => ⟨rfl, e38, (by decide : 1 + 0 ≤ _), (by decide : 9 + 0 ≤ _)⟩)
      dsimp only [Pt.U, Pt.locs, Pt.cells, Pt.slots] at X41 l41 y41 z41 st41 hQ41
      subst l41 y41 z41
      obtain ⟨rfl, N41q, e41⟩ := hQ41
      have N41 := Fr.app N38 N41q
      have q41 : (F_acc w_BOOL w_BOOL w_INT w_REAL) = (1 : Int32) := by rw [F_acc, if_pos (rfl : w_BOOL = w_BOOL)]
      rw [q41] at st41
      obtain ⟨cl42, Ar42, q42, S42, N42, H42, G42⟩ := V_b16_34
      have hj42 : ((((p0 &&& (2147483647 : Int32)) % (3 : Int32)) * (3 : Int32)) + ((p1 &&& (2147483647 : Int32)) % (3 : Int32))) = (0 : Int32) := by rw [hs_37, hs_40]; rfl
      have hin42 : ¬ (((((p0 &&& (2147483647 : Int32)) % (3 : Int32)) * (3 : Int32)) + ((p1 &&& (2147483647 : Int32)) % (3 : Int32))) < 0 ∨ cl42.slots.size ≤ (((((p0 &&& (2147483647 : Int32)) % (3 : Int32)) * (3 : Int32)) + ((p1 &&& (2147483647 : Int32)) % (3 : Int32)))).toNatClampNeg) := by rw [hj42]; exact inb_of S42 ⟨by decide, by decide⟩
      have hat42 : cl42.slots[(((((p0 &&& (2147483647 : Int32)) % (3 : Int32)) * (3 : Int32)) + ((p1 &&& (2147483647 : Int32)) % (3 : Int32)))).toNatClampNeg]? = some (.int (1 : Int32)) := by rw [hj42]; exact H42 0 (by rw [S42]; decide)
      obtain ⟨fs, hr, hrun, hended, hW, hsame⟩ := X41.leave (v := some (.int (1 : Int32))) (fun h => by rw [Bd.returns] at h; cases h)
      refine ⟨_, _, pre39 _ ?_, hrun, hended, _, _, rfl, ?_, ⟨_, rfl⟩, hW, hsame.mono (by decide) (by decide)⟩
      · show Steps p.tables e below (T35.setTop (mkF m 66 #[.val (.int p0), .val (.int p1), .val (.int ((p0 &&& (2147483647 : Int32)) % (3 : Int32))), .val (.int ((p1 &&& (2147483647 : Int32)) % (3 : Int32))), .val (.ref b16), .val (.ref w_BOOL), .unset] [(.int ((p1 &&& (2147483647 : Int32)) % (3 : Int32)))])) _
        refine st38 _ ?_
        show Steps p.tables e below (T38.setTop (mkF m 69 #[.val (.int p0), .val (.int p1), .val (.int ((p0 &&& (2147483647 : Int32)) % (3 : Int32))), .val (.int ((p1 &&& (2147483647 : Int32)) % (3 : Int32))), .val (.ref b16), .val (.ref w_BOOL), .unset] [(.ref w_BOOL)])) _
        refine XS.astore X38.here hx rfl (hb hby at_69) rfl rfl (l' := #[.val (.int p0), .val (.int p1), .val (.int ((p0 &&& (2147483647 : Int32)) % (3 : Int32))), .val (.int ((p1 &&& (2147483647 : Int32)) % (3 : Int32))), .val (.ref b16), .val (.ref w_BOOL), .val (.ref w_BOOL)]) rfl ?_
        show Steps p.tables e below (T38.setTop (mkF m 71 #[.val (.int p0), .val (.int p1), .val (.int ((p0 &&& (2147483647 : Int32)) % (3 : Int32))), .val (.int ((p1 &&& (2147483647 : Int32)) % (3 : Int32))), .val (.ref b16), .val (.ref w_BOOL), .val (.ref w_BOOL)] [])) _
        refine XS.aload X38.here hx rfl (hb hby at_71) rfl rfl ?_
        show Steps p.tables e below (T38.setTop (mkF m 73 #[.val (.int p0), .val (.int p1), .val (.int ((p0 &&& (2147483647 : Int32)) % (3 : Int32))), .val (.int ((p1 &&& (2147483647 : Int32)) % (3 : Int32))), .val (.ref b16), .val (.ref w_BOOL), .val (.ref w_BOOL)] [(.ref w_BOOL)])) _
        refine XS.aload X38.here hx rfl (hb hby at_73) rfl rfl ?_
        show Steps p.tables e below (T38.setTop (mkF m 75 #[.val (.int p0), .val (.int p1), .val (.int ((p0 &&& (2147483647 : Int32)) % (3 : Int32))), .val (.int ((p1 &&& (2147483647 : Int32)) % (3 : Int32))), .val (.ref b16), .val (.ref w_BOOL), .val (.ref w_BOOL)] [(.ref w_BOOL), (.ref w_BOOL)])) _
        refine st41.trans ?_
        show Steps p.tables e below (T41.setTop (mkF m 78 #[.val (.int p0), .val (.int p1), .val (.int ((p0 &&& (2147483647 : Int32)) % (3 : Int32))), .val (.int ((p1 &&& (2147483647 : Int32)) % (3 : Int32))), .val (.ref b16), .val (.ref w_BOOL), .val (.ref w_BOOL)] [(.int (1 : Int32))])) _
        refine XS.aload X41.here hx rfl (hb hby at_78) rfl rfl ?_
        show Steps p.tables e below (T41.setTop (mkF m 80 #[.val (.int p0), .val (.int p1), .val (.int ((p0 &&& (2147483647 : Int32)) % (3 : Int32))), .val (.int ((p1 &&& (2147483647 : Int32)) % (3 : Int32))), .val (.ref b16), .val (.ref w_BOOL), .val (.ref w_BOOL)] [(.ref b16), (.int (1 : Int32))])) _
        refine XS.iloadN X41.here hx rfl (hb hby at_80) rfl ?_
        show Steps p.tables e below (T41.setTop (mkF m 81 #[.val (.int p0), .val (.int p1), .val (.int ((p0 &&& (2147483647 : Int32)) % (3 : Int32))), .val (.int ((p1 &&& (2147483647 : Int32)) % (3 : Int32))), .val (.ref b16), .val (.ref w_BOOL), .val (.ref w_BOOL)] [(.int ((p0 &&& (2147483647 : Int32)) % (3 : Int32))), (.ref b16), (.int (1 : Int32))])) _
        refine XS.iconst X41.here hx rfl (hb hby at_81) ?_
        show Steps p.tables e below (T41.setTop (mkF m 82 #[.val (.int p0), .val (.int p1), .val (.int ((p0 &&& (2147483647 : Int32)) % (3 : Int32))), .val (.int ((p1 &&& (2147483647 : Int32)) % (3 : Int32))), .val (.ref b16), .val (.ref w_BOOL), .val (.ref w_BOOL)] [(.int (3 : Int32)), (.int ((p0 &&& (2147483647 : Int32)) % (3 : Int32))), (.ref b16), (.int (1 : Int32))])) _
        refine XS.imul X41.here hx rfl (hb hby at_82) rfl ?_
        show Steps p.tables e below (T41.setTop (mkF m 83 #[.val (.int p0), .val (.int p1), .val (.int ((p0 &&& (2147483647 : Int32)) % (3 : Int32))), .val (.int ((p1 &&& (2147483647 : Int32)) % (3 : Int32))), .val (.ref b16), .val (.ref w_BOOL), .val (.ref w_BOOL)] [(.int (((p0 &&& (2147483647 : Int32)) % (3 : Int32)) * (3 : Int32))), (.ref b16), (.int (1 : Int32))])) _
        refine XS.iloadN X41.here hx rfl (hb hby at_83) rfl ?_
        show Steps p.tables e below (T41.setTop (mkF m 84 #[.val (.int p0), .val (.int p1), .val (.int ((p0 &&& (2147483647 : Int32)) % (3 : Int32))), .val (.int ((p1 &&& (2147483647 : Int32)) % (3 : Int32))), .val (.ref b16), .val (.ref w_BOOL), .val (.ref w_BOOL)] [(.int ((p1 &&& (2147483647 : Int32)) % (3 : Int32))), (.int (((p0 &&& (2147483647 : Int32)) % (3 : Int32)) * (3 : Int32))), (.ref b16), (.int (1 : Int32))])) _
        refine XS.iadd X41.here hx rfl (hb hby at_84) rfl ?_
        show Steps p.tables e below (T41.setTop (mkF m 85 #[.val (.int p0), .val (.int p1), .val (.int ((p0 &&& (2147483647 : Int32)) % (3 : Int32))), .val (.int ((p1 &&& (2147483647 : Int32)) % (3 : Int32))), .val (.ref b16), .val (.ref w_BOOL), .val (.ref w_BOOL)] [(.int ((((p0 &&& (2147483647 : Int32)) % (3 : Int32)) * (3 : Int32)) + ((p1 &&& (2147483647 : Int32)) % (3 : Int32)))), (.ref b16), (.int (1 : Int32))])) _
        refine X41.baloadBooleans hx (j := ((((p0 &&& (2147483647 : Int32)) % (3 : Int32)) * (3 : Int32)) + ((p1 &&& (2147483647 : Int32)) % (3 : Int32)))) (v := (.int (1 : Int32))) (by rw [e41]; exact Ar42.1) (State.isArrayOf_alike hZ.alike Ar42.2.1) Ar42.2.2 hin42 hat42 (g := (mkF m 85 #[.val (.int p0), .val (.int p1), .val (.int ((p0 &&& (2147483647 : Int32)) % (3 : Int32))), .val (.int ((p1 &&& (2147483647 : Int32)) % (3 : Int32))), .val (.ref b16), .val (.ref w_BOOL), .val (.ref w_BOOL)] [(.int ((((p0 &&& (2147483647 : Int32)) % (3 : Int32)) * (3 : Int32)) + ((p1 &&& (2147483647 : Int32)) % (3 : Int32)))), (.ref b16), (.int (1 : Int32))])) rfl rfl (hb hby at_85) _ ?_
        show Steps p.tables e below (T41.setTop (mkF m 86 #[.val (.int p0), .val (.int p1), .val (.int ((p0 &&& (2147483647 : Int32)) % (3 : Int32))), .val (.int ((p1 &&& (2147483647 : Int32)) % (3 : Int32))), .val (.ref b16), .val (.ref w_BOOL), .val (.ref w_BOOL)] [(.int (1 : Int32)), (.int (1 : Int32))])) _
        refine XS.icmpNo X41.here hx rfl (hb hby at_86) rfl (teq (by decide : (1 : Int32) = (1 : Int32))).2 ?_
        show Steps p.tables e below (T41.setTop (mkF m 89 #[.val (.int p0), .val (.int p1), .val (.int ((p0 &&& (2147483647 : Int32)) % (3 : Int32))), .val (.int ((p1 &&& (2147483647 : Int32)) % (3 : Int32))), .val (.ref b16), .val (.ref w_BOOL), .val (.ref w_BOOL)] [])) _
        refine XS.iconst X41.here hx rfl (hb hby at_89) ?_
        show Steps p.tables e below (T41.setTop (mkF m 90 #[.val (.int p0), .val (.int p1), .val (.int ((p0 &&& (2147483647 : Int32)) % (3 : Int32))), .val (.int ((p1 &&& (2147483647 : Int32)) % (3 : Int32))), .val (.ref b16), .val (.ref w_BOOL), .val (.ref w_BOOL)] [(.int (1 : Int32))])) _
        refine XS.goto X41.here hx rfl (pc0 := 90) (pc' := 94) rfl (hb hby at_90) (by decide) (by decide) ?_
        show Steps p.tables e below (T41.setTop (mkF m 94 #[.val (.int p0), .val (.int p1), .val (.int ((p0 &&& (2147483647 : Int32)) % (3 : Int32))), .val (.int ((p1 &&& (2147483647 : Int32)) % (3 : Int32))), .val (.ref b16), .val (.ref w_BOOL), .val (.ref w_BOOL)] [(.int (1 : Int32))])) _
        exact retN X41 hx (t := .boolean) Bd.returns (by simp) (hb hby at_94) hr
      · show Q_law Z p0 p1 w_BOOL w_INT w_REAL h0 n0 _ T41.heap _
        refine ⟨?_, N41, trivial⟩
        rw [F_law, if_pos hs_37, if_pos hs_40]
    · by_cases hs_43 : ((p1 &&& (2147483647 : Int32)) % (3 : Int32)) = (1 : Int32)
      · have q38 : (F_pick ((p1 &&& (2147483647 : Int32)) % (3 : Int32)) w_BOOL w_INT w_REAL) = w_INT := by rw [F_pick, if_neg hs_40, if_pos hs_43]
        rw [q38] at st38
        obtain ⟨cq44, kq44, q44a, q44b, q44c⟩ := isOf hZ e38 (E_BOOL.ext EX34)
        obtain ⟨_, _, ⟨T44, L44, k44, n44⟩, -, X44, ⟨Lc44, hQ44, l44, y44, z44⟩, st44⟩ := X38.virtualBack hx (y := (⟨"com/example/ferrule/ferrule/model/Type", "accepts", "(Lcom/example/ferrule/ferrule/model/Type;)Z"⟩ : MethodName)) (z := (⟨"com/example/ferrule/ferrule/model/Type", "accepts", "(Lcom/example/ferrule/ferrule/model/Type;)Z"⟩ : MethodName)) hown (mvT hZ (hw _ (List.mem_of_getElem? (i := 9) rfl))) (mvT hZ (hw _ (List.mem_of_getElem? (i := 10) rfl))) (notFace_of_selects (args := #[]) (mvT hZ (hw _ (List.mem_of_getElem? (i := 12) rfl)))) (mvT hZ (hw _ (List.mem_of_getElem? (i := 12) rfl))) (mvT hZ (hw _ (List.mem_of_getElem? (i := 11) rfl))) (by decide) (backOf (W := 0) (rm_acc l Z a0' hw [] w_BOOL w_INT w_INT w_REAL h34 n0 Z34 (S_INT.ext EX34) (S_REAL.ext EX34)) hZ (hw _ (List.mem_of_getElem? (i := 13) rfl)) (hw _ (List.mem_of_getElem? (i := 7) rfl)) (by decide) (by decide)) q44a q44c (g := (mkF m 75 #[.val (.int p0), .val (.int p1), .val (.int ((p0 &&& (2147483647 : Int32)) % (3 : Int32))), .val (.int ((p1 &&& (2147483647 : Int32)) % (3 : Int32))), .val (.ref b16), .val (.ref w_BOOL), .val (.ref w_INT)] [(.ref w_INT), (.ref w_BOOL)])) rfl (by rw [hml]; rfl) (Steps.refl _) (argsL := [(.ref w_INT)]) (rest := []) (lenOf own_pd1 rfl) rfl (by show 2 * 0 + _ ≤ _; exact Nat.le_of_eq rfl) (hb hby at_75) (fun _ _ => ⟨rfl, e38, (by decide : 1 + 0 ≤ _), (by decide : 9 + 0 ≤ _)⟩)
        dsimp only [Pt.U, Pt.locs, Pt.cells, Pt.slots] at X44 l44 y44 z44 st44 hQ44
        subst l44 y44 z44
        obtain ⟨rfl, N44q, e44⟩ := hQ44
        have N44 := Fr.app N38 N44q
        have q44 : (F_acc w_BOOL w_INT w_INT w_REAL) = (0 : Int32) := by rw [F_acc, if_neg ne_INT_BOOL, if_neg ne_BOOL_REAL]
        rw [q44] at st44
        obtain ⟨cl45, Ar45, q45, S45, N45, H45, G45⟩ := V_b16_34
        have hj45 : ((((p0 &&& (2147483647 : Int32)) % (3 : Int32)) * (3 : Int32)) + ((p1 &&& (2147483647 : Int32)) % (3 : Int32))) = (1 : Int32) := by rw [hs_37, hs_43]; rfl
        have hin45 : ¬ (((((p0 &&& (2147483647 : Int32)) % (3 : Int32)) * (3 : Int32)) + ((p1 &&& (2147483647 : Int32)) % (3 : Int32))) < 0 ∨ cl45.slots.size ≤ (((((p0 &&& (2147483647 : Int32)) % (3 : Int32)) * (3 : Int32)) + ((p1 &&& (2147483647 : Int32)) % (3 : Int32)))).toNatClampNeg) := by rw [hj45]; exact inb_of S45 ⟨by decide, by decide⟩
        have hat45 : cl45.slots[(((((p0 &&& (2147483647 : Int32)) % (3 : Int32)) * (3 : Int32)) + ((p1 &&& (2147483647 : Int32)) % (3 : Int32)))).toNatClampNeg]? = some (.int (0 : Int32)) := by rw [hj45]; exact H45 1 (by rw [S45]; decide)
        obtain ⟨fs, hr, hrun, hended, hW, hsame⟩ := X44.leave (v := some (.int (1 : Int32))) (fun h => by rw [Bd.returns] at h; cases h)
        refine ⟨_, _, pre39 _ ?_, hrun, hended, _, _, rfl, ?_, ⟨_, rfl⟩, hW, hsame.mono (by decide) (by decide)⟩
        · show Steps p.tables e below (T35.setTop (mkF m 66 #[.val (.int p0), .val (.int p1), .val (.int ((p0 &&& (2147483647 : Int32)) % (3 : Int32))), .val (.int ((p1 &&& (2147483647 : Int32)) % (3 : Int32))), .val (.ref b16), .val (.ref w_BOOL), .unset] [(.int ((p1 &&& (2147483647 : Int32)) % (3 : Int32)))])) _
          refine st38 _ ?_
          show Steps p.tables e below (T38.setTop (mkF m 69 #[.val (.int p0), .val (.int p1), .val (.int ((p0 &&& (2147483647 : Int32)) % (3 : Int32))), .val (.int ((p1 &&& (2147483647 : Int32)) % (3 : Int32))), .val (.ref b16), .val (.ref w_BOOL), .unset] [(.ref w_INT)])) _
          refine XS.astore X38.here hx rfl (hb hby at_69) rfl rfl (l' := #[.val (.int p0), .val (.int p1), .val (.int ((p0 &&& (2147483647 : Int32)) % (3 : Int32))), .val (.int ((p1 &&& (2147483647 : Int32)) % (3 : Int32))), .val (.ref b16), .val (.ref w_BOOL), .val (.ref w_INT)]) rfl ?_
          show Steps p.tables e below (T38.setTop (mkF m 71 #[.val (.int p0), .val (.int p1), .val (.int ((p0 &&& (2147483647 : Int32)) % (3 : Int32))), .val (.int ((p1 &&& (2147483647 : Int32)) % (3 : Int32))), .val (.ref b16), .val (.ref w_BOOL), .val (.ref w_INT)] [])) _
          refine XS.aload X38.here hx rfl (hb hby at_71) rfl rfl ?_
          show Steps p.tables e below (T38.setTop (mkF m 73 #[.val (.int p0), .val (.int p1), .val (.int ((p0 &&& (2147483647 : Int32)) % (3 : Int32))), .val (.int ((p1 &&& (2147483647 : Int32)) % (3 : Int32))), .val (.ref b16), .val (.ref w_BOOL), .val (.ref w_INT)] [(.ref w_BOOL)])) _
          refine XS.aload X38.here hx rfl (hb hby at_73) rfl rfl ?_
          show Steps p.tables e below (T38.setTop (mkF m 75 #[.val (.int p0), .val (.int p1), .val (.int ((p0 &&& (2147483647 : Int32)) % (3 : Int32))), .val (.int ((p1 &&& (2147483647 : Int32)) % (3 : Int32))), .val (.ref b16), .val (.ref w_BOOL), .val (.ref w_INT)] [(.ref w_INT), (.ref w_BOOL)])) _
          refine st44.trans ?_
          show Steps p.tables e below (T44.setTop (mkF m 78 #[.val (.int p0), .val (.int p1), .val (.int ((p0 &&& (2147483647 : Int32)) % (3 : Int32))), .val (.int ((p1 &&& (2147483647 : Int32)) % (3 : Int32))), .val (.ref b16), .val (.ref w_BOOL), .val (.ref w_INT)] [(.int (0 : Int32))])) _
          refine XS.aload X44.here hx rfl (hb hby at_78) rfl rfl ?_
          show Steps p.tables e below (T44.setTop (mkF m 80 #[.val (.int p0), .val (.int p1), .val (.int ((p0 &&& (2147483647 : Int32)) % (3 : Int32))), .val (.int ((p1 &&& (2147483647 : Int32)) % (3 : Int32))), .val (.ref b16), .val (.ref w_BOOL), .val (.ref w_INT)] [(.ref b16), (.int (0 : Int32))])) _
          refine XS.iloadN X44.here hx rfl (hb hby at_80) rfl ?_
          show Steps p.tables e below (T44.setTop (mkF m 81 #[.val (.int p0), .val (.int p1), .val (.int ((p0 &&& (2147483647 : Int32)) % (3 : Int32))), .val (.int ((p1 &&& (2147483647 : Int32)) % (3 : Int32))), .val (.ref b16), .val (.ref w_BOOL), .val (.ref w_INT)] [(.int ((p0 &&& (2147483647 : Int32)) % (3 : Int32))), (.ref b16), (.int (0 : Int32))])) _
          refine XS.iconst X44.here hx rfl (hb hby at_81) ?_
          show Steps p.tables e below (T44.setTop (mkF m 82 #[.val (.int p0), .val (.int p1), .val (.int ((p0 &&& (2147483647 : Int32)) % (3 : Int32))), .val (.int ((p1 &&& (2147483647 : Int32)) % (3 : Int32))), .val (.ref b16), .val (.ref w_BOOL), .val (.ref w_INT)] [(.int (3 : Int32)), (.int ((p0 &&& (2147483647 : Int32)) % (3 : Int32))), (.ref b16), (.int (0 : Int32))])) _
          refine XS.imul X44.here hx rfl (hb hby at_82) rfl ?_
          show Steps p.tables e below (T44.setTop (mkF m 83 #[.val (.int p0), .val (.int p1), .val (.int ((p0 &&& (2147483647 : Int32)) % (3 : Int32))), .val (.int ((p1 &&& (2147483647 : Int32)) % (3 : Int32))), .val (.ref b16), .val (.ref w_BOOL), .val (.ref w_INT)] [(.int (((p0 &&& (2147483647 : Int32)) % (3 : Int32)) * (3 : Int32))), (.ref b16), (.int (0 : Int32))])) _
          refine XS.iloadN X44.here hx rfl (hb hby at_83) rfl ?_
          show Steps p.tables e below (T44.setTop (mkF m 84 #[.val (.int p0), .val (.int p1), .val (.int ((p0 &&& (2147483647 : Int32)) % (3 : Int32))), .val (.int ((p1 &&& (2147483647 : Int32)) % (3 : Int32))), .val (.ref b16), .val (.ref w_BOOL), .val (.ref w_INT)] [(.int ((p1 &&& (2147483647 : Int32)) % (3 : Int32))), (.int (((p0 &&& (2147483647 : Int32)) % (3 : Int32)) * (3 : Int32))), (.ref b16), (.int (0 : Int32))])) _
          refine XS.iadd X44.here hx rfl (hb hby at_84) rfl ?_
          show Steps p.tables e below (T44.setTop (mkF m 85 #[.val (.int p0), .val (.int p1), .val (.int ((p0 &&& (2147483647 : Int32)) % (3 : Int32))), .val (.int ((p1 &&& (2147483647 : Int32)) % (3 : Int32))), .val (.ref b16), .val (.ref w_BOOL), .val (.ref w_INT)] [(.int ((((p0 &&& (2147483647 : Int32)) % (3 : Int32)) * (3 : Int32)) + ((p1 &&& (2147483647 : Int32)) % (3 : Int32)))), (.ref b16), (.int (0 : Int32))])) _
          refine X44.baloadBooleans hx (j := ((((p0 &&& (2147483647 : Int32)) % (3 : Int32)) * (3 : Int32)) + ((p1 &&& (2147483647 : Int32)) % (3 : Int32)))) (v := (.int (0 : Int32))) (by rw [e44]; exact Ar45.1) (State.isArrayOf_alike hZ.alike Ar45.2.1) Ar45.2.2 hin45 hat45 (g := (mkF m 85 #[.val (.int p0), .val (.int p1), .val (.int ((p0 &&& (2147483647 : Int32)) % (3 : Int32))), .val (.int ((p1 &&& (2147483647 : Int32)) % (3 : Int32))), .val (.ref b16), .val (.ref w_BOOL), .val (.ref w_INT)] [(.int ((((p0 &&& (2147483647 : Int32)) % (3 : Int32)) * (3 : Int32)) + ((p1 &&& (2147483647 : Int32)) % (3 : Int32)))), (.ref b16), (.int (0 : Int32))])) rfl rfl (hb hby at_85) _ ?_
          show Steps p.tables e below (T44.setTop (mkF m 86 #[.val (.int p0), .val (.int p1), .val (.int ((p0 &&& (2147483647 : Int32)) % (3 : Int32))), .val (.int ((p1 &&& (2147483647 : Int32)) % (3 : Int32))), .val (.ref b16), .val (.ref w_BOOL), .val (.ref w_INT)] [(.int (0 : Int32)), (.int (0 : Int32))])) _
          refine XS.icmpNo X44.here hx rfl (hb hby at_86) rfl (teq (by decide : (0 : Int32) = (0 : Int32))).2 ?_
          show Steps p.tables e below (T44.setTop (mkF m 89 #[.val (.int p0), .val (.int p1), .val (.int ((p0 &&& (2147483647 : Int32)) % (3 : Int32))), .val (.int ((p1 &&& (2147483647 : Int32)) % (3 : Int32))), .val (.ref b16), .val (.ref w_BOOL), .val (.ref w_INT)] [])) _
          refine XS.iconst X44.here hx rfl (hb hby at_89) ?_
          show Steps p.tables e below (T44.setTop (mkF m 90 #[.val (.int p0), .val (.int p1), .val (.int ((p0 &&& (2147483647 : Int32)) % (3 : Int32))), .val (.int ((p1 &&& (2147483647 : Int32)) % (3 : Int32))), .val (.ref b16), .val (.ref w_BOOL), .val (.ref w_INT)] [(.int (1 : Int32))])) _
          refine XS.goto X44.here hx rfl (pc0 := 90) (pc' := 94) rfl (hb hby at_90) (by decide) (by decide) ?_
          show Steps p.tables e below (T44.setTop (mkF m 94 #[.val (.int p0), .val (.int p1), .val (.int ((p0 &&& (2147483647 : Int32)) % (3 : Int32))), .val (.int ((p1 &&& (2147483647 : Int32)) % (3 : Int32))), .val (.ref b16), .val (.ref w_BOOL), .val (.ref w_INT)] [(.int (1 : Int32))])) _
          exact retN X44 hx (t := .boolean) Bd.returns (by simp) (hb hby at_94) hr
        · show Q_law Z p0 p1 w_BOOL w_INT w_REAL h0 n0 _ T44.heap _
          refine ⟨?_, N44, trivial⟩
          rw [F_law, if_pos hs_37, if_neg hs_40, if_pos hs_43]
      · have q38 : (F_pick ((p1 &&& (2147483647 : Int32)) % (3 : Int32)) w_BOOL w_INT w_REAL) = w_REAL := by rw [F_pick, if_neg hs_40, if_neg hs_43]
        rw [q38] at st38
        have hx46 : ((p1 &&& (2147483647 : Int32)) % (3 : Int32)) = (2 : Int32) := by rcases own_idx p1 with q | q | q <;> first | exact absurd q hs_40 | exact absurd q hs_43 | exact q
        obtain ⟨cq47, kq47, q47a, q47b, q47c⟩ := isOf hZ e38 (E_BOOL.ext EX34)
        obtain ⟨_, _, ⟨T47, L47, k47, n47⟩, -, X47, ⟨Lc47, hQ47, l47, y47, z47⟩, st47⟩ := X38.virtualBack hx (y := (⟨"com/example/ferrule/ferrule/model/Type", "accepts", "(Lcom/example/ferrule/ferrule/model/Type;)Z"⟩ : MethodName)) (z := (⟨"com/example/ferrule/ferrule/model/Type", "accepts", "(Lcom/example/ferrule/ferrule/model/Type;)Z"⟩ : MethodName)) hown (mvT hZ (hw _ (List.mem_of_getElem? (i := 9) rfl))) (mvT hZ (hw _ (List.mem_of_getElem? (i := 10) rfl))) (notFace_of_selects (args := #[]) (mvT hZ (hw _ (List.mem_of_getElem? (i := 12) rfl)))) (mvT hZ (hw _ (List.mem_of_getElem? (i := 12) rfl))) (mvT hZ (hw _ (List.mem_of_getElem? (i := 11) rfl))) (by decide) (backOf (W := 0) (rm_acc l Z a0' hw [] w_BOOL w_REAL w_INT w_REAL h34 n0 Z34 (S_INT.ext EX34) (S_REAL.ext EX34)) hZ (hw _ (List.mem_of_getElem? (i := 13) rfl)) (hw _ (List.mem_of_getElem? (i := 7) rfl)) (by decide) (by decide)) q47a q47c (g := (mkF m 75 #[.val (.int p0), .val (.int p1), .val (.int ((p0 &&& (2147483647 : Int32)) % (3 : Int32))), .val (.int ((p1 &&& (2147483647 : Int32)) % (3 : Int32))), .val (.ref b16), .val (.ref w_BOOL), .val (.ref w_REAL)] [(.ref w_REAL), (.ref w_BOOL)])) rfl (by rw [hml]; rfl) (Steps.refl _) (argsL := [(.ref w_REAL)]) (rest := []) (lenOf own_pd1 rfl) rfl (by show 2 * 0 + _ ≤ _; exact Nat.le_of_eq rfl) (hb hby at_75) (fun _ _ => ⟨rfl, e38, (by decide : 1 + 0 ≤ _), (by decide : 9 + 0 ≤ _)⟩)
        dsimp only [Pt.U, Pt.locs, Pt.cells, Pt.slots] at X47 l47 y47 z47 st47 hQ47
        subst l47 y47 z47
        obtain ⟨rfl, N47q, e47⟩ := hQ47
        have N47 := Fr.app N38 N47q
        have q47 : (F_acc w_BOOL w_REAL w_INT w_REAL) = (0 : Int32) := by rw [F_acc, if_neg ne_REAL_BOOL, if_neg ne_BOOL_REAL]
        rw [q47] at st47
        obtain ⟨cl48, Ar48, q48, S48, N48, H48, G48⟩ := V_b16_34
        have hj48 : ((((p0 &&& (2147483647 : Int32)) % (3 : Int32)) * (3 : Int32)) + ((p1 &&& (2147483647 : Int32)) % (3 : Int32))) = (2 : Int32) := by rw [hs_37, hx46]; rfl
        have hin48 : ¬ (((((p0 &&& (2147483647 : Int32)) % (3 : Int32)) * (3 : Int32)) + ((p1 &&& (2147483647 : Int32)) % (3 : Int32))) < 0 ∨ cl48.slots.size ≤ (((((p0 &&& (2147483647 : Int32)) % (3 : Int32)) * (3 : Int32)) + ((p1 &&& (2147483647 : Int32)) % (3 : Int32)))).toNatClampNeg) := by rw [hj48]; exact inb_of S48 ⟨by decide, by decide⟩
        have hat48 : cl48.slots[(((((p0 &&& (2147483647 : Int32)) % (3 : Int32)) * (3 : Int32)) + ((p1 &&& (2147483647 : Int32)) % (3 : Int32)))).toNatClampNeg]? = some (.int (0 : Int32)) := by rw [hj48]; exact H48 2 (by rw [S48]; decide)
        obtain ⟨fs, hr, hrun, hended, hW, hsame⟩ := X47.leave (v := some (.int (1 : Int32))) (fun h => by rw [Bd.returns] at h; cases h)
        refine ⟨_, _, pre39 _ ?_, hrun, hended, _, _, rfl, ?_, ⟨_, rfl⟩, hW, hsame.mono (by decide) (by decide)⟩
        · show Steps p.tables e below (T35.setTop (mkF m 66 #[.val (.int p0), .val (.int p1), .val (.int ((p0 &&& (2147483647 : Int32)) % (3 : Int32))), .val (.int ((p1 &&& (2147483647 : Int32)) % (3 : Int32))), .val (.ref b16), .val (.ref w_BOOL), .unset] [(.int ((p1 &&& (2147483647 : Int32)) % (3 : Int32)))])) _
          refine st38 _ ?_
          show Steps p.tables e below (T38.setTop (mkF m 69 #[.val (.int p0), .val (.int p1), .val (.int ((p0 &&& (2147483647 : Int32)) % (3 : Int32))), .val (.int ((p1 &&& (2147483647 : Int32)) % (3 : Int32))), .val (.ref b16), .val (.ref w_BOOL), .unset] [(.ref w_REAL)])) _
          refine XS.astore X38.here hx rfl (hb hby at_69) rfl rfl (l' := #[.val (.int p0), .val (.int p1), .val (.int ((p0 &&& (2147483647 : Int32)) % (3 : Int32))), .val (.int ((p1 &&& (2147483647 : Int32)) % (3 : Int32))), .val (.ref b16), .val (.ref w_BOOL), .val (.ref w_REAL)]) rfl ?_
          show Steps p.tables e below (T38.setTop (mkF m 71 #[.val (.int p0), .val (.int p1), .val (.int ((p0 &&& (2147483647 : Int32)) % (3 : Int32))), .val (.int ((p1 &&& (2147483647 : Int32)) % (3 : Int32))), .val (.ref b16), .val (.ref w_BOOL), .val (.ref w_REAL)] [])) _
          refine XS.aload X38.here hx rfl (hb hby at_71) rfl rfl ?_
          show Steps p.tables e below (T38.setTop (mkF m 73 #[.val (.int p0), .val (.int p1), .val (.int ((p0 &&& (2147483647 : Int32)) % (3 : Int32))), .val (.int ((p1 &&& (2147483647 : Int32)) % (3 : Int32))), .val (.ref b16), .val (.ref w_BOOL), .val (.ref w_REAL)] [(.ref w_BOOL)])) _
          refine XS.aload X38.here hx rfl (hb hby at_73) rfl rfl ?_
          show Steps p.tables e below (T38.setTop (mkF m 75 #[.val (.int p0), .val (.int p1), .val (.int ((p0 &&& (2147483647 : Int32)) % (3 : Int32))), .val (.int ((p1 &&& (2147483647 : Int32)) % (3 : Int32))), .val (.ref b16), .val (.ref w_BOOL), .val (.ref w_REAL)] [(.ref w_REAL), (.ref w_BOOL)])) _
          refine st47.trans ?_
          show Steps p.tables e below (T47.setTop (mkF m 78 #[.val (.int p0), .val (.int p1), .val (.int ((p0 &&& (2147483647 : Int32)) % (3 : Int32))), .val (.int ((p1 &&& (2147483647 : Int32)) % (3 : Int32))), .val (.ref b16), .val (.ref w_BOOL), .val (.ref w_REAL)] [(.int (0 : Int32))])) _
          refine XS.aload X47.here hx rfl (hb hby at_78) rfl rfl ?_
          show Steps p.tables e below (T47.setTop (mkF m 80 #[.val (.int p0), .val (.int p1), .val (.int ((p0 &&& (2147483647 : Int32)) % (3 : Int32))), .val (.int ((p1 &&& (2147483647 : Int32)) % (3 : Int32))), .val (.ref b16), .val (.ref w_BOOL), .val (.ref w_REAL)] [(.ref b16), (.int (0 : Int32))])) _
          refine XS.iloadN X47.here hx rfl (hb hby at_80) rfl ?_
          show Steps p.tables e below (T47.setTop (mkF m 81 #[.val (.int p0), .val (.int p1), .val (.int ((p0 &&& (2147483647 : Int32)) % (3 : Int32))), .val (.int ((p1 &&& (2147483647 : Int32)) % (3 : Int32))), .val (.ref b16), .val (.ref w_BOOL), .val (.ref w_REAL)] [(.int ((p0 &&& (2147483647 : Int32)) % (3 : Int32))), (.ref b16), (.int (0 : Int32))])) _
          refine XS.iconst X47.here hx rfl (hb hby at_81) ?_
          show Steps p.tables e below (T47.setTop (mkF m 82 #[.val (.int p0), .val (.int p1), .val (.int ((p0 &&& (2147483647 : Int32)) % (3 : Int32))), .val (.int ((p1 &&& (2147483647 : Int32)) % (3 : Int32))), .val (.ref b16), .val (.ref w_BOOL), .val (.ref w_REAL)] [(.int (3 : Int32)), (.int ((p0 &&& (2147483647 : Int32)) % (3 : Int32))), (.ref b16), (.int (0 : Int32))])) _
          refine XS.imul X47.here hx rfl (hb hby at_82) rfl ?_
          show Steps p.tables e below (T47.setTop (mkF m 83 #[.val (.int p0), .val (.int p1), .val (.int ((p0 &&& (2147483647 : Int32)) % (3 : Int32))), .val (.int ((p1 &&& (2147483647 : Int32)) % (3 : Int32))), .val (.ref b16), .val (.ref w_BOOL), .val (.ref w_REAL)] [(.int (((p0 &&& (2147483647 : Int32)) % (3 : Int32)) * (3 : Int32))), (.ref b16), (.int (0 : Int32))])) _
          refine XS.iloadN X47.here hx rfl (hb hby at_83) rfl ?_
          show Steps p.tables e below (T47.setTop (mkF m 84 #[.val (.int p0), .val (.int p1), .val (.int ((p0 &&& (2147483647 : Int32)) % (3 : Int32))), .val (.int ((p1 &&& (2147483647 : Int32)) % (3 : Int32))), .val (.ref b16), .val (.ref w_BOOL), .val (.ref w_REAL)] [(.int ((p1 &&& (2147483647 : Int32)) % (3 : Int32))), (.int (((p0 &&& (2147483647 : Int32)) % (3 : Int32)) * (3 : Int32))), (.ref b16), (.int (0 : Int32))])) _
          refine XS.iadd X47.here hx rfl (hb hby at_84) rfl ?_
          show Steps p.tables e below (T47.setTop (mkF m 85 #[.val (.int p0), .val (.int p1), .val (.int ((p0 &&& (2147483647 : Int32)) % (3 : Int32))), .val (.int ((p1 &&& (2147483647 : Int32)) % (3 : Int32))), .val (.ref b16), .val (.ref w_BOOL), .val (.ref w_REAL)] [(.int ((((p0 &&& (2147483647 : Int32)) % (3 : Int32)) * (3 : Int32)) + ((p1 &&& (2147483647 : Int32)) % (3 : Int32)))), (.ref b16), (.int (0 : Int32))])) _
          refine X47.baloadBooleans hx (j := ((((p0 &&& (2147483647 : Int32)) % (3 : Int32)) * (3 : Int32)) + ((p1 &&& (2147483647 : Int32)) % (3 : Int32)))) (v := (.int (0 : Int32))) (by rw [e47]; exact Ar48.1) (State.isArrayOf_alike hZ.alike Ar48.2.1) Ar48.2.2 hin48 hat48 (g := (mkF m 85 #[.val (.int p0), .val (.int p1), .val (.int ((p0 &&& (2147483647 : Int32)) % (3 : Int32))), .val (.int ((p1 &&& (2147483647 : Int32)) % (3 : Int32))), .val (.ref b16), .val (.ref w_BOOL), .val (.ref w_REAL)] [(.int ((((p0 &&& (2147483647 : Int32)) % (3 : Int32)) * (3 : Int32)) + ((p1 &&& (2147483647 : Int32)) % (3 : Int32)))), (.ref b16), (.int (0 : Int32))])) rfl rfl (hb hby at_85) _ ?_
          show Steps p.tables e below (T47.setTop (mkF m 86 #[.val (.int p0), .val (.int p1), .val (.int ((p0 &&& (2147483647 : Int32)) % (3 : Int32))), .val (.int ((p1 &&& (2147483647 : Int32)) % (3 : Int32))), .val (.ref b16), .val (.ref w_BOOL), .val (.ref w_REAL)] [(.int (0 : Int32)), (.int (0 : Int32))])) _
          refine XS.icmpNo X47.here hx rfl (hb hby at_86) rfl (teq (by decide : (0 : Int32) = (0 : Int32))).2 ?_
          show Steps p.tables e below (T47.setTop (mkF m 89 #[.val (.int p0), .val (.int p1), .val (.int ((p0 &&& (2147483647 : Int32)) % (3 : Int32))), .val (.int ((p1 &&& (2147483647 : Int32)) % (3 : Int32))), .val (.ref b16), .val (.ref w_BOOL), .val (.ref w_REAL)] [])) _
          refine XS.iconst X47.here hx rfl (hb hby at_89) ?_
          show Steps p.tables e below (T47.setTop (mkF m 90 #[.val (.int p0), .val (.int p1), .val (.int ((p0 &&& (2147483647 : Int32)) % (3 : Int32))), .val (.int ((p1 &&& (2147483647 : Int32)) % (3 : Int32))), .val (.ref b16), .val (.ref w_BOOL), .val (.ref w_REAL)] [(.int (1 : Int32))])) _
          refine XS.goto X47.here hx rfl (pc0 := 90) (pc' := 94) rfl (hb hby at_90) (by decide) (by decide) ?_
          show Steps p.tables e below (T47.setTop (mkF m 94 #[.val (.int p0), .val (.int p1), .val (.int ((p0 &&& (2147483647 : Int32)) % (3 : Int32))), .val (.int ((p1 &&& (2147483647 : Int32)) % (3 : Int32))), .val (.ref b16), .val (.ref w_BOOL), .val (.ref w_REAL)] [(.int (1 : Int32))])) _
          exact retN X47 hx (t := .boolean) Bd.returns (by simp) (hb hby at_94) hr
        · show Q_law Z p0 p1 w_BOOL w_INT w_REAL h0 n0 _ T47.heap _
          refine ⟨?_, N47, trivial⟩
          rw [F_law, if_pos hs_37, if_neg hs_40, if_neg hs_43]
  · by_cases hs_49 : ((p0 &&& (2147483647 : Int32)) % (3 : Int32)) = (1 : Int32)
    · have q35 : (F_pick ((p0 &&& (2147483647 : Int32)) % (3 : Int32)) w_BOOL w_INT w_REAL) = w_INT := by rw [F_pick, if_neg hs_37, if_pos hs_49]
      rw [q35] at st35
      obtain ⟨_, _, ⟨T50, L50, k50, n50⟩, -, X50, ⟨Lc50, hQ50, l50, y50, z50⟩, st50⟩ := Jvm.LawKit.callS X35 hx (y := (⟨"com/example/ferrule/ferrule/model/TypeAcceptsPinLaw", "pick", "(I)Lcom/example/ferrule/ferrule/model/Type;"⟩ : MethodName)) hown (mvT hZ (hw _ (List.mem_of_getElem? (i := 2) rfl))) (mvT hZ (hw _ (List.mem_of_getElem? (i := 3) rfl))) (mvT hZ (hw _ (List.mem_of_getElem? (i := 4) rfl))) (mvT hZ (hw _ (List.mem_of_getElem? (i := 5) rfl))) (by decide) (backOf (W := 0) (rm_pick l Z a0' hw [] ((p1 &&& (2147483647 : Int32)) % (3 : Int32)) w_BOOL w_INT w_REAL h34 n0 Z34 (S_BOOL.ext EX34) (S_INT.ext EX34) (S_REAL.ext EX34)) hZ (hw _ (List.mem_of_getElem? (i := 5) rfl)) (hw _ (List.mem_of_getElem? (i := 4) rfl)) (by decide) (by decide)) (g := (mkF m 66 #[.val (.int p0), .val (.int p1), .val (.int ((p0 &&& (2147483647 : Int32)) % (3 : Int32))), .val (.int ((p1 &&& (2147483647 : Int32)) % (3 : Int32))), .val (.ref b16), .val (.ref w_INT), .unset] [(.int ((p1 &&& (2147483647 : Int32)) % (3 : Int32)))])) rfl (by rw [hml]; rfl) (argsL := [(.int ((p1 &&& (2147483647 : Int32)) % (3 : Int32)))]) (rest := []) (lenOf own_pd0 rfl) rfl (by show 2 * 0 + _ ≤ _; exact Nat.le_of_eq rfl) (hb hby at_66) (fun _ _ => ⟨rfl, e35, (by decide : 1 + 0 ≤ _), (by decide : 9 + 0 ≤ _)⟩)
      dsimp only [Pt.U, Pt.locs, Pt.cells, Pt.slots] at X50 l50 y50 z50 st50 hQ50
      subst l50 y50 z50
      obtain ⟨rfl, N50q, e50⟩ := hQ50
      have N50 := Fr.app N35 N50q
      have pre51 : ∀ t, Steps p.tables e below (T35.setTop (mkF m 66 #[.val (.int p0), .val (.int p1), .val (.int ((p0 &&& (2147483647 : Int32)) % (3 : Int32))), .val (.int ((p1 &&& (2147483647 : Int32)) % (3 : Int32))), .val (.ref b16), .val (.ref w_INT), .unset] [(.int ((p1 &&& (2147483647 : Int32)) % (3 : Int32)))])) t → Steps p.tables e below (s₁.setTop (entryFrame m #[(.int p0), (.int p1)] maxLocals)) t := fun t k => pre36 t (by
        show Steps p.tables e below (T34.setTop (mkF m 60 #[.val (.int p0), .val (.int p1), .val (.int ((p0 &&& (2147483647 : Int32)) % (3 : Int32))), .val (.int ((p1 &&& (2147483647 : Int32)) % (3 : Int32))), .val (.ref b16), .unset, .unset] [(.int ((p0 &&& (2147483647 : Int32)) % (3 : Int32)))])) _
        refine st35 _ ?_
        show Steps p.tables e below (T35.setTop (mkF m 63 #[.val (.int p0), .val (.int p1), .val (.int ((p0 &&& (2147483647 : Int32)) % (3 : Int32))), .val (.int ((p1 &&& (2147483647 : Int32)) % (3 : Int32))), .val (.ref b16), .unset, .unset] [(.ref w_INT)])) _
        refine XS.astore X35.here hx rfl (hb hby at_63) rfl rfl (l' := #[.val (.int p0), .val (.int p1), .val (.int ((p0 &&& (2147483647 : Int32)) % (3 : Int32))), .val (.int ((p1 &&& (2147483647 : Int32)) % (3 : Int32))), .val (.ref b16), .val (.ref w_INT), .unset]) rfl ?_
        show Steps p.tables e below (T35.setTop (mkF m 65 #[.val (.int p0), .val (.int p1), .val (.int ((p0 &&& (2147483647 : Int32)) % (3 : Int32))), .val (.int ((p1 &&& (2147483647 : Int32)) % (3 : Int32))), .val (.ref b16), .val (.ref w_INT), .unset] [])) _
        refine XS.iloadN X35.here hx rfl (hb hby at_65) rfl ?_
        exact k)
      by_cases hs_52 : ((p1 &&& (2147483647 : Int32)) % (3 : Int32)) = (0 : Int32)
      · have q50 : (F_pick ((p1 &&& (2147483647 : Int32)) % (3 : Int32)) w_BOOL w_INT w_REAL) = w_BOOL := by rw [F_pick, if_pos hs_52]
        rw [q50] at st50
        obtain ⟨cq53, kq53, q53a, q53b, q53c⟩ := isOf hZ e50 (E_INT.ext EX34)
        obtain ⟨_, _, ⟨T53, L53, k53, n53⟩, -, X53, ⟨Lc53, hQ53, l53, y53, z53⟩, st53⟩ := X50.virtualBack hx (y := (⟨"com/example/ferrule/ferrule/model/Type", "accepts", "(Lcom/example/ferrule/ferrule/model/Type;)Z"⟩ : MethodName)) (z := (⟨"com/example/ferrule/ferrule/model/Type", "accepts", "(Lcom/example/ferrule/ferrule/model/Type;)Z"⟩ : MethodName)) hown (mvT hZ (hw _ (List.mem_of_getElem? (i := 9) rfl))) (mvT hZ (hw _ (List.mem_of_getElem? (i := 10) rfl))) (notFace_of_selects (args := #[]) (mvT hZ (hw _ (List.mem_of_getElem? (i := 12) rfl)))) (mvT hZ (hw _ (List.mem_of_getElem? (i := 12) rfl))) (mvT hZ (hw _ (List.mem_of_getElem? (i := 11) rfl))) (by decide) (backOf (W := 0) (rm_acc l Z a0' hw [] w_INT w_BOOL w_INT w_REAL h34 n0 Z34 (S_INT.ext EX34) (S_REAL.ext EX34)) hZ (hw _ (List.mem_of_getElem? (i := 13) rfl)) (hw _ (List.mem_of_getElem? (i := 7) rfl)) (by decide) (by decide)) q53a q53c (g := (mkF m 75 #[.val (.int p0), .val (.int p1), .val (.int ((p0 &&& (2147483647 : Int32)) % (3 : Int32))), .val (.int ((p1 &&& (2147483647 : Int32)) % (3 : Int32))), .val (.ref b16), .val (.ref w_INT), .val (.ref w_BOOL)] [(.ref w_BOOL), (.ref w_INT)])) rfl (by rw [hml]; rfl) (Steps.refl _) (argsL := [(.ref w_BOOL)]) (rest := []) (lenOf own_pd1 rfl) rfl (by show 2 * 0 + _ ≤ _; exact Nat.le_of_eq rfl) (hb hby at_75) (fun _ _ => ⟨rfl, e50, (by decide : 1 + 0 ≤ _), (by decide : 9 + 0 ≤ _)⟩)
        dsimp only [Pt.U, Pt.locs, Pt.cells, Pt.slots] at X53 l53 y53 z53 st53 hQ53
        subst l53 y53 z53
        obtain ⟨rfl, N53q, e53⟩ := hQ53
        have N53 := Fr.app N50 N53q
        have q53 : (F_acc w_INT w_BOOL w_INT w_REAL) = (0 : Int32) := by rw [F_acc, if_neg ne_BOOL_INT, if_neg ne_INT_REAL]
        rw [q53] at st53
        obtain ⟨cl54, Ar54, q54, S54, N54, H54, G54⟩ := V_b16_34
        have hj54 : ((((p0 &&& (2147483647 : Int32)) % (3 : Int32)) * (3 : Int32)) + ((p1 &&& (2147483647 : Int32)) % (3 : Int32))) = (3 : Int32) := by rw [hs_49, hs_52]; rfl
        have hin54 : ¬ (((((p0 &&& (2147483647 : Int32)) % (3 : Int32)) * (3 : Int32)) + ((p1 &&& (2147483647 : Int32)) % (3 : Int32))) < 0 ∨ cl54.slots.size ≤ (((((p0 &&& (2147483647 : Int32)) % (3 : Int32)) * (3 : Int32)) + ((p1 &&& (2147483647 : Int32)) % (3 : Int32)))).toNatClampNeg) := by rw [hj54]; exact inb_of S54 ⟨by decide, by decide⟩
        have hat54 : cl54.slots[(((((p0 &&& (2147483647 : Int32)) % (3 : Int32)) * (3 : Int32)) + ((p1 &&& (2147483647 : Int32)) % (3 : Int32)))).toNatClampNeg]? = some (.int (0 : Int32)) := by rw [hj54]; exact H54 3 (by rw [S54]; decide)
        obtain ⟨fs, hr, hrun, hended, hW, hsame⟩ := X53.leave (v := some (.int (1 : Int32))) (fun h => by rw [Bd.returns] at h; cases h)
        refine ⟨_, _, pre51 _ ?_, hrun, hended, _, _, rfl, ?_, ⟨_, rfl⟩, hW, hsame.mono (by decide) (by decide)⟩
        · show Steps p.tables e below (T35.setTop (mkF m 66 #[.val (.int p0), .val (.int p1), .val (.int ((p0 &&& (2147483647 : Int32)) % (3 : Int32))), .val (.int ((p1 &&& (2147483647 : Int32)) % (3 : Int32))), .val (.ref b16), .val (.ref w_INT), .unset] [(.int ((p1 &&& (2147483647 : Int32)) % (3 : Int32)))])) _
          refine st50 _ ?_
          show Steps p.tables e below (T50.setTop (mkF m 69 #[.val (.int p0), .val (.int p1), .val (.int ((p0 &&& (2147483647 : Int32)) % (3 : Int32))), .val (.int ((p1 &&& (2147483647 : Int32)) % (3 : Int32))), .val (.ref b16), .val (.ref w_INT), .unset] [(.ref w_BOOL)])) _
          refine XS.astore X50.here hx rfl (hb hby at_69) rfl rfl (l' := #[.val (.int p0), .val (.int p1), .val (.int ((p0 &&& (2147483647 : Int32)) % (3 : Int32))), .val (.int ((p1 &&& (2147483647 : Int32)) % (3 : Int32))), .val (.ref b16), .val (.ref w_INT), .val (.ref w_BOOL)]) rfl ?_
          show Steps p.tables e below (T50.setTop (mkF m 71 #[.val (.int p0), .val (.int p1), .val (.int ((p0 &&& (2147483647 : Int32)) % (3 : Int32))), .val (.int ((p1 &&& (2147483647 : Int32)) % (3 : Int32))), .val (.ref b16), .val (.ref w_INT), .val (.ref w_BOOL)] [])) _
          refine XS.aload X50.here hx rfl (hb hby at_71) rfl rfl ?_
          show Steps p.tables e below (T50.setTop (mkF m 73 #[.val (.int p0), .val (.int p1), .val (.int ((p0 &&& (2147483647 : Int32)) % (3 : Int32))), .val (.int ((p1 &&& (2147483647 : Int32)) % (3 : Int32))), .val (.ref b16), .val (.ref w_INT), .val (.ref w_BOOL)] [(.ref w_INT)])) _
          refine XS.aload X50.here hx rfl (hb hby at_73) rfl rfl ?_
          show Steps p.tables e below (T50.setTop (mkF m 75 #[.val (.int p0), .val (.int p1), .val (.int ((p0 &&& (2147483647 : Int32)) % (3 : Int32))), .val (.int ((p1 &&& (2147483647 : Int32)) % (3 : Int32))), .val (.ref b16), .val (.ref w_INT), .val (.ref w_BOOL)] [(.ref w_BOOL), (.ref w_INT)])) _
          refine st53.trans ?_
          show Steps p.tables e below (T53.setTop (mkF m 78 #[.val (.int p0), .val (.int p1), .val (.int ((p0 &&& (2147483647 : Int32)) % (3 : Int32))), .val (.int ((p1 &&& (2147483647 : Int32)) % (3 : Int32))), .val (.ref b16), .val (.ref w_INT), .val (.ref w_BOOL)] [(.int (0 : Int32))])) _
          refine XS.aload X53.here hx rfl (hb hby at_78) rfl rfl ?_
          show Steps p.tables e below (T53.setTop (mkF m 80 #[.val (.int p0), .val (.int p1), .val (.int ((p0 &&& (2147483647 : Int32)) % (3 : Int32))), .val (.int ((p1 &&& (2147483647 : Int32)) % (3 : Int32))), .val (.ref b16), .val (.ref w_INT), .val (.ref w_BOOL)] [(.ref b16), (.int (0 : Int32))])) _
          refine XS.iloadN X53.here hx rfl (hb hby at_80) rfl ?_
          show Steps p.tables e below (T53.setTop (mkF m 81 #[.val (.int p0), .val (.int p1), .val (.int ((p0 &&& (2147483647 : Int32)) % (3 : Int32))), .val (.int ((p1 &&& (2147483647 : Int32)) % (3 : Int32))), .val (.ref b16), .val (.ref w_INT), .val (.ref w_BOOL)] [(.int ((p0 &&& (2147483647 : Int32)) % (3 : Int32))), (.ref b16), (.int (0 : Int32))])) _
          refine XS.iconst X53.here hx rfl (hb hby at_81) ?_
          show Steps p.tables e below (T53.setTop (mkF m 82 #[.val (.int p0), .val (.int p1), .val (.int ((p0 &&& (2147483647 : Int32)) % (3 : Int32))), .val (.int ((p1 &&& (2147483647 : Int32)) % (3 : Int32))), .val (.ref b16), .val (.ref w_INT), .val (.ref w_BOOL)] [(.int (3 : Int32)), (.int ((p0 &&& (2147483647 : Int32)) % (3 : Int32))), (.ref b16), (.int (0 : Int32))])) _
          refine XS.imul X53.here hx rfl (hb hby at_82) rfl ?_
          show Steps p.tables e below (T53.setTop (mkF m 83 #[.val (.int p0), .val (.int p1), .val (.int ((p0 &&& (2147483647 : Int32)) % (3 : Int32))), .val (.int ((p1 &&& (2147483647 : Int32)) % (3 : Int32))), .val (.ref b16), .val (.ref w_INT), .val (.ref w_BOOL)] [(.int (((p0 &&& (2147483647 : Int32)) % (3 : Int32)) * (3 : Int32))), (.ref b16), (.int (0 : Int32))])) _
          refine XS.iloadN X53.here hx rfl (hb hby at_83) rfl ?_
          show Steps p.tables e below (T53.setTop (mkF m 84 #[.val (.int p0), .val (.int p1), .val (.int ((p0 &&& (2147483647 : Int32)) % (3 : Int32))), .val (.int ((p1 &&& (2147483647 : Int32)) % (3 : Int32))), .val (.ref b16), .val (.ref w_INT), .val (.ref w_BOOL)] [(.int ((p1 &&& (2147483647 : Int32)) % (3 : Int32))), (.int (((p0 &&& (2147483647 : Int32)) % (3 : Int32)) * (3 : Int32))), (.ref b16), (.int (0 : Int32))])) _
          refine XS.iadd X53.here hx rfl (hb hby at_84) rfl ?_
          show Steps p.tables e below (T53.setTop (mkF m 85 #[.val (.int p0), .val (.int p1), .val (.int ((p0 &&& (2147483647 : Int32)) % (3 : Int32))), .val (.int ((p1 &&& (2147483647 : Int32)) % (3 : Int32))), .val (.ref b16), .val (.ref w_INT), .val (.ref w_BOOL)] [(.int ((((p0 &&& (2147483647 : Int32)) % (3 : Int32)) * (3 : Int32)) + ((p1 &&& (2147483647 : Int32)) % (3 : Int32)))), (.ref b16), (.int (0 : Int32))])) _
          refine X53.baloadBooleans hx (j := ((((p0 &&& (2147483647 : Int32)) % (3 : Int32)) * (3 : Int32)) + ((p1 &&& (2147483647 : Int32)) % (3 : Int32)))) (v := (.int (0 : Int32))) (by rw [e53]; exact Ar54.1) (State.isArrayOf_alike hZ.alike Ar54.2.1) Ar54.2.2 hin54 hat54 (g := (mkF m 85 #[.val (.int p0), .val (.int p1), .val (.int ((p0 &&& (2147483647 : Int32)) % (3 : Int32))), .val (.int ((p1 &&& (2147483647 : Int32)) % (3 : Int32))), .val (.ref b16), .val (.ref w_INT), .val (.ref w_BOOL)] [(.int ((((p0 &&& (2147483647 : Int32)) % (3 : Int32)) * (3 : Int32)) + ((p1 &&& (2147483647 : Int32)) % (3 : Int32)))), (.ref b16), (.int (0 : Int32))])) rfl rfl (hb hby at_85) _ ?_
          show Steps p.tables e below (T53.setTop (mkF m 86 #[.val (.int p0), .val (.int p1), .val (.int ((p0 &&& (2147483647 : Int32)) % (3 : Int32))), .val (.int ((p1 &&& (2147483647 : Int32)) % (3 : Int32))), .val (.ref b16), .val (.ref w_INT), .val (.ref w_BOOL)] [(.int (0 : Int32)), (.int (0 : Int32))])) _
          refine XS.icmpNo X53.here hx rfl (hb hby at_86) rfl (teq (by decide : (0 : Int32) = (0 : Int32))).2 ?_
          show Steps p.tables e below (T53.setTop (mkF m 89 #[.val (.int p0), .val (.int p1), .val (.int ((p0 &&& (2147483647 : Int32)) % (3 : Int32))), .val (.int ((p1 &&& (2147483647 : Int32)) % (3 : Int32))), .val (.ref b16), .val (.ref w_INT), .val (.ref w_BOOL)] [])) _
          refine XS.iconst X53.here hx rfl (hb hby at_89) ?_
          show Steps p.tables e below (T53.setTop (mkF m 90 #[.val (.int p0), .val (.int p1), .val (.int ((p0 &&& (2147483647 : Int32)) % (3 : Int32))), .val (.int ((p1 &&& (2147483647 : Int32)) % (3 : Int32))), .val (.ref b16), .val (.ref w_INT), .val (.ref w_BOOL)] [(.int (1 : Int32))])) _
          refine XS.goto X53.here hx rfl (pc0 := 90) (pc' := 94) rfl (hb hby at_90) (by decide) (by decide) ?_
          show Steps p.tables e below (T53.setTop (mkF m 94 #[.val (.int p0), .val (.int p1), .val (.int ((p0 &&& (2147483647 : Int32)) % (3 : Int32))), .val (.int ((p1 &&& (2147483647 : Int32)) % (3 : Int32))), .val (.ref b16), .val (.ref w_INT), .val (.ref w_BOOL)] [(.int (1 : Int32))])) _
          exact retN X53 hx (t := .boolean) Bd.returns (by simp) (hb hby at_94) hr
        · show Q_law Z p0 p1 w_BOOL w_INT w_REAL h0 n0 _ T53.heap _
          refine ⟨?_, N53, trivial⟩
          rw [F_law, if_neg hs_37, if_pos hs_49, if_pos hs_52]
      · by_cases hs_55 : ((p1 &&& (2147483647 : Int32)) % (3 : Int32)) = (1 : Int32)
        · have q50 : (F_pick ((p1 &&& (2147483647 : Int32)) % (3 : Int32)) w_BOOL w_INT w_REAL) = w_INT := by rw [F_pick, if_neg hs_52, if_pos hs_55]
          rw [q50] at st50
          obtain ⟨cq56, kq56, q56a, q56b, q56c⟩ := isOf hZ e50 (E_INT.ext EX34)
          obtain ⟨_, _, ⟨T56, L56, k56, n56⟩, -, X56, ⟨Lc56, hQ56, l56, y56, z56⟩, st56⟩ := X50.virtualBack hx (y := (⟨"com/example/ferrule/ferrule/model/Type", "accepts", "(Lcom/example/ferrule/ferrule/model/Type;)Z"⟩ : MethodName)) (z := (⟨"com/example/ferrule/ferrule/model/Type", "accepts", "(Lcom/example/ferrule/ferrule/model/Type;)Z"⟩ : MethodName)) hown (mvT hZ (hw _ (List.mem_of_getElem? (i := 9) rfl))) (mvT hZ (hw _ (List.mem_of_getElem? (i := 10) rfl))) (notFace_of_selects (args := #[]) (mvT hZ (hw _ (List.mem_of_getElem? (i := 12) rfl)))) (mvT hZ (hw _ (List.mem_of_getElem? (i := 12) rfl))) (mvT hZ (hw _ (List.mem_of_getElem? (i := 11) rfl))) (by decide) (backOf (W := 0) (rm_acc l Z a0' hw [] w_INT w_INT w_INT w_REAL h34 n0 Z34 (S_INT.ext EX34) (S_REAL.ext EX34)) hZ (hw _ (List.mem_of_getElem? (i := 13) rfl)) (hw _ (List.mem_of_getElem? (i := 7) rfl)) (by decide) (by decide)) q56a q56c (g := (mkF m 75 #[.val (.int p0), .val (.int p1), .val (.int ((p0 &&& (2147483647 : Int32)) % (3 : Int32))), .val (.int ((p1 &&& (2147483647 : Int32)) % (3 : Int32))), .val (.ref b16), .val (.ref w_INT), .val (.ref w_INT)] [(.ref w_INT), (.ref w_INT)])) rfl (by rw [hml]; rfl) (Steps.refl _) (argsL := [(.ref w_INT)]) (rest := []) (lenOf own_pd1 rfl) rfl (by show 2 * 0 + _ ≤ _; exact Nat.le_of_eq rfl) (hb hby at_75) (fun _ _ => ⟨rfl, e50, (by decide : 1 + 0 ≤ _), (by decide : 9 + 0 ≤ _)⟩)
          dsimp only [Pt.U, Pt.locs, Pt.cells, Pt.slots] at X56 l56 y56 z56 st56 hQ56
          subst l56 y56 z56
          obtain ⟨rfl, N56q, e56⟩ := hQ56
          have N56 := Fr.app N50 N56q
          have q56 : (F_acc w_INT w_INT w_INT w_REAL) = (1 : Int32) := by rw [F_acc, if_pos (rfl : w_INT = w_INT)]
          rw [q56] at st56
          obtain ⟨cl57, Ar57, q57, S57, N57, H57, G57⟩ := V_b16_34
          have hj57 : ((((p0 &&& (2147483647 : Int32)) % (3 : Int32)) * (3 : Int32)) + ((p1 &&& (2147483647 : Int32)) % (3 : Int32))) = (4 : Int32) := by rw [hs_49, hs_55]; rfl
          have hin57 : ¬ (((((p0 &&& (2147483647 : Int32)) % (3 : Int32)) * (3 : Int32)) + ((p1 &&& (2147483647 : Int32)) % (3 : Int32))) < 0 ∨ cl57.slots.size ≤ (((((p0 &&& (2147483647 : Int32)) % (3 : Int32)) * (3 : Int32)) + ((p1 &&& (2147483647 : Int32)) % (3 : Int32)))).toNatClampNeg) := by rw [hj57]; exact inb_of S57 ⟨by decide, by decide⟩
          have hat57 : cl57.slots[(((((p0 &&& (2147483647 : Int32)) % (3 : Int32)) * (3 : Int32)) + ((p1 &&& (2147483647 : Int32)) % (3 : Int32)))).toNatClampNeg]? = some (.int (1 : Int32)) := by rw [hj57]; exact H57 4 (by rw [S57]; decide)
          obtain ⟨fs, hr, hrun, hended, hW, hsame⟩ := X56.leave (v := some (.int (1 : Int32))) (fun h => by rw [Bd.returns] at h; cases h)
          refine ⟨_, _, pre51 _ ?_, hrun, hended, _, _, rfl, ?_, ⟨_, rfl⟩, hW, hsame.mono (by decide) (by decide)⟩
          · show Steps p.tables e below (T35.setTop (mkF m 66 #[.val (.int p0), .val (.int p1), .val (.int ((p0 &&& (2147483647 : Int32)) % (3 : Int32))), .val (.int ((p1 &&& (2147483647 : Int32)) % (3 : Int32))), .val (.ref b16), .val (.ref w_INT), .unset] [(.int ((p1 &&& (2147483647 : Int32)) % (3 : Int32)))])) _
            refine st50 _ ?_
            show Steps p.tables e below (T50.setTop (mkF m 69 #[.val (.int p0), .val (.int p1), .val (.int ((p0 &&& (2147483647 : Int32)) % (3 : Int32))), .val (.int ((p1 &&& (2147483647 : Int32)) % (3 : Int32))), .val (.ref b16), .val (.ref w_INT), .unset] [(.ref w_INT)])) _
            refine XS.astore X50.here hx rfl (hb hby at_69) rfl rfl (l' := #[.val (.int p0), .val (.int p1), .val (.int ((p0 &&& (2147483647 : Int32)) % (3 : Int32))), .val (.int ((p1 &&& (2147483647 : Int32)) % (3 : Int32))), .val (.ref b16), .val (.ref w_INT), .val (.ref w_INT)]) rfl ?_
            show Steps p.tables e below (T50.setTop (mkF m 71 #[.val (.int p0), .val (.int p1), .val (.int ((p0 &&& (2147483647 : Int32)) % (3 : Int32))), .val (.int ((p1 &&& (2147483647 : Int32)) % (3 : Int32))), .val (.ref b16), .val (.ref w_INT), .val (.ref w_INT)] [])) _
            refine XS.aload X50.here hx rfl (hb hby at_71) rfl rfl ?_
            show Steps p.tables e below (T50.setTop (mkF m 73 #[.val (.int p0), .val (.int p1), .val (.int ((p0 &&& (2147483647 : Int32)) % (3 : Int32))), .val (.int ((p1 &&& (2147483647 : Int32)) % (3 : Int32))), .val (.ref b16), .val (.ref w_INT), .val (.ref w_INT)] [(.ref w_INT)])) _
            refine XS.aload X50.here hx rfl (hb hby at_73) rfl rfl ?_
            show Steps p.tables e below (T50.setTop (mkF m 75 #[.val (.int p0), .val (.int p1), .val (.int ((p0 &&& (2147483647 : Int32)) % (3 : Int32))), .val (.int ((p1 &&& (2147483647 : Int32)) % (3 : Int32))), .val (.ref b16), .val (.ref w_INT), .val (.ref w_INT)] [(.ref w_INT), (.ref w_INT)])) _
            refine st56.trans ?_
            show Steps p.tables e below (T56.setTop (mkF m 78 #[.val (.int p0), .val (.int p1), .val (.int ((p0 &&& (2147483647 : Int32)) % (3 : Int32))), .val (.int ((p1 &&& (2147483647 : Int32)) % (3 : Int32))), .val (.ref b16), .val (.ref w_INT), .val (.ref w_INT)] [(.int (1 : Int32))])) _
            refine XS.aload X56.here hx rfl (hb hby at_78) rfl rfl ?_
            show Steps p.tables e below (T56.setTop (mkF m 80 #[.val (.int p0), .val (.int p1), .val (.int ((p0 &&& (2147483647 : Int32)) % (3 : Int32))), .val (.int ((p1 &&& (2147483647 : Int32)) % (3 : Int32))), .val (.ref b16), .val (.ref w_INT), .val (.ref w_INT)] [(.ref b16), (.int (1 : Int32))])) _
            refine XS.iloadN X56.here hx rfl (hb hby at_80) rfl ?_
            show Steps p.tables e below (T56.setTop (mkF m 81 #[.val (.int p0), .val (.int p1), .val (.int ((p0 &&& (2147483647 : Int32)) % (3 : Int32))), .val (.int ((p1 &&& (2147483647 : Int32)) % (3 : Int32))), .val (.ref b16), .val (.ref w_INT), .val (.ref w_INT)] [(.int ((p0 &&& (2147483647 : Int32)) % (3 : Int32))), (.ref b16), (.int (1 : Int32))])) _
            refine XS.iconst X56.here hx rfl (hb hby at_81) ?_
            show Steps p.tables e below (T56.setTop (mkF m 82 #[.val (.int p0), .val (.int p1), .val (.int ((p0 &&& (2147483647 : Int32)) % (3 : Int32))), .val (.int ((p1 &&& (2147483647 : Int32)) % (3 : Int32))), .val (.ref b16), .val (.ref w_INT), .val (.ref w_INT)] [(.int (3 : Int32)), (.int ((p0 &&& (2147483647 : Int32)) % (3 : Int32))), (.ref b16), (.int (1 : Int32))])) _
            refine XS.imul X56.here hx rfl (hb hby at_82) rfl ?_
            show Steps p.tables e below (T56.setTop (mkF m 83 #[.val (.int p0), .val (.int p1), .val (.int ((p0 &&& (2147483647 : Int32)) % (3 : Int32))), .val (.int ((p1 &&& (2147483647 : Int32)) % (3 : Int32))), .val (.ref b16), .val (.ref w_INT), .val (.ref w_INT)] [(.int (((p0 &&& (2147483647 : Int32)) % (3 : Int32)) * (3 : Int32))), (.ref b16), (.int (1 : Int32))])) _
            refine XS.iloadN X56.here hx rfl (hb hby at_83) rfl ?_
            show Steps p.tables e below (T56.setTop (mkF m 84 #[.val (.int p0), .val (.int p1), .val (.int ((p0 &&& (2147483647 : Int32)) % (3 : Int32))), .val (.int ((p1 &&& (2147483647 : Int32)) % (3 : Int32))), .val (.ref b16), .val (.ref w_INT), .val (.ref w_INT)] [(.int ((p1 &&& (2147483647 : Int32)) % (3 : Int32))), (.int (((p0 &&& (2147483647 : Int32)) % (3 : Int32)) * (3 : Int32))), (.ref b16), (.int (1 : Int32))])) _
            refine XS.iadd X56.here hx rfl (hb hby at_84) rfl ?_
            show Steps p.tables e below (T56.setTop (mkF m 85 #[.val (.int p0), .val (.int p1), .val (.int ((p0 &&& (2147483647 : Int32)) % (3 : Int32))), .val (.int ((p1 &&& (2147483647 : Int32)) % (3 : Int32))), .val (.ref b16), .val (.ref w_INT), .val (.ref w_INT)] [(.int ((((p0 &&& (2147483647 : Int32)) % (3 : Int32)) * (3 : Int32)) + ((p1 &&& (2147483647 : Int32)) % (3 : Int32)))), (.ref b16), (.int (1 : Int32))])) _
            refine X56.baloadBooleans hx (j := ((((p0 &&& (2147483647 : Int32)) % (3 : Int32)) * (3 : Int32)) + ((p1 &&& (2147483647 : Int32)) % (3 : Int32)))) (v := (.int (1 : Int32))) (by rw [e56]; exact Ar57.1) (State.isArrayOf_alike hZ.alike Ar57.2.1) Ar57.2.2 hin57 hat57 (g := (mkF m 85 #[.val (.int p0), .val (.int p1), .val (.int ((p0 &&& (2147483647 : Int32)) % (3 : Int32))), .val (.int ((p1 &&& (2147483647 : Int32)) % (3 : Int32))), .val (.ref b16), .val (.ref w_INT), .val (.ref w_INT)] [(.int ((((p0 &&& (2147483647 : Int32)) % (3 : Int32)) * (3 : Int32)) + ((p1 &&& (2147483647 : Int32)) % (3 : Int32)))), (.ref b16), (.int (1 : Int32))])) rfl rfl (hb hby at_85) _ ?_
            show Steps p.tables e below (T56.setTop (mkF m 86 #[.val (.int p0), .val (.int p1), .val (.int ((p0 &&& (2147483647 : Int32)) % (3 : Int32))), .val (.int ((p1 &&& (2147483647 : Int32)) % (3 : Int32))), .val (.ref b16), .val (.ref w_INT), .val (.ref w_INT)] [(.int (1 : Int32)), (.int (1 : Int32))])) _
            refine XS.icmpNo X56.here hx rfl (hb hby at_86) rfl (teq (by decide : (1 : Int32) = (1 : Int32))).2 ?_
            show Steps p.tables e below (T56.setTop (mkF m 89 #[.val (.int p0), .val (.int p1), .val (.int ((p0 &&& (2147483647 : Int32)) % (3 : Int32))), .val (.int ((p1 &&& (2147483647 : Int32)) % (3 : Int32))), .val (.ref b16), .val (.ref w_INT), .val (.ref w_INT)] [])) _
            refine XS.iconst X56.here hx rfl (hb hby at_89) ?_
            show Steps p.tables e below (T56.setTop (mkF m 90 #[.val (.int p0), .val (.int p1), .val (.int ((p0 &&& (2147483647 : Int32)) % (3 : Int32))), .val (.int ((p1 &&& (2147483647 : Int32)) % (3 : Int32))), .val (.ref b16), .val (.ref w_INT), .val (.ref w_INT)] [(.int (1 : Int32))])) _
            refine XS.goto X56.here hx rfl (pc0 := 90) (pc' := 94) rfl (hb hby at_90) (by decide) (by decide) ?_
            show Steps p.tables e below (T56.setTop (mkF m 94 #[.val (.int p0), .val (.int p1), .val (.int ((p0 &&& (2147483647 : Int32)) % (3 : Int32))), .val (.int ((p1 &&& (2147483647 : Int32)) % (3 : Int32))), .val (.ref b16), .val (.ref w_INT), .val (.ref w_INT)] [(.int (1 : Int32))])) _
            exact retN X56 hx (t := .boolean) Bd.returns (by simp) (hb hby at_94) hr
          · show Q_law Z p0 p1 w_BOOL w_INT w_REAL h0 n0 _ T56.heap _
            refine ⟨?_, N56, trivial⟩
            rw [F_law, if_neg hs_37, if_pos hs_49, if_neg hs_52, if_pos hs_55]
        · have q50 : (F_pick ((p1 &&& (2147483647 : Int32)) % (3 : Int32)) w_BOOL w_INT w_REAL) = w_REAL := by rw [F_pick, if_neg hs_52, if_neg hs_55]
          rw [q50] at st50
          have hx58 : ((p1 &&& (2147483647 : Int32)) % (3 : Int32)) = (2 : Int32) := by rcases own_idx p1 with q | q | q <;> first | exact absurd q hs_52 | exact absurd q hs_55 | exact q
          obtain ⟨cq59, kq59, q59a, q59b, q59c⟩ := isOf hZ e50 (E_INT.ext EX34)
          obtain ⟨_, _, ⟨T59, L59, k59, n59⟩, -, X59, ⟨Lc59, hQ59, l59, y59, z59⟩, st59⟩ := X50.virtualBack hx (y := (⟨"com/example/ferrule/ferrule/model/Type", "accepts", "(Lcom/example/ferrule/ferrule/model/Type;)Z"⟩ : MethodName)) (z := (⟨"com/example/ferrule/ferrule/model/Type", "accepts", "(Lcom/example/ferrule/ferrule/model/Type;)Z"⟩ : MethodName)) hown (mvT hZ (hw _ (List.mem_of_getElem? (i := 9) rfl))) (mvT hZ (hw _ (List.mem_of_getElem? (i := 10) rfl))) (notFace_of_selects (args := #[]) (mvT hZ (hw _ (List.mem_of_getElem? (i := 12) rfl)))) (mvT hZ (hw _ (List.mem_of_getElem? (i := 12) rfl))) (mvT hZ (hw _ (List.mem_of_getElem? (i := 11) rfl))) (by decide) (backOf (W := 0) (rm_acc l Z a0' hw [] w_INT w_REAL w_INT w_REAL h34 n0 Z34 (S_INT.ext EX34) (S_REAL.ext EX34)) hZ (hw _ (List.mem_of_getElem? (i := 13) rfl)) (hw _ (List.mem_of_getElem? (i := 7) rfl)) (by decide) (by decide)) q59a q59c (g := (mkF m 75 #[.val (.int p0), .val (.int p1), .val (.int ((p0 &&& (2147483647 : Int32)) % (3 : Int32))), .val (.int ((p1 &&& (2147483647 : Int32)) % (3 : Int32))), .val (.ref b16), .val (.ref w_INT), .val (.ref w_REAL)] [(.ref w_REAL), (.ref w_INT)])) rfl (by rw [hml]; rfl) (Steps.refl _) (argsL := [(.ref w_REAL)]) (rest := []) (lenOf own_pd1 rfl) rfl (by show 2 * 0 + _ ≤ _; exact Nat.le_of_eq rfl) (hb hby at_75) (fun _ _ => ⟨rfl, e50, (by decide : 1 + 0 ≤ _), (by decide : 9 + 0 ≤ _)⟩)
          dsimp only [Pt.U, Pt.locs, Pt.cells, Pt.slots] at X59 l59 y59 z59 st59 hQ59
          subst l59 y59 z59
          obtain ⟨rfl, N59q, e59⟩ := hQ59
          have N59 := Fr.app N50 N59q
          have q59 : (F_acc w_INT w_REAL w_INT w_REAL) = (0 : Int32) := by rw [F_acc, if_neg ne_REAL_INT, if_neg ne_INT_REAL]
          rw [q59] at st59
          obtain ⟨cl60, Ar60, q60, S60, N60, H60, G60⟩ := V_b16_34
          have hj60 : ((((p0 &&& (2147483647 : Int32)) % (3 : Int32)) * (3 : Int32)) + ((p1 &&& (2147483647 : Int32)) % (3 : Int32))) = (5 : Int32) := by rw [hs_49, hx58]; rfl
          have hin60 : ¬ (((((p0 &&& (2147483647 : Int32)) % (3 : Int32)) * (3 : Int32)) + ((p1 &&& (2147483647 : Int32)) % (3 : Int32))) < 0 ∨ cl60.slots.size ≤ (((((p0 &&& (2147483647 : Int32)) % (3 : Int32)) * (3 : Int32)) + ((p1 &&& (2147483647 : Int32)) % (3 : Int32)))).toNatClampNeg) := by rw [hj60]; exact inb_of S60 ⟨by decide, by decide⟩
          have hat60 : cl60.slots[(((((p0 &&& (2147483647 : Int32)) % (3 : Int32)) * (3 : Int32)) + ((p1 &&& (2147483647 : Int32)) % (3 : Int32)))).toNatClampNeg]? = some (.int (0 : Int32)) := by rw [hj60]; exact H60 5 (by rw [S60]; decide)
          obtain ⟨fs, hr, hrun, hended, hW, hsame⟩ := X59.leave (v := some (.int (1 : Int32))) (fun h => by rw [Bd.returns] at h; cases h)
          refine ⟨_, _, pre51 _ ?_, hrun, hended, _, _, rfl, ?_, ⟨_, rfl⟩, hW, hsame.mono (by decide) (by decide)⟩
          · show Steps p.tables e below (T35.setTop (mkF m 66 #[.val (.int p0), .val (.int p1), .val (.int ((p0 &&& (2147483647 : Int32)) % (3 : Int32))), .val (.int ((p1 &&& (2147483647 : Int32)) % (3 : Int32))), .val (.ref b16), .val (.ref w_INT), .unset] [(.int ((p1 &&& (2147483647 : Int32)) % (3 : Int32)))])) _
            refine st50 _ ?_
            show Steps p.tables e below (T50.setTop (mkF m 69 #[.val (.int p0), .val (.int p1), .val (.int ((p0 &&& (2147483647 : Int32)) % (3 : Int32))), .val (.int ((p1 &&& (2147483647 : Int32)) % (3 : Int32))), .val (.ref b16), .val (.ref w_INT), .unset] [(.ref w_REAL)])) _
            refine XS.astore X50.here hx rfl (hb hby at_69) rfl rfl (l' := #[.val (.int p0), .val (.int p1), .val (.int ((p0 &&& (2147483647 : Int32)) % (3 : Int32))), .val (.int ((p1 &&& (2147483647 : Int32)) % (3 : Int32))), .val (.ref b16), .val (.ref w_INT), .val (.ref w_REAL)]) rfl ?_
            show Steps p.tables e below (T50.setTop (mkF m 71 #[.val (.int p0), .val (.int p1), .val (.int ((p0 &&& (2147483647 : Int32)) % (3 : Int32))), .val (.int ((p1 &&& (2147483647 : Int32)) % (3 : Int32))), .val (.ref b16), .val (.ref w_INT), .val (.ref w_REAL)] [])) _
            refine XS.aload X50.here hx rfl (hb hby at_71) rfl rfl ?_
            show Steps p.tables e below (T50.setTop (mkF m 73 #[.val (.int p0), .val (.int p1), .val (.int ((p0 &&& (2147483647 : Int32)) % (3 : Int32))), .val (.int ((p1 &&& (2147483647 : Int32)) % (3 : Int32))), .val (.ref b16), .val (.ref w_INT), .val (.ref w_REAL)] [(.ref w_INT)])) _
            refine XS.aload X50.here hx rfl (hb hby at_73) rfl rfl ?_
            show Steps p.tables e below (T50.setTop (mkF m 75 #[.val (.int p0), .val (.int p1), .val (.int ((p0 &&& (2147483647 : Int32)) % (3 : Int32))), .val (.int ((p1 &&& (2147483647 : Int32)) % (3 : Int32))), .val (.ref b16), .val (.ref w_INT), .val (.ref w_REAL)] [(.ref w_REAL), (.ref w_INT)])) _
            refine st59.trans ?_
            show Steps p.tables e below (T59.setTop (mkF m 78 #[.val (.int p0), .val (.int p1), .val (.int ((p0 &&& (2147483647 : Int32)) % (3 : Int32))), .val (.int ((p1 &&& (2147483647 : Int32)) % (3 : Int32))), .val (.ref b16), .val (.ref w_INT), .val (.ref w_REAL)] [(.int (0 : Int32))])) _
            refine XS.aload X59.here hx rfl (hb hby at_78) rfl rfl ?_
            show Steps p.tables e below (T59.setTop (mkF m 80 #[.val (.int p0), .val (.int p1), .val (.int ((p0 &&& (2147483647 : Int32)) % (3 : Int32))), .val (.int ((p1 &&& (2147483647 : Int32)) % (3 : Int32))), .val (.ref b16), .val (.ref w_INT), .val (.ref w_REAL)] [(.ref b16), (.int (0 : Int32))])) _
            refine XS.iloadN X59.here hx rfl (hb hby at_80) rfl ?_
            show Steps p.tables e below (T59.setTop (mkF m 81 #[.val (.int p0), .val (.int p1), .val (.int ((p0 &&& (2147483647 : Int32)) % (3 : Int32))), .val (.int ((p1 &&& (2147483647 : Int32)) % (3 : Int32))), .val (.ref b16), .val (.ref w_INT), .val (.ref w_REAL)] [(.int ((p0 &&& (2147483647 : Int32)) % (3 : Int32))), (.ref b16), (.int (0 : Int32))])) _
            refine XS.iconst X59.here hx rfl (hb hby at_81) ?_
            show Steps p.tables e below (T59.setTop (mkF m 82 #[.val (.int p0), .val (.int p1), .val (.int ((p0 &&& (2147483647 : Int32)) % (3 : Int32))), .val (.int ((p1 &&& (2147483647 : Int32)) % (3 : Int32))), .val (.ref b16), .val (.ref w_INT), .val (.ref w_REAL)] [(.int (3 : Int32)), (.int ((p0 &&& (2147483647 : Int32)) % (3 : Int32))), (.ref b16), (.int (0 : Int32))])) _
            refine XS.imul X59.here hx rfl (hb hby at_82) rfl ?_
            show Steps p.tables e below (T59.setTop (mkF m 83 #[.val (.int p0), .val (.int p1), .val (.int ((p0 &&& (2147483647 : Int32)) % (3 : Int32))), .val (.int ((p1 &&& (2147483647 : Int32)) % (3 : Int32))), .val (.ref b16), .val (.ref w_INT), .val (.ref w_REAL)] [(.int (((p0 &&& (2147483647 : Int32)) % (3 : Int32)) * (3 : Int32))), (.ref b16), (.int (0 : Int32))])) _
            refine XS.iloadN X59.here hx rfl (hb hby at_83) rfl ?_
            show Steps p.tables e below (T59.setTop (mkF m 84 #[.val (.int p0), .val (.int p1), .val (.int ((p0 &&& (2147483647 : Int32)) % (3 : Int32))), .val (.int ((p1 &&& (2147483647 : Int32)) % (3 : Int32))), .val (.ref b16), .val (.ref w_INT), .val (.ref w_REAL)] [(.int ((p1 &&& (2147483647 : Int32)) % (3 : Int32))), (.int (((p0 &&& (2147483647 : Int32)) % (3 : Int32)) * (3 : Int32))), (.ref b16), (.int (0 : Int32))])) _
            refine XS.iadd X59.here hx rfl (hb hby at_84) rfl ?_
            show Steps p.tables e below (T59.setTop (mkF m 85 #[.val (.int p0), .val (.int p1), .val (.int ((p0 &&& (2147483647 : Int32)) % (3 : Int32))), .val (.int ((p1 &&& (2147483647 : Int32)) % (3 : Int32))), .val (.ref b16), .val (.ref w_INT), .val (.ref w_REAL)] [(.int ((((p0 &&& (2147483647 : Int32)) % (3 : Int32)) * (3 : Int32)) + ((p1 &&& (2147483647 : Int32)) % (3 : Int32)))), (.ref b16), (.int (0 : Int32))])) _
            refine X59.baloadBooleans hx (j := ((((p0 &&& (2147483647 : Int32)) % (3 : Int32)) * (3 : Int32)) + ((p1 &&& (2147483647 : Int32)) % (3 : Int32)))) (v := (.int (0 : Int32))) (by rw [e59]; exact Ar60.1) (State.isArrayOf_alike hZ.alike Ar60.2.1) Ar60.2.2 hin60 hat60 (g := (mkF m 85 #[.val (.int p0), .val (.int p1), .val (.int ((p0 &&& (2147483647 : Int32)) % (3 : Int32))), .val (.int ((p1 &&& (2147483647 : Int32)) % (3 : Int32))), .val (.ref b16), .val (.ref w_INT), .val (.ref w_REAL)] [(.int ((((p0 &&& (2147483647 : Int32)) % (3 : Int32)) * (3 : Int32)) + ((p1 &&& (2147483647 : Int32)) % (3 : Int32)))), (.ref b16), (.int (0 : Int32))])) rfl rfl (hb hby at_85) _ ?_
            show Steps p.tables e below (T59.setTop (mkF m 86 #[.val (.int p0), .val (.int p1), .val (.int ((p0 &&& (2147483647 : Int32)) % (3 : Int32))), .val (.int ((p1 &&& (2147483647 : Int32)) % (3 : Int32))), .val (.ref b16), .val (.ref w_INT), .val (.ref w_REAL)] [(.int (0 : Int32)), (.int (0 : Int32))])) _
            refine XS.icmpNo X59.here hx rfl (hb hby at_86) rfl (teq (by decide : (0 : Int32) = (0 : Int32))).2 ?_
            show Steps p.tables e below (T59.setTop (mkF m 89 #[.val (.int p0), .val (.int p1), .val (.int ((p0 &&& (2147483647 : Int32)) % (3 : Int32))), .val (.int ((p1 &&& (2147483647 : Int32)) % (3 : Int32))), .val (.ref b16), .val (.ref w_INT), .val (.ref w_REAL)] [])) _
            refine XS.iconst X59.here hx rfl (hb hby at_89) ?_
            show Steps p.tables e below (T59.setTop (mkF m 90 #[.val (.int p0), .val (.int p1), .val (.int ((p0 &&& (2147483647 : Int32)) % (3 : Int32))), .val (.int ((p1 &&& (2147483647 : Int32)) % (3 : Int32))), .val (.ref b16), .val (.ref w_INT), .val (.ref w_REAL)] [(.int (1 : Int32))])) _
            refine XS.goto X59.here hx rfl (pc0 := 90) (pc' := 94) rfl (hb hby at_90) (by decide) (by decide) ?_
            show Steps p.tables e below (T59.setTop (mkF m 94 #[.val (.int p0), .val (.int p1), .val (.int ((p0 &&& (2147483647 : Int32)) % (3 : Int32))), .val (.int ((p1 &&& (2147483647 : Int32)) % (3 : Int32))), .val (.ref b16), .val (.ref w_INT), .val (.ref w_REAL)] [(.int (1 : Int32))])) _
            exact retN X59 hx (t := .boolean) Bd.returns (by simp) (hb hby at_94) hr
          · show Q_law Z p0 p1 w_BOOL w_INT w_REAL h0 n0 _ T59.heap _
            refine ⟨?_, N59, trivial⟩
            rw [F_law, if_neg hs_37, if_pos hs_49, if_neg hs_52, if_neg hs_55]
    · have q35 : (F_pick ((p0 &&& (2147483647 : Int32)) % (3 : Int32)) w_BOOL w_INT w_REAL) = w_REAL := by rw [F_pick, if_neg hs_37, if_neg hs_49]
      rw [q35] at st35
      have hx61 : ((p0 &&& (2147483647 : Int32)) % (3 : Int32)) = (2 : Int32) := by rcases own_idx p0 with q | q | q <;> first | exact absurd q hs_37 | exact absurd q hs_49 | exact q
      obtain ⟨_, _, ⟨T62, L62, k62, n62⟩, -, X62, ⟨Lc62, hQ62, l62, y62, z62⟩, st62⟩ := Jvm.LawKit.callS X35 hx (y := (⟨"com/example/ferrule/ferrule/model/TypeAcceptsPinLaw", "pick", "(I)Lcom/example/ferrule/ferrule/model/Type;"⟩ : MethodName)) hown (mvT hZ (hw _ (List.mem_of_getElem? (i := 2) rfl))) (mvT hZ (hw _ (List.mem_of_getElem? (i := 3) rfl))) (mvT hZ (hw _ (List.mem_of_getElem? (i := 4) rfl))) (mvT hZ (hw _ (List.mem_of_getElem? (i := 5) rfl))) (by decide) (backOf (W := 0) (rm_pick l Z a0' hw [] ((p1 &&& (2147483647 : Int32)) % (3 : Int32)) w_BOOL w_INT w_REAL h34 n0 Z34 (S_BOOL.ext EX34) (S_INT.ext EX34) (S_REAL.ext EX34)) hZ (hw _ (List.mem_of_getElem? (i := 5) rfl)) (hw _ (List.mem_of_getElem? (i := 4) rfl)) (by decide) (by decide)) (g := (mkF m 66 #[.val (.int p0), .val (.int p1), .val (.int ((p0 &&& (2147483647 : Int32)) % (3 : Int32))), .val (.int ((p1 &&& (2147483647 : Int32)) % (3 : Int32))), .val (.ref b16), .val (.ref w_REAL), .unset] [(.int ((p1 &&& (2147483647 : Int32)) % (3 : Int32)))])) rfl (by rw [hml]; rfl) (argsL := [(.int ((p1 &&& (2147483647 : Int32)) % (3 : Int32)))]) (rest := []) (lenOf own_pd0 rfl) rfl (by show 2 * 0 + _ ≤ _; exact Nat.le_of_eq rfl) (hb hby at_66) (fun _ _ => ⟨rfl, e35, (by decide : 1 + 0 ≤ _), (by decide : 9 + 0 ≤ _)⟩)
      dsimp only [Pt.U, Pt.locs, Pt.cells, Pt.slots] at X62 l62 y62 z62 st62 hQ62
      subst l62 y62 z62
      obtain ⟨rfl, N62q, e62⟩ := hQ62
      have N62 := Fr.app N35 N62q
      have pre63 : ∀ t, Steps p.tables e below (T35.setTop (mkF m 66 #[.val (.int p0), .val (.int p1), .val (.int ((p0 &&& (2147483647 : Int32)) % (3 : Int32))), .val (.int ((p1 &&& (2147483647 : Int32)) % (3 : Int32))), .val (.ref b16), .val (.ref w_REAL), .unset] [(.int ((p1 &&& (2147483647 : Int32)) % (3 : Int32)))])) t → Steps p.tables e below (s₁.setTop (entryFrame m #[(.int p0), (.int p1)] maxLocals)) t := fun t k => pre36 t (by
        show Steps p.tables e below (T34.setTop (mkF m 60 #[.val (.int p0), .val (.int p1), .val (.int ((p0 &&& (2147483647 : Int32)) % (3 : Int32))), .val (.int ((p1 &&& (2147483647 : Int32)) % (3 : Int32))), .val (.ref b16), .unset, .unset] [(.int ((p0 &&& (2147483647 : Int32)) % (3 : Int32)))])) _
        refine st35 _ ?_
        show Steps p.tables e below (T35.setTop (mkF m 63 #[.val (.int p0), .val (.int p1), .val (.int ((p0 &&& (2147483647 : Int32)) % (3 : Int32))), .val (.int ((p1 &&& (2147483647 : Int32)) % (3 : Int32))), .val (.ref b16), .unset, .unset] [(.ref w_REAL)])) _
        refine XS.astore X35.here hx rfl (hb hby at_63) rfl rfl (l' := #[.val (.int p0), .val (.int p1), .val (.int ((p0 &&& (2147483647 : Int32)) % (3 : Int32))), .val (.int ((p1 &&& (2147483647 : Int32)) % (3 : Int32))), .val (.ref b16), .val (.ref w_REAL), .unset]) rfl ?_
        show Steps p.tables e below (T35.setTop (mkF m 65 #[.val (.int p0), .val (.int p1), .val (.int ((p0 &&& (2147483647 : Int32)) % (3 : Int32))), .val (.int ((p1 &&& (2147483647 : Int32)) % (3 : Int32))), .val (.ref b16), .val (.ref w_REAL), .unset] [])) _
        refine XS.iloadN X35.here hx rfl (hb hby at_65) rfl ?_
        exact k)
      by_cases hs_64 : ((p1 &&& (2147483647 : Int32)) % (3 : Int32)) = (0 : Int32)
      · have q62 : (F_pick ((p1 &&& (2147483647 : Int32)) % (3 : Int32)) w_BOOL w_INT w_REAL) = w_BOOL := by rw [F_pick, if_pos hs_64]
        rw [q62] at st62
        obtain ⟨cq65, kq65, q65a, q65b, q65c⟩ := isOf hZ e62 (E_REAL.ext EX34)
        obtain ⟨_, _, ⟨T65, L65, k65, n65⟩, -, X65, ⟨Lc65, hQ65, l65, y65, z65⟩, st65⟩ := X62.virtualBack hx (y := (⟨"com/example/ferrule/ferrule/model/Type", "accepts", "(Lcom/example/ferrule/ferrule/model/Type;)Z"⟩ : MethodName)) (z := (⟨"com/example/ferrule/ferrule/model/Type", "accepts", "(Lcom/example/ferrule/ferrule/model/Type;)Z"⟩ : MethodName)) hown (mvT hZ (hw _ (List.mem_of_getElem? (i := 9) rfl))) (mvT hZ (hw _ (List.mem_of_getElem? (i := 10) rfl))) (notFace_of_selects (args := #[]) (mvT hZ (hw _ (List.mem_of_getElem? (i := 12) rfl)))) (mvT hZ (hw _ (List.mem_of_getElem? (i := 12) rfl))) (mvT hZ (hw _ (List.mem_of_getElem? (i := 11) rfl))) (by decide) (backOf (W := 0) (rm_acc l Z a0' hw [] w_REAL w_BOOL w_INT w_REAL h34 n0 Z34 (S_INT.ext EX34) (S_REAL.ext EX34)) hZ (hw _ (List.mem_of_getElem? (i := 13) rfl)) (hw _ (List.mem_of_getElem? (i := 7) rfl)) (by decide) (by decide)) q65a q65c (g := (mkF m 75 #[.val (.int p0), .val (.int p1), .val (.int ((p0 &&& (2147483647 : Int32)) % (3 : Int32))), .val (.int ((p1 &&& (2147483647 : Int32)) % (3 : Int32))), .val (.ref b16), .val (.ref w_REAL), .val (.ref w_BOOL)] [(.ref w_BOOL), (.ref w_REAL)])) rfl (by rw [hml]; rfl) (Steps.refl _) (argsL := [(.ref w_BOOL)]) (rest := []) (lenOf own_pd1 rfl) rfl (by show 2 * 0 + _ ≤ _; exact Nat.le_of_eq rfl) (hb hby at_75) (fun _ _ => ⟨rfl, e62, (by decide : 1 + 0 ≤ _), (by decide : 9 + 0 ≤ _)⟩)
        dsimp only [Pt.U, Pt.locs, Pt.cells, Pt.slots] at X65 l65 y65 z65 st65 hQ65
        subst l65 y65 z65
        obtain ⟨rfl, N65q, e65⟩ := hQ65
        have N65 := Fr.app N62 N65q
        have q65 : (F_acc w_REAL w_BOOL w_INT w_REAL) = (0 : Int32) := by rw [F_acc, if_neg ne_BOOL_REAL, if_pos (rfl : w_REAL = w_REAL), if_neg ne_BOOL_INT]
        rw [q65] at st65
        obtain ⟨cl66, Ar66, q66, S66, N66, H66, G66⟩ := V_b16_34
        have hj66 : ((((p0 &&& (2147483647 : Int32)) % (3 : Int32)) * (3 : Int32)) + ((p1 &&& (2147483647 : Int32)) % (3 : Int32))) = (6 : Int32) := by rw [hx61, hs_64]; rfl
        have hin66 : ¬ (((((p0 &&& (2147483647 : Int32)) % (3 : Int32)) * (3 : Int32)) + ((p1 &&& (2147483647 : Int32)) % (3 : Int32))) < 0 ∨ cl66.slots.size ≤ (((((p0 &&& (2147483647 : Int32)) % (3 : Int32)) * (3 : Int32)) + ((p1 &&& (2147483647 : Int32)) % (3 : Int32)))).toNatClampNeg) := by rw [hj66]; exact inb_of S66 ⟨by decide, by decide⟩
        have hat66 : cl66.slots[(((((p0 &&& (2147483647 : Int32)) % (3 : Int32)) * (3 : Int32)) + ((p1 &&& (2147483647 : Int32)) % (3 : Int32)))).toNatClampNeg]? = some (.int (0 : Int32)) := by rw [hj66]; exact H66 6 (by rw [S66]; decide)
        obtain ⟨fs, hr, hrun, hended, hW, hsame⟩ := X65.leave (v := some (.int (1 : Int32))) (fun h => by rw [Bd.returns] at h; cases h)
        refine ⟨_, _, pre63 _ ?_, hrun, hended, _, _, rfl, ?_, ⟨_, rfl⟩, hW, hsame.mono (by decide) (by decide)⟩
        · show Steps p.tables e below (T35.setTop (mkF m 66 #[.val (.int p0), .val (.int p1), .val (.int ((p0 &&& (2147483647 : Int32)) % (3 : Int32))), .val (.int ((p1 &&& (2147483647 : Int32)) % (3 : Int32))), .val (.ref b16), .val (.ref w_REAL), .unset] [(.int ((p1 &&& (2147483647 : Int32)) % (3 : Int32)))])) _
          refine st62 _ ?_
          show Steps p.tables e below (T62.setTop (mkF m 69 #[.val (.int p0), .val (.int p1), .val (.int ((p0 &&& (2147483647 : Int32)) % (3 : Int32))), .val (.int ((p1 &&& (2147483647 : Int32)) % (3 : Int32))), .val (.ref b16), .val (.ref w_REAL), .unset] [(.ref w_BOOL)])) _
          refine XS.astore X62.here hx rfl (hb hby at_69) rfl rfl (l' := #[.val (.int p0), .val (.int p1), .val (.int ((p0 &&& (2147483647 : Int32)) % (3 : Int32))), .val (.int ((p1 &&& (2147483647 : Int32)) % (3 : Int32))), .val (.ref b16), .val (.ref w_REAL), .val (.ref w_BOOL)]) rfl ?_
          show Steps p.tables e below (T62.setTop (mkF m 71 #[.val (.int p0), .val (.int p1), .val (.int ((p0 &&& (2147483647 : Int32)) % (3 : Int32))), .val (.int ((p1 &&& (2147483647 : Int32)) % (3 : Int32))), .val (.ref b16), .val (.ref w_REAL), .val (.ref w_BOOL)] [])) _
          refine XS.aload X62.here hx rfl (hb hby at_71) rfl rfl ?_
          show Steps p.tables e below (T62.setTop (mkF m 73 #[.val (.int p0), .val (.int p1), .val (.int ((p0 &&& (2147483647 : Int32)) % (3 : Int32))), .val (.int ((p1 &&& (2147483647 : Int32)) % (3 : Int32))), .val (.ref b16), .val (.ref w_REAL), .val (.ref w_BOOL)] [(.ref w_REAL)])) _
          refine XS.aload X62.here hx rfl (hb hby at_73) rfl rfl ?_
          show Steps p.tables e below (T62.setTop (mkF m 75 #[.val (.int p0), .val (.int p1), .val (.int ((p0 &&& (2147483647 : Int32)) % (3 : Int32))), .val (.int ((p1 &&& (2147483647 : Int32)) % (3 : Int32))), .val (.ref b16), .val (.ref w_REAL), .val (.ref w_BOOL)] [(.ref w_BOOL), (.ref w_REAL)])) _
          refine st65.trans ?_
          show Steps p.tables e below (T65.setTop (mkF m 78 #[.val (.int p0), .val (.int p1), .val (.int ((p0 &&& (2147483647 : Int32)) % (3 : Int32))), .val (.int ((p1 &&& (2147483647 : Int32)) % (3 : Int32))), .val (.ref b16), .val (.ref w_REAL), .val (.ref w_BOOL)] [(.int (0 : Int32))])) _
          refine XS.aload X65.here hx rfl (hb hby at_78) rfl rfl ?_
          show Steps p.tables e below (T65.setTop (mkF m 80 #[.val (.int p0), .val (.int p1), .val (.int ((p0 &&& (2147483647 : Int32)) % (3 : Int32))), .val (.int ((p1 &&& (2147483647 : Int32)) % (3 : Int32))), .val (.ref b16), .val (.ref w_REAL), .val (.ref w_BOOL)] [(.ref b16), (.int (0 : Int32))])) _
          refine XS.iloadN X65.here hx rfl (hb hby at_80) rfl ?_
          show Steps p.tables e below (T65.setTop (mkF m 81 #[.val (.int p0), .val (.int p1), .val (.int ((p0 &&& (2147483647 : Int32)) % (3 : Int32))), .val (.int ((p1 &&& (2147483647 : Int32)) % (3 : Int32))), .val (.ref b16), .val (.ref w_REAL), .val (.ref w_BOOL)] [(.int ((p0 &&& (2147483647 : Int32)) % (3 : Int32))), (.ref b16), (.int (0 : Int32))])) _
          refine XS.iconst X65.here hx rfl (hb hby at_81) ?_
          show Steps p.tables e below (T65.setTop (mkF m 82 #[.val (.int p0), .val (.int p1), .val (.int ((p0 &&& (2147483647 : Int32)) % (3 : Int32))), .val (.int ((p1 &&& (2147483647 : Int32)) % (3 : Int32))), .val (.ref b16), .val (.ref w_REAL), .val (.ref w_BOOL)] [(.int (3 : Int32)), (.int ((p0 &&& (2147483647 : Int32)) % (3 : Int32))), (.ref b16), (.int (0 : Int32))])) _
          refine XS.imul X65.here hx rfl (hb hby at_82) rfl ?_
          show Steps p.tables e below (T65.setTop (mkF m 83 #[.val (.int p0), .val (.int p1), .val (.int ((p0 &&& (2147483647 : Int32)) % (3 : Int32))), .val (.int ((p1 &&& (2147483647 : Int32)) % (3 : Int32))), .val (.ref b16), .val (.ref w_REAL), .val (.ref w_BOOL)] [(.int (((p0 &&& (2147483647 : Int32)) % (3 : Int32)) * (3 : Int32))), (.ref b16), (.int (0 : Int32))])) _
          refine XS.iloadN X65.here hx rfl (hb hby at_83) rfl ?_
          show Steps p.tables e below (T65.setTop (mkF m 84 #[.val (.int p0), .val (.int p1), .val (.int ((p0 &&& (2147483647 : Int32)) % (3 : Int32))), .val (.int ((p1 &&& (2147483647 : Int32)) % (3 : Int32))), .val (.ref b16), .val (.ref w_REAL), .val (.ref w_BOOL)] [(.int ((p1 &&& (2147483647 : Int32)) % (3 : Int32))), (.int (((p0 &&& (2147483647 : Int32)) % (3 : Int32)) * (3 : Int32))), (.ref b16), (.int (0 : Int32))])) _
          refine XS.iadd X65.here hx rfl (hb hby at_84) rfl ?_
          show Steps p.tables e below (T65.setTop (mkF m 85 #[.val (.int p0), .val (.int p1), .val (.int ((p0 &&& (2147483647 : Int32)) % (3 : Int32))), .val (.int ((p1 &&& (2147483647 : Int32)) % (3 : Int32))), .val (.ref b16), .val (.ref w_REAL), .val (.ref w_BOOL)] [(.int ((((p0 &&& (2147483647 : Int32)) % (3 : Int32)) * (3 : Int32)) + ((p1 &&& (2147483647 : Int32)) % (3 : Int32)))), (.ref b16), (.int (0 : Int32))])) _
          refine X65.baloadBooleans hx (j := ((((p0 &&& (2147483647 : Int32)) % (3 : Int32)) * (3 : Int32)) + ((p1 &&& (2147483647 : Int32)) % (3 : Int32)))) (v := (.int (0 : Int32))) (by rw [e65]; exact Ar66.1) (State.isArrayOf_alike hZ.alike Ar66.2.1) Ar66.2.2 hin66 hat66 (g := (mkF m 85 #[.val (.int p0), .val (.int p1), .val (.int ((p0 &&& (2147483647 : Int32)) % (3 : Int32))), .val (.int ((p1 &&& (2147483647 : Int32)) % (3 : Int32))), .val (.ref b16), .val (.ref w_REAL), .val (.ref w_BOOL)] [(.int ((((p0 &&& (2147483647 : Int32)) % (3 : Int32)) * (3 : Int32)) + ((p1 &&& (2147483647 : Int32)) % (3 : Int32)))), (.ref b16), (.int (0 : Int32))])) rfl rfl (hb hby at_85) _ ?_
          show Steps p.tables e below (T65.setTop (mkF m 86 #[.val (.int p0), .val (.int p1), .val (.int ((p0 &&& (2147483647 : Int32)) % (3 : Int32))), .val (.int ((p1 &&& (2147483647 : Int32)) % (3 : Int32))), .val (.ref b16), .val (.ref w_REAL), .val (.ref w_BOOL)] [(.int (0 : Int32)), (.int (0 : Int32))])) _
          refine XS.icmpNo X65.here hx rfl (hb hby at_86) rfl (teq (by decide : (0 : Int32) = (0 : Int32))).2 ?_
          show Steps p.tables e below (T65.setTop (mkF m 89 #[.val (.int p0), .val (.int p1), .val (.int ((p0 &&& (2147483647 : Int32)) % (3 : Int32))), .val (.int ((p1 &&& (2147483647 : Int32)) % (3 : Int32))), .val (.ref b16), .val (.ref w_REAL), .val (.ref w_BOOL)] [])) _
          refine XS.iconst X65.here hx rfl (hb hby at_89) ?_
          show Steps p.tables e below (T65.setTop (mkF m 90 #[.val (.int p0), .val (.int p1), .val (.int ((p0 &&& (2147483647 : Int32)) % (3 : Int32))), .val (.int ((p1 &&& (2147483647 : Int32)) % (3 : Int32))), .val (.ref b16), .val (.ref w_REAL), .val (.ref w_BOOL)] [(.int (1 : Int32))])) _
          refine XS.goto X65.here hx rfl (pc0 := 90) (pc' := 94) rfl (hb hby at_90) (by decide) (by decide) ?_
          show Steps p.tables e below (T65.setTop (mkF m 94 #[.val (.int p0), .val (.int p1), .val (.int ((p0 &&& (2147483647 : Int32)) % (3 : Int32))), .val (.int ((p1 &&& (2147483647 : Int32)) % (3 : Int32))), .val (.ref b16), .val (.ref w_REAL), .val (.ref w_BOOL)] [(.int (1 : Int32))])) _
          exact retN X65 hx (t := .boolean) Bd.returns (by simp) (hb hby at_94) hr
        · show Q_law Z p0 p1 w_BOOL w_INT w_REAL h0 n0 _ T65.heap _
          refine ⟨?_, N65, trivial⟩
          rw [F_law, if_neg hs_37, if_neg hs_49, if_pos hs_64]
      · by_cases hs_67 : ((p1 &&& (2147483647 : Int32)) % (3 : Int32)) = (1 : Int32)
        · have q62 : (F_pick ((p1 &&& (2147483647 : Int32)) % (3 : Int32)) w_BOOL w_INT w_REAL) = w_INT := by rw [F_pick, if_neg hs_64, if_pos hs_67]
          rw [q62] at st62
          obtain ⟨cq68, kq68, q68a, q68b, q68c⟩ := isOf hZ e62 (E_REAL.ext EX34)
          obtain ⟨_, _, ⟨T68, L68, k68, n68⟩, -, X68, ⟨Lc68, hQ68, l68, y68, z68⟩, st68⟩ := X62.virtualBack hx (y := (⟨"com/example/ferrule/ferrule/model/Type", "accepts", "(Lcom/example/ferrule/ferrule/model/Type;)Z"⟩ : MethodName)) (z := (⟨"com/example/ferrule/ferrule/model/Type", "accepts", "(Lcom/example/ferrule/ferrule/model/Type;)Z"⟩ : MethodName)) hown (mvT hZ (hw _ (List.mem_of_getElem? (i := 9) rfl))) (mvT hZ (hw _ (List.mem_of_getElem? (i := 10) rfl))) (notFace_of_selects (args := #[]) (mvT hZ (hw _ (List.mem_of_getElem? (i := 12) rfl)))) (mvT hZ (hw _ (List.mem_of_getElem? (i := 12) rfl))) (mvT hZ (hw _ (List.mem_of_getElem? (i := 11) rfl))) (by decide) (backOf (W := 0) (rm_acc l Z a0' hw [] w_REAL w_INT w_INT w_REAL h34 n0 Z34 (S_INT.ext EX34) (S_REAL.ext EX34)) hZ (hw _ (List.mem_of_getElem? (i := 13) rfl)) (hw _ (List.mem_of_getElem? (i := 7) rfl)) (by decide) (by decide)) q68a q68c (g := (mkF m 75 #[.val (.int p0), .val (.int p1), .val (.int ((p0 &&& (2147483647 : Int32)) % (3 : Int32))), .val (.int ((p1 &&& (2147483647 : Int32)) % (3 : Int32))), .val (.ref b16), .val (.ref w_REAL), .val (.ref w_INT)] [(.ref w_INT), (.ref w_REAL)])) rfl (by rw [hml]; rfl) (Steps.refl _) (argsL := [(.ref w_INT)]) (rest := []) (lenOf own_pd1 rfl) rfl (by show 2 * 0 + _ ≤ _; exact Nat.le_of_eq rfl) (hb hby at_75) (fun _ _ => ⟨rfl, e62, (by decide : 1 + 0 ≤ _), (by decide : 9 + 0 ≤ _)⟩)
          dsimp only [Pt.U, Pt.locs, Pt.cells, Pt.slots] at X68 l68 y68 z68 st68 hQ68
          subst l68 y68 z68
          obtain ⟨rfl, N68q, e68⟩ := hQ68
          have N68 := Fr.app N62 N68q
          have q68 : (F_acc w_REAL w_INT w_INT w_REAL) = (1 : Int32) := by rw [F_acc, if_neg ne_INT_REAL, if_pos (rfl : w_REAL = w_REAL), if_pos (rfl : w_INT = w_INT)]
          rw [q68] at st68
          obtain ⟨cl69, Ar69, q69, S69, N69, H69, G69⟩ := V_b16_34
          have hj69 : ((((p0 &&& (2147483647 : Int32)) % (3 : Int32)) * (3 : Int32)) + ((p1 &&& (2147483647 : Int32)) % (3 : Int32))) = (7 : Int32) := by rw [hx61, hs_67]; rfl
          have hin69 : ¬ (((((p0 &&& (2147483647 : Int32)) % (3 : Int32)) * (3 : Int32)) + ((p1 &&& (2147483647 : Int32)) % (3 : Int32))) < 0 ∨ cl69.slots.size ≤ (((((p0 &&& (2147483647 : Int32)) % (3 : Int32)) * (3 : Int32)) + ((p1 &&& (2147483647 : Int32)) % (3 : Int32)))).toNatClampNeg) := by rw [hj69]; exact inb_of S69 ⟨by decide, by decide⟩
          have hat69 : cl69.slots[(((((p0 &&& (2147483647 : Int32)) % (3 : Int32)) * (3 : Int32)) + ((p1 &&& (2147483647 : Int32)) % (3 : Int32)))).toNatClampNeg]? = some (.int (1 : Int32)) := by rw [hj69]; exact H69 7 (by rw [S69]; decide)
          obtain ⟨fs, hr, hrun, hended, hW, hsame⟩ := X68.leave (v := some (.int (1 : Int32))) (fun h => by rw [Bd.returns] at h; cases h)
          refine ⟨_, _, pre63 _ ?_, hrun, hended, _, _, rfl, ?_, ⟨_, rfl⟩, hW, hsame.mono (by decide) (by decide)⟩
          · show Steps p.tables e below (T35.setTop (mkF m 66 #[.val (.int p0), .val (.int p1), .val (.int ((p0 &&& (2147483647 : Int32)) % (3 : Int32))), .val (.int ((p1 &&& (2147483647 : Int32)) % (3 : Int32))), .val (.ref b16), .val (.ref w_REAL), .unset] [(.int ((p1 &&& (2147483647 : Int32)) % (3 : Int32)))])) _
            refine st62 _ ?_
            show Steps p.tables e below (T62.setTop (mkF m 69 #[.val (.int p0), .val (.int p1), .val (.int ((p0 &&& (2147483647 : Int32)) % (3 : Int32))), .val (.int ((p1 &&& (2147483647 : Int32)) % (3 : Int32))), .val (.ref b16), .val (.ref w_REAL), .unset] [(.ref w_INT)])) _
            refine XS.astore X62.here hx rfl (hb hby at_69) rfl rfl (l' := #[.val (.int p0), .val (.int p1), .val (.int ((p0 &&& (2147483647 : Int32)) % (3 : Int32))), .val (.int ((p1 &&& (2147483647 : Int32)) % (3 : Int32))), .val (.ref b16), .val (.ref w_REAL), .val (.ref w_INT)]) rfl ?_
            show Steps p.tables e below (T62.setTop (mkF m 71 #[.val (.int p0), .val (.int p1), .val (.int ((p0 &&& (2147483647 : Int32)) % (3 : Int32))), .val (.int ((p1 &&& (2147483647 : Int32)) % (3 : Int32))), .val (.ref b16), .val (.ref w_REAL), .val (.ref w_INT)] [])) _
            refine XS.aload X62.here hx rfl (hb hby at_71) rfl rfl ?_
            show Steps p.tables e below (T62.setTop (mkF m 73 #[.val (.int p0), .val (.int p1), .val (.int ((p0 &&& (2147483647 : Int32)) % (3 : Int32))), .val (.int ((p1 &&& (2147483647 : Int32)) % (3 : Int32))), .val (.ref b16), .val (.ref w_REAL), .val (.ref w_INT)] [(.ref w_REAL)])) _
            refine XS.aload X62.here hx rfl (hb hby at_73) rfl rfl ?_
            show Steps p.tables e below (T62.setTop (mkF m 75 #[.val (.int p0), .val (.int p1), .val (.int ((p0 &&& (2147483647 : Int32)) % (3 : Int32))), .val (.int ((p1 &&& (2147483647 : Int32)) % (3 : Int32))), .val (.ref b16), .val (.ref w_REAL), .val (.ref w_INT)] [(.ref w_INT), (.ref w_REAL)])) _
            refine st68.trans ?_
            show Steps p.tables e below (T68.setTop (mkF m 78 #[.val (.int p0), .val (.int p1), .val (.int ((p0 &&& (2147483647 : Int32)) % (3 : Int32))), .val (.int ((p1 &&& (2147483647 : Int32)) % (3 : Int32))), .val (.ref b16), .val (.ref w_REAL), .val (.ref w_INT)] [(.int (1 : Int32))])) _
            refine XS.aload X68.here hx rfl (hb hby at_78) rfl rfl ?_
            show Steps p.tables e below (T68.setTop (mkF m 80 #[.val (.int p0), .val (.int p1), .val (.int ((p0 &&& (2147483647 : Int32)) % (3 : Int32))), .val (.int ((p1 &&& (2147483647 : Int32)) % (3 : Int32))), .val (.ref b16), .val (.ref w_REAL), .val (.ref w_INT)] [(.ref b16), (.int (1 : Int32))])) _
            refine XS.iloadN X68.here hx rfl (hb hby at_80) rfl ?_
            show Steps p.tables e below (T68.setTop (mkF m 81 #[.val (.int p0), .val (.int p1), .val (.int ((p0 &&& (2147483647 : Int32)) % (3 : Int32))), .val (.int ((p1 &&& (2147483647 : Int32)) % (3 : Int32))), .val (.ref b16), .val (.ref w_REAL), .val (.ref w_INT)] [(.int ((p0 &&& (2147483647 : Int32)) % (3 : Int32))), (.ref b16), (.int (1 : Int32))])) _
            refine XS.iconst X68.here hx rfl (hb hby at_81) ?_
            show Steps p.tables e below (T68.setTop (mkF m 82 #[.val (.int p0), .val (.int p1), .val (.int ((p0 &&& (2147483647 : Int32)) % (3 : Int32))), .val (.int ((p1 &&& (2147483647 : Int32)) % (3 : Int32))), .val (.ref b16), .val (.ref w_REAL), .val (.ref w_INT)] [(.int (3 : Int32)), (.int ((p0 &&& (2147483647 : Int32)) % (3 : Int32))), (.ref b16), (.int (1 : Int32))])) _
            refine XS.imul X68.here hx rfl (hb hby at_82) rfl ?_
            show Steps p.tables e below (T68.setTop (mkF m 83 #[.val (.int p0), .val (.int p1), .val (.int ((p0 &&& (2147483647 : Int32)) % (3 : Int32))), .val (.int ((p1 &&& (2147483647 : Int32)) % (3 : Int32))), .val (.ref b16), .val (.ref w_REAL), .val (.ref w_INT)] [(.int (((p0 &&& (2147483647 : Int32)) % (3 : Int32)) * (3 : Int32))), (.ref b16), (.int (1 : Int32))])) _
            refine XS.iloadN X68.here hx rfl (hb hby at_83) rfl ?_
            show Steps p.tables e below (T68.setTop (mkF m 84 #[.val (.int p0), .val (.int p1), .val (.int ((p0 &&& (2147483647 : Int32)) % (3 : Int32))), .val (.int ((p1 &&& (2147483647 : Int32)) % (3 : Int32))), .val (.ref b16), .val (.ref w_REAL), .val (.ref w_INT)] [(.int ((p1 &&& (2147483647 : Int32)) % (3 : Int32))), (.int (((p0 &&& (2147483647 : Int32)) % (3 : Int32)) * (3 : Int32))), (.ref b16), (.int (1 : Int32))])) _
            refine XS.iadd X68.here hx rfl (hb hby at_84) rfl ?_
            show Steps p.tables e below (T68.setTop (mkF m 85 #[.val (.int p0), .val (.int p1), .val (.int ((p0 &&& (2147483647 : Int32)) % (3 : Int32))), .val (.int ((p1 &&& (2147483647 : Int32)) % (3 : Int32))), .val (.ref b16), .val (.ref w_REAL), .val (.ref w_INT)] [(.int ((((p0 &&& (2147483647 : Int32)) % (3 : Int32)) * (3 : Int32)) + ((p1 &&& (2147483647 : Int32)) % (3 : Int32)))), (.ref b16), (.int (1 : Int32))])) _
            refine X68.baloadBooleans hx (j := ((((p0 &&& (2147483647 : Int32)) % (3 : Int32)) * (3 : Int32)) + ((p1 &&& (2147483647 : Int32)) % (3 : Int32)))) (v := (.int (1 : Int32))) (by rw [e68]; exact Ar69.1) (State.isArrayOf_alike hZ.alike Ar69.2.1) Ar69.2.2 hin69 hat69 (g := (mkF m 85 #[.val (.int p0), .val (.int p1), .val (.int ((p0 &&& (2147483647 : Int32)) % (3 : Int32))), .val (.int ((p1 &&& (2147483647 : Int32)) % (3 : Int32))), .val (.ref b16), .val (.ref w_REAL), .val (.ref w_INT)] [(.int ((((p0 &&& (2147483647 : Int32)) % (3 : Int32)) * (3 : Int32)) + ((p1 &&& (2147483647 : Int32)) % (3 : Int32)))), (.ref b16), (.int (1 : Int32))])) rfl rfl (hb hby at_85) _ ?_
            show Steps p.tables e below (T68.setTop (mkF m 86 #[.val (.int p0), .val (.int p1), .val (.int ((p0 &&& (2147483647 : Int32)) % (3 : Int32))), .val (.int ((p1 &&& (2147483647 : Int32)) % (3 : Int32))), .val (.ref b16), .val (.ref w_REAL), .val (.ref w_INT)] [(.int (1 : Int32)), (.int (1 : Int32))])) _
            refine XS.icmpNo X68.here hx rfl (hb hby at_86) rfl (teq (by decide : (1 : Int32) = (1 : Int32))).2 ?_
            show Steps p.tables e below (T68.setTop (mkF m 89 #[.val (.int p0), .val (.int p1), .val (.int ((p0 &&& (2147483647 : Int32)) % (3 : Int32))), .val (.int ((p1 &&& (2147483647 : Int32)) % (3 : Int32))), .val (.ref b16), .val (.ref w_REAL), .val (.ref w_INT)] [])) _
            refine XS.iconst X68.here hx rfl (hb hby at_89) ?_
            show Steps p.tables e below (T68.setTop (mkF m 90 #[.val (.int p0), .val (.int p1), .val (.int ((p0 &&& (2147483647 : Int32)) % (3 : Int32))), .val (.int ((p1 &&& (2147483647 : Int32)) % (3 : Int32))), .val (.ref b16), .val (.ref w_REAL), .val (.ref w_INT)] [(.int (1 : Int32))])) _
            refine XS.goto X68.here hx rfl (pc0 := 90) (pc' := 94) rfl (hb hby at_90) (by decide) (by decide) ?_
            show Steps p.tables e below (T68.setTop (mkF m 94 #[.val (.int p0), .val (.int p1), .val (.int ((p0 &&& (2147483647 : Int32)) % (3 : Int32))), .val (.int ((p1 &&& (2147483647 : Int32)) % (3 : Int32))), .val (.ref b16), .val (.ref w_REAL), .val (.ref w_INT)] [(.int (1 : Int32))])) _
            exact retN X68 hx (t := .boolean) Bd.returns (by simp) (hb hby at_94) hr
          · show Q_law Z p0 p1 w_BOOL w_INT w_REAL h0 n0 _ T68.heap _
            refine ⟨?_, N68, trivial⟩
            rw [F_law, if_neg hs_37, if_neg hs_49, if_neg hs_64, if_pos hs_67]
        · have q62 : (F_pick ((p1 &&& (2147483647 : Int32)) % (3 : Int32)) w_BOOL w_INT w_REAL) = w_REAL := by rw [F_pick, if_neg hs_64, if_neg hs_67]
          rw [q62] at st62
          have hx70 : ((p1 &&& (2147483647 : Int32)) % (3 : Int32)) = (2 : Int32) := by rcases own_idx p1 with q | q | q <;> first | exact absurd q hs_64 | exact absurd q hs_67 | exact q
          obtain ⟨cq71, kq71, q71a, q71b, q71c⟩ := isOf hZ e62 (E_REAL.ext EX34)
          obtain ⟨_, _, ⟨T71, L71, k71, n71⟩, -, X71, ⟨Lc71, hQ71, l71, y71, z71⟩, st71⟩ := X62.virtualBack hx (y := (⟨"com/example/ferrule/ferrule/model/Type", "accepts", "(Lcom/example/ferrule/ferrule/model/Type;)Z"⟩ : MethodName)) (z := (⟨"com/example/ferrule/ferrule/model/Type", "accepts", "(Lcom/example/ferrule/ferrule/model/Type;)Z"⟩ : MethodName)) hown (mvT hZ (hw _ (List.mem_of_getElem? (i := 9) rfl))) (mvT hZ (hw _ (List.mem_of_getElem? (i := 10) rfl))) (notFace_of_selects (args := #[]) (mvT hZ (hw _ (List.mem_of_getElem? (i := 12) rfl)))) (mvT hZ (hw _ (List.mem_of_getElem? (i := 12) rfl))) (mvT hZ (hw _ (List.mem_of_getElem? (i := 11) rfl))) (by decide) (backOf (W := 0) (rm_acc l Z a0' hw [] w_REAL w_REAL w_INT w_REAL h34 n0 Z34 (S_INT.ext EX34) (S_REAL.ext EX34)) hZ (hw _ (List.mem_of_getElem? (i := 13) rfl)) (hw _ (List.mem_of_getElem? (i := 7) rfl)) (by decide) (by decide)) q71a q71c (g := (mkF m 75 #[.val (.int p0), .val (.int p1), .val (.int ((p0 &&& (2147483647 : Int32)) % (3 : Int32))), .val (.int ((p1 &&& (2147483647 : Int32)) % (3 : Int32))), .val (.ref b16), .val (.ref w_REAL), .val (.ref w_REAL)] [(.ref w_REAL), (.ref w_REAL)])) rfl (by rw [hml]; rfl) (Steps.refl _) (argsL := [(.ref w_REAL)]) (rest := []) (lenOf own_pd1 rfl) rfl (by show 2 * 0 + _ ≤ _; exact Nat.le_of_eq rfl) (hb hby at_75) (fun _ _ => ⟨rfl, e62, (by decide : 1 + 0 ≤ _), (by decide : 9 + 0 ≤ _)⟩)
          dsimp only [Pt.U, Pt.locs, Pt.cells, Pt.slots] at X71 l71 y71 z71 st71 hQ71
          subst l71 y71 z71
          obtain ⟨rfl, N71q, e71⟩ := hQ71
          have N71 := Fr.app N62 N71q
          have q71 : (F_acc w_REAL w_REAL w_INT w_REAL) = (1 : Int32) := by rw [F_acc, if_pos (rfl : w_REAL = w_REAL)]
          rw [q71] at st71
          obtain ⟨cl72, Ar72, q72, S72, N72, H72, G72⟩ := V_b16_34
          have hj72 : ((((p0 &&& (2147483647 : Int32)) % (3 : Int32)) * (3 : Int32)) + ((p1 &&& (2147483647 : Int32)) % (3 : Int32))) = (8 : Int32) := by rw [hx61, hx70]; rfl
          have hin72 : ¬ (((((p0 &&& (2147483647 : Int32)) % (3 : Int32)) * (3 : Int32)) + ((p1 &&& (2147483647 : Int32)) % (3 : Int32))) < 0 ∨ cl72.slots.size ≤ (((((p0 &&& (2147483647 : Int32)) % (3 : Int32)) * (3 : Int32)) + ((p1 &&& (2147483647 : Int32)) % (3 : Int32)))).toNatClampNeg) := by rw [hj72]; exact inb_of S72 ⟨by decide, by decide⟩
          have hat72 : cl72.slots[(((((p0 &&& (2147483647 : Int32)) % (3 : Int32)) * (3 : Int32)) + ((p1 &&& (2147483647 : Int32)) % (3 : Int32)))).toNatClampNeg]? = some (.int (1 : Int32)) := by rw [hj72]; exact H72 8 (by rw [S72]; decide)
          obtain ⟨fs, hr, hrun, hended, hW, hsame⟩ := X71.leave (v := some (.int (1 : Int32))) (fun h => by rw [Bd.returns] at h; cases h)
          refine ⟨_, _, pre63 _ ?_, hrun, hended, _, _, rfl, ?_, ⟨_, rfl⟩, hW, hsame.mono (by decide) (by decide)⟩
          · show Steps p.tables e below (T35.setTop (mkF m 66 #[.val (.int p0), .val (.int p1), .val (.int ((p0 &&& (2147483647 : Int32)) % (3 : Int32))), .val (.int ((p1 &&& (2147483647 : Int32)) % (3 : Int32))), .val (.ref b16), .val (.ref w_REAL), .unset] [(.int ((p1 &&& (2147483647 : Int32)) % (3 : Int32)))])) _
            refine st62 _ ?_
            show Steps p.tables e below (T62.setTop (mkF m 69 #[.val (.int p0), .val (.int p1), .val (.int ((p0 &&& (2147483647 : Int32)) % (3 : Int32))), .val (.int ((p1 &&& (2147483647 : Int32)) % (3 : Int32))), .val (.ref b16), .val (.ref w_REAL), .unset] [(.ref w_REAL)])) _
            refine XS.astore X62.here hx rfl (hb hby at_69) rfl rfl (l' := #[.val (.int p0), .val (.int p1), .val (.int ((p0 &&& (2147483647 : Int32)) % (3 : Int32))), .val (.int ((p1 &&& (2147483647 : Int32)) % (3 : Int32))), .val (.ref b16), .val (.ref w_REAL), .val (.ref w_REAL)]) rfl ?_
            show Steps p.tables e below (T62.setTop (mkF m 71 #[.val (.int p0), .val (.int p1), .val (.int ((p0 &&& (2147483647 : Int32)) % (3 : Int32))), .val (.int ((p1 &&& (2147483647 : Int32)) % (3 : Int32))), .val (.ref b16), .val (.ref w_REAL), .val (.ref w_REAL)] [])) _
            refine XS.aload X62.here hx rfl (hb hby at_71) rfl rfl ?_
            show Steps p.tables e below (T62.setTop (mkF m 73 #[.val (.int p0), .val (.int p1), .val (.int ((p0 &&& (2147483647 : Int32)) % (3 : Int32))), .val (.int ((p1 &&& (2147483647 : Int32)) % (3 : Int32))), .val (.ref b16), .val (.ref w_REAL), .val (.ref w_REAL)] [(.ref w_REAL)])) _
            refine XS.aload X62.here hx rfl (hb hby at_73) rfl rfl ?_
            show Steps p.tables e below (T62.setTop (mkF m 75 #[.val (.int p0), .val (.int p1), .val (.int ((p0 &&& (2147483647 : Int32)) % (3 : Int32))), .val (.int ((p1 &&& (2147483647 : Int32)) % (3 : Int32))), .val (.ref b16), .val (.ref w_REAL), .val (.ref w_REAL)] [(.ref w_REAL), (.ref w_REAL)])) _
            refine st71.trans ?_
            show Steps p.tables e below (T71.setTop (mkF m 78 #[.val (.int p0), .val (.int p1), .val (.int ((p0 &&& (2147483647 : Int32)) % (3 : Int32))), .val (.int ((p1 &&& (2147483647 : Int32)) % (3 : Int32))), .val (.ref b16), .val (.ref w_REAL), .val (.ref w_REAL)] [(.int (1 : Int32))])) _
            refine XS.aload X71.here hx rfl (hb hby at_78) rfl rfl ?_
            show Steps p.tables e below (T71.setTop (mkF m 80 #[.val (.int p0), .val (.int p1), .val (.int ((p0 &&& (2147483647 : Int32)) % (3 : Int32))), .val (.int ((p1 &&& (2147483647 : Int32)) % (3 : Int32))), .val (.ref b16), .val (.ref w_REAL), .val (.ref w_REAL)] [(.ref b16), (.int (1 : Int32))])) _
            refine XS.iloadN X71.here hx rfl (hb hby at_80) rfl ?_
            show Steps p.tables e below (T71.setTop (mkF m 81 #[.val (.int p0), .val (.int p1), .val (.int ((p0 &&& (2147483647 : Int32)) % (3 : Int32))), .val (.int ((p1 &&& (2147483647 : Int32)) % (3 : Int32))), .val (.ref b16), .val (.ref w_REAL), .val (.ref w_REAL)] [(.int ((p0 &&& (2147483647 : Int32)) % (3 : Int32))), (.ref b16), (.int (1 : Int32))])) _
            refine XS.iconst X71.here hx rfl (hb hby at_81) ?_
            show Steps p.tables e below (T71.setTop (mkF m 82 #[.val (.int p0), .val (.int p1), .val (.int ((p0 &&& (2147483647 : Int32)) % (3 : Int32))), .val (.int ((p1 &&& (2147483647 : Int32)) % (3 : Int32))), .val (.ref b16), .val (.ref w_REAL), .val (.ref w_REAL)] [(.int (3 : Int32)), (.int ((p0 &&& (2147483647 : Int32)) % (3 : Int32))), (.ref b16), (.int (1 : Int32))])) _
            refine XS.imul X71.here hx rfl (hb hby at_82) rfl ?_
            show Steps p.tables e below (T71.setTop (mkF m 83 #[.val (.int p0), .val (.int p1), .val (.int ((p0 &&& (2147483647 : Int32)) % (3 : Int32))), .val (.int ((p1 &&& (2147483647 : Int32)) % (3 : Int32))), .val (.ref b16), .val (.ref w_REAL), .val (.ref w_REAL)] [(.int (((p0 &&& (2147483647 : Int32)) % (3 : Int32)) * (3 : Int32))), (.ref b16), (.int (1 : Int32))])) _
            refine XS.iloadN X71.here hx rfl (hb hby at_83) rfl ?_
            show Steps p.tables e below (T71.setTop (mkF m 84 #[.val (.int p0), .val (.int p1), .val (.int ((p0 &&& (2147483647 : Int32)) % (3 : Int32))), .val (.int ((p1 &&& (2147483647 : Int32)) % (3 : Int32))), .val (.ref b16), .val (.ref w_REAL), .val (.ref w_REAL)] [(.int ((p1 &&& (2147483647 : Int32)) % (3 : Int32))), (.int (((p0 &&& (2147483647 : Int32)) % (3 : Int32)) * (3 : Int32))), (.ref b16), (.int (1 : Int32))])) _
            refine XS.iadd X71.here hx rfl (hb hby at_84) rfl ?_
            show Steps p.tables e below (T71.setTop (mkF m 85 #[.val (.int p0), .val (.int p1), .val (.int ((p0 &&& (2147483647 : Int32)) % (3 : Int32))), .val (.int ((p1 &&& (2147483647 : Int32)) % (3 : Int32))), .val (.ref b16), .val (.ref w_REAL), .val (.ref w_REAL)] [(.int ((((p0 &&& (2147483647 : Int32)) % (3 : Int32)) * (3 : Int32)) + ((p1 &&& (2147483647 : Int32)) % (3 : Int32)))), (.ref b16), (.int (1 : Int32))])) _
            refine X71.baloadBooleans hx (j := ((((p0 &&& (2147483647 : Int32)) % (3 : Int32)) * (3 : Int32)) + ((p1 &&& (2147483647 : Int32)) % (3 : Int32)))) (v := (.int (1 : Int32))) (by rw [e71]; exact Ar72.1) (State.isArrayOf_alike hZ.alike Ar72.2.1) Ar72.2.2 hin72 hat72 (g := (mkF m 85 #[.val (.int p0), .val (.int p1), .val (.int ((p0 &&& (2147483647 : Int32)) % (3 : Int32))), .val (.int ((p1 &&& (2147483647 : Int32)) % (3 : Int32))), .val (.ref b16), .val (.ref w_REAL), .val (.ref w_REAL)] [(.int ((((p0 &&& (2147483647 : Int32)) % (3 : Int32)) * (3 : Int32)) + ((p1 &&& (2147483647 : Int32)) % (3 : Int32)))), (.ref b16), (.int (1 : Int32))])) rfl rfl (hb hby at_85) _ ?_
            show Steps p.tables e below (T71.setTop (mkF m 86 #[.val (.int p0), .val (.int p1), .val (.int ((p0 &&& (2147483647 : Int32)) % (3 : Int32))), .val (.int ((p1 &&& (2147483647 : Int32)) % (3 : Int32))), .val (.ref b16), .val (.ref w_REAL), .val (.ref w_REAL)] [(.int (1 : Int32)), (.int (1 : Int32))])) _
            refine XS.icmpNo X71.here hx rfl (hb hby at_86) rfl (teq (by decide : (1 : Int32) = (1 : Int32))).2 ?_
            show Steps p.tables e below (T71.setTop (mkF m 89 #[.val (.int p0), .val (.int p1), .val (.int ((p0 &&& (2147483647 : Int32)) % (3 : Int32))), .val (.int ((p1 &&& (2147483647 : Int32)) % (3 : Int32))), .val (.ref b16), .val (.ref w_REAL), .val (.ref w_REAL)] [])) _
            refine XS.iconst X71.here hx rfl (hb hby at_89) ?_
            show Steps p.tables e below (T71.setTop (mkF m 90 #[.val (.int p0), .val (.int p1), .val (.int ((p0 &&& (2147483647 : Int32)) % (3 : Int32))), .val (.int ((p1 &&& (2147483647 : Int32)) % (3 : Int32))), .val (.ref b16), .val (.ref w_REAL), .val (.ref w_REAL)] [(.int (1 : Int32))])) _
            refine XS.goto X71.here hx rfl (pc0 := 90) (pc' := 94) rfl (hb hby at_90) (by decide) (by decide) ?_
            show Steps p.tables e below (T71.setTop (mkF m 94 #[.val (.int p0), .val (.int p1), .val (.int ((p0 &&& (2147483647 : Int32)) % (3 : Int32))), .val (.int ((p1 &&& (2147483647 : Int32)) % (3 : Int32))), .val (.ref b16), .val (.ref w_REAL), .val (.ref w_REAL)] [(.int (1 : Int32))])) _
            exact retN X71 hx (t := .boolean) Bd.returns (by simp) (hb hby at_94) hr
          · show Q_law Z p0 p1 w_BOOL w_INT w_REAL h0 n0 _ T71.heap _
            refine ⟨?_, N71, trivial⟩
            rw [F_law, if_neg hs_37, if_neg hs_49, if_neg hs_64, if_neg hs_67]
theorem own_law (p0 : Int32) (p1 : Int32) : F_law p0 p1 = 1 := by
  unfold F_law
  repeat' split
  all_goals rfl
set_option maxRecDepth 65536 in
set_option maxHeartbeats 40000000 in
theorem own_comes {Post : Tables → Env → Array Value → State → Outcome → State → Prop} (hpost : ∀ tb e args s v u, (limb_1_1.after args s (.returned v) u = true ∧ limb_1_2.after args s (.returned v) u = true ∧ True) → FrameEnd s (.returned v) u (Jvm.fieldLocs frame_1_writes args s ++ Jvm.arrayLocs frame_1_arrays args s ++ Jvm.staticLocs frame_1_statics s) 16 128 → Post tb e args s (.returned v) u) :
    ArmFor flags0 classFile x code maxLocals ret World_1 tables_1 room_1 Calls_1 rest_1 Pre_1 Post := by
  intro l hfl _ _ p e ha hc hk s m args below hf hA hF happ hP
  obtain ⟨hcalls, hrest, hpre⟩ := hP
  obtain ⟨-, -, -, hnamed, -, -, -, hat⟩ := (Spec.applies_iff hf).mp happ
  obtain ⟨hg, hn⟩ := and_e (Cond.before_iff.mp (show (Jvm.Cond.and given_1 narrow_1).before args s = true from hpre))
  obtain ⟨g1, g1'⟩ := and_e hg
  obtain ⟨g2, g2'⟩ := and_e g1'
  obtain ⟨g3, g3'⟩ := and_e hn
  obtain ⟨g4, g4'⟩ := and_e g3'
  obtain ⟨g5, g5'⟩ := and_e g4'
  obtain ⟨g6, g6'⟩ := and_e g5'
  obtain ⟨g7, g7'⟩ := and_e g6'
  obtain ⟨u0, u1, rfl⟩ : ∃ u0 u1 : Value, args = #[u0, u1] := by
    have hs : args.size = 2 := by simpa [Cond.value, given_1] using g1
    obtain ⟨L⟩ := args
    match L, hs with
    | [u0, u1], _ => exact ⟨u0, u1, rfl⟩
  have hw := fun d (hd : d ∈ tables_1) => atoms_spec (ws := Jvm.Cond.code x code maxLocals ret :: tables_1) hat d (List.mem_cons_of_mem _ hd)
  obtain ⟨i0, ei0⟩ := is_v g2
  obtain rfl : u0 = (.int i0) := Option.some.inj ei0
  obtain ⟨i1, ei1⟩ := is_v g2'
  obtain rfl : u1 = (.int i1) := Option.some.inj ei1
  obtain ⟨w_BOOL, ev_BOOL⟩ := exa_v g3
  have E_BOOL := Exa.start ev_BOOL g3
  have S_BOOL := Sta.start ev_BOOL (Or.inr ⟨(hw _ (List.mem_of_getElem? (i := 7) rfl)), (hw _ (List.mem_of_getElem? (i := 8) rfl))⟩)
  obtain ⟨w_REAL, ev_REAL⟩ := exa_v g4
  have E_REAL := Exa.start ev_REAL g4
  have S_REAL := Sta.start ev_REAL (Or.inr ⟨(hw _ (List.mem_of_getElem? (i := 7) rfl)), (hw _ (List.mem_of_getElem? (i := 15) rfl))⟩)
  obtain ⟨w_INT, ev_INT⟩ := exa_v g5
  have E_INT := Exa.start ev_INT g5
  have S_INT := Sta.start ev_INT (Or.inr ⟨(hw _ (List.mem_of_getElem? (i := 7) rfl)), (hw _ (List.mem_of_getElem? (i := 17) rfl))⟩)
  have o_INT := (fld_at ev_INT).symm.trans (own_eqk g6)
  have o_REAL := (fld_at ev_REAL).symm.trans (own_eqk g7)
  have o_BOOL := (fld_at ev_BOOL).symm.trans (own_eqk g7')
  have ne_BOOL_INT : ¬ (w_BOOL = w_INT) := fun q => by
    have q2 : s.fieldOf? w_BOOL "java/lang/Enum" "ordinal" "I" = s.fieldOf? w_INT "java/lang/Enum" "ordinal" "I" := by rw [q]
    rw [o_BOOL, o_INT] at q2
    simp at q2
  have ne_BOOL_REAL : ¬ (w_BOOL = w_REAL) := fun q => by
    have q2 : s.fieldOf? w_BOOL "java/lang/Enum" "ordinal" "I" = s.fieldOf? w_REAL "java/lang/Enum" "ordinal" "I" := by rw [q]
    rw [o_BOOL, o_REAL] at q2
    simp at q2
  have ne_INT_BOOL : ¬ (w_INT = w_BOOL) := fun q => by
    have q2 : s.fieldOf? w_INT "java/lang/Enum" "ordinal" "I" = s.fieldOf? w_BOOL "java/lang/Enum" "ordinal" "I" := by rw [q]
    rw [o_INT, o_BOOL] at q2
    simp at q2
  have ne_INT_REAL : ¬ (w_INT = w_REAL) := fun q => by
    have q2 : s.fieldOf? w_INT "java/lang/Enum" "ordinal" "I" = s.fieldOf? w_REAL "java/lang/Enum" "ordinal" "I" := by rw [q]
    rw [o_INT, o_REAL] at q2
    simp at q2
  have ne_REAL_BOOL : ¬ (w_REAL = w_BOOL) := fun q => by
    have q2 : s.fieldOf? w_REAL "java/lang/Enum" "ordinal" "I" = s.fieldOf? w_BOOL "java/lang/Enum" "ordinal" "I" := by rw [q]
    rw [o_REAL, o_BOOL] at q2
    simp at q2
  have ne_REAL_INT : ¬ (w_REAL = w_INT) := fun q => by
    have q2 : s.fieldOf? w_REAL "java/lang/Enum" "ordinal" "I" = s.fieldOf? w_INT "java/lang/Enum" "ordinal" "I" := by rw [q]
    rw [o_REAL, o_INT] at q2
    simp at q2
  have hlaw := own_law i0 i1
  obtain ⟨n, o, h1, h2, h3, v, L, rfl, ⟨hv, N, -⟩, hq⟩ := rm_law l s _ hw tables_1 i0 i1 w_BOOL w_INT w_REAL s.heap s.heap.size (Nat.le_refl _) S_BOOL E_BOOL S_INT E_INT S_REAL E_REAL ne_BOOL_INT ne_BOOL_REAL ne_INT_BOOL ne_INT_REAL ne_REAL_BOOL ne_REAL_INT p e ha hc hk s m _ below hf ((Spec.applies_iff_loose hf).mp happ).1 ⟨rfl, State.Warmed39.refl s, rfl⟩ trivial
  rw [hlaw] at hv
  subst hv
  refine ⟨n, _, h1, h2, h3, hpost _ _ _ _ _ _ ⟨Cond.after_iff.mpr rfl, Cond.after_iff.mpr (eq_i res_at (Term.int_eval (1)) rfl), trivial⟩ ⟨hq.1, hq.2.1, (hq.2.2.sift fun y hy => Or.inr (N y hy)).mono (by decide) (by decide)⟩⟩
theorem main_1_1 : Claimed_1_1 := own_comes fun _ _ _ _ _ _ h hF => ⟨h.1, hF⟩
theorem main_1_2 : Claimed_1_2 := own_comes fun _ _ _ _ _ _ h hF => ⟨h.2.1, hF⟩
end Jvm.Pilot.@@N@@
namespace Jvm.Pilot.@@N@@
open Jvm Jvm.ClassFile Sem Op Lib Jvm.Free Jvm.Stand Jvm.Pilot.@@N@@.Jvm.D
/-! MADE BY PROGRAM (witnessworld.py) out of the Statement's table words and the real class files: 14 classes; the members and pool entries that the words name. The judged class is class 1, her method 2. -/
namespace start1
open Jvm.ClassFile
def u (s : String) : CpInfo := .utf8 (stringToUtf16 s)
/-- a pool by its gaps: so many unusable entries, then the entry; so many at the end -/
def gap : Nat → List CpInfo → List CpInfo
  | 0, r => r
  | n + 1, r => .unusable :: gap n r
def poolList (es : List (Nat × CpInfo)) (last : Nat) : List CpInfo := es.foldr (fun e r => gap e.1 (e.2 :: r)) (gap last [])
def pool (es : List (Nat × CpInfo)) (last : Nat) : Array CpInfo := ⟨poolList es last⟩
def fileOf (pool : Array CpInfo) (this : Nat) (attrs : Array Attribute := #[]) (ms : Array MethodInfo := #[]) (fl : Nat := 33) (sup : Nat := 0) (ifs : Array Nat := #[]) (fds : Array FieldInfo := #[]) : ClassFile where
  minorVersion := 0
  majorVersion := 65
  constantPool := pool
  accessFlags := fl
  thisClass := this
  superClass := sup
  interfaces := ifs
  fields := fds
  methods := ms
  attributes := attrs
def plain (name : String) (sup : Option ClassId) : Class where
  name := name
  kind := .ordinary
  loader := none
  accessFlags := 33
  super := sup
  interfaces := #[]
  cf := none
  fields := #[]
  methods := #[]
  instanceTypes := #[]
  staticTypes := #[]
  resolved := #[]
  callSites := []
  init := .initialized
  statics := none
  mirror := none

def pool0 : Array CpInfo := pool [(5, u "<init>"), (0, u "()V"), (1, .class_ 10), (1, u "java/lang/Object")] 113

def k0m0 : Method := { name := "<init>", desc := "()V", sig := { parameters := [], returnType := none }, accessFlags := 1, code := none }
/-- java/lang/Object -/
def k0 : Class := { plain "java/lang/Object" none with
  accessFlags := 33
  interfaces := #[]
  cf := some (fileOf pool0 8 #[] #[{ accessFlags := 1, nameIndex := 5, descriptorIndex := 6, attributes := #[] }] 33 0 #[] #[])
  fields := #[]
  methods := #[k0m0]
  instanceTypes := #[]
  staticTypes := #[]
  resolved := Array.replicate 124 none
  statics := none }

def pool1 : Array CpInfo := pool [(2, .class_ 4), (1, u "java/lang/Object"), (0, u "<init>"), (0, u "()V"), (0, .fieldref 8 9), (0, .class_ 10), (0, .nameAndType 11 12), (0, u "com/example/ferrule/ferrule/model/Type"), (0, u "BOOL"), (0, u "Lcom/example/ferrule/ferrule/model/Type;"), (0, .fieldref 8 14), (0, .nameAndType 15 12), (0, u "INT"), (0, .fieldref 8 17), (0, .nameAndType 18 12), (0, u "REAL"), (0, .integer 2147483647), (0, .methodref 21 22), (0, .class_ 23), (0, .nameAndType 24 25), (0, u "com/example/ferrule/ferrule/model/TypeAcceptsPinLaw"), (0, u "pick"), (0, u "(I)Lcom/example/ferrule/ferrule/model/Type;"), (0, .methodref 8 27), (0, .nameAndType 28 29), (0, u "accepts"), (0, u "(Lcom/example/ferrule/ferrule/model/Type;)Z"), (3, u "law"), (0, u "(II)Z")] 4

def k1m0 : Method := { name := "<init>", desc := "()V", sig := { parameters := [], returnType := none }, accessFlags := 1, code := none }
def k1c1 : Code := { maxStack := 2, maxLocals := 1, code := method_2_code, exceptionTable := #[], attributes := #[] }
def k1m1 : Method := { name := "pick", desc := "(I)Lcom/example/ferrule/ferrule/model/Type;", sig := { parameters := [.int], returnType := some (.object "com/example/ferrule/ferrule/model/Type") }, accessFlags := 10, code := some k1c1 }
def k1c2 : Code := { maxStack := 4, maxLocals := 7, code := code, exceptionTable := #[], attributes := #[] }
def k1m2 : Method := { name := "law", desc := "(II)Z", sig := { parameters := [.int, .int], returnType := some .boolean }, accessFlags := 9, code := some k1c2 }
/-- com/example/ferrule/ferrule/model/TypeAcceptsPinLaw -/
def k1 : Class := { plain "com/example/ferrule/ferrule/model/TypeAcceptsPinLaw" (some 0) with
  accessFlags := 49
  interfaces := #[]
  cf := some (fileOf pool1 21 #[] #[{ accessFlags := 1, nameIndex := 5, descriptorIndex := 6, attributes := #[] }, { accessFlags := 10, nameIndex := 24, descriptorIndex := 25, attributes := #[] }, { accessFlags := 9, nameIndex := 33, descriptorIndex := 34, attributes := #[] }] 49 2 #[] #[])
  fields := #[]
  methods := #[k1m0, k1m1, k1m2]
  instanceTypes := #[]
  staticTypes := #[]
  resolved := Array.replicate 39 none
  statics := none }

def pool2 : Array CpInfo := pool [(1, .class_ 2), (0, u "java/lang/constant/Constable"), (0, .class_ 4), (0, u "java/lang/Object")] 6

/-- java/lang/constant/Constable -/
def k2 : Class := { plain "java/lang/constant/Constable" (some 0) with
  accessFlags := 1537
  interfaces := #[]
  cf := some (fileOf pool2 1 #[] #[] 1537 3 #[] #[])
  fields := #[]
  methods := #[]
  instanceTypes := #[]
  staticTypes := #[]
  resolved := Array.replicate 11 none
  statics := none }

def pool3 : Array CpInfo := pool [(1, .class_ 2), (0, u "java/lang/Comparable"), (0, .class_ 4), (0, u "java/lang/Object")] 7

/-- java/lang/Comparable -/
def k3 : Class := { plain "java/lang/Comparable" (some 0) with
  accessFlags := 1537
  interfaces := #[]
  cf := some (fileOf pool3 1 #[] #[] 1537 3 #[] #[])
  fields := #[]
  methods := #[]
  instanceTypes := #[]
  staticTypes := #[]
  resolved := Array.replicate 12 none
  statics := none }

def pool4 : Array CpInfo := pool [(1, .class_ 2), (0, u "java/io/Serializable"), (0, .class_ 4), (0, u "java/lang/Object")] 2

/-- java/io/Serializable -/
def k4 : Class := { plain "java/io/Serializable" (some 0) with
  accessFlags := 1537
  interfaces := #[]
  cf := some (fileOf pool4 1 #[] #[] 1537 3 #[] #[])
  fields := #[]
  methods := #[]
  instanceTypes := #[]
  staticTypes := #[]
  resolved := Array.replicate 7 none
  statics := none }

def pool5 : Array CpInfo := pool [(2, .class_ 4), (1, u "java/lang/Enum"), (0, u "name"), (0, u "Ljava/lang/String;"), (2, u "ordinal"), (0, u "I"), (1, .class_ 14), (1, u "java/lang/Object"), (4, u "hash"), (86, .class_ 108), (1, u "java/lang/Enum$EnumDesc"), (2, .class_ 112), (0, u "java/lang/constant/Constable"), (0, .class_ 114), (0, u "java/lang/Comparable"), (0, .class_ 116), (0, u "java/io/Serializable")] 87

/-- java/lang/Enum -/
def k5 : Class := { plain "java/lang/Enum" (some 0) with
  accessFlags := 1057
  interfaces := #[2, 3, 4]
  cf := some (fileOf pool5 2 #[.nestMembers #[106]] #[] 1057 12 #[111, 113, 115] #[{ accessFlags := 18, nameIndex := 5, descriptorIndex := 6, attributes := #[] }, { accessFlags := 18, nameIndex := 9, descriptorIndex := 10, attributes := #[] }, { accessFlags := 2, nameIndex := 19, descriptorIndex := 10, attributes := #[] }])
  fields := #[{ name := "name", type := (.object "java/lang/String"), accessFlags := 18, slot := 0, constantValue := 0 }, { name := "ordinal", type := .int, accessFlags := 18, slot := 1, constantValue := 0 }, { name := "hash", type := .int, accessFlags := 2, slot := 2, constantValue := 0 }]
  methods := #[]
  instanceTypes := #[(.object "java/lang/String"), .int, .int]
  staticTypes := #[]
  resolved := Array.replicate 204 none
  statics := none }

def pool6 : Array CpInfo := pool [(1, .class_ 2), (0, u "com/example/ferrule/ferrule/model/Type"), (2, u "BOOL"), (0, u "Lcom/example/ferrule/ferrule/model/Type;"), (0, .fieldref 1 8), (0, .nameAndType 9 6), (0, u "INT"), (0, .fieldref 1 11), (0, .nameAndType 12 6), (0, u "REAL"), (2, u "$VALUES"), (0, u "[Lcom/example/ferrule/ferrule/model/Type;"), (6, .class_ 25), (1, u "java/lang/Enum"), (49, u "accepts"), (0, u "(Lcom/example/ferrule/ferrule/model/Type;)Z")] 5

def k6c0 : Code := { maxStack := 2, maxLocals := 2, code := prog_57_method_6_code, exceptionTable := #[], attributes := #[] }
def k6m0 : Method := { name := "accepts", desc := "(Lcom/example/ferrule/ferrule/model/Type;)Z", sig := { parameters := [(.object "com/example/ferrule/ferrule/model/Type")], returnType := some .boolean }, accessFlags := 0, code := some k6c0 }
/-- com/example/ferrule/ferrule/model/Type -/
def k6 : Class := { plain "com/example/ferrule/ferrule/model/Type" (some 5) with
  accessFlags := 16433
  interfaces := #[]
  cf := some (fileOf pool6 1 #[] #[{ accessFlags := 0, nameIndex := 75, descriptorIndex := 76, attributes := #[] }] 16433 23 #[] #[{ accessFlags := 16409, nameIndex := 5, descriptorIndex := 6, attributes := #[] }, { accessFlags := 16409, nameIndex := 9, descriptorIndex := 6, attributes := #[] }, { accessFlags := 16409, nameIndex := 12, descriptorIndex := 6, attributes := #[] }, { accessFlags := 4122, nameIndex := 15, descriptorIndex := 16, attributes := #[] }])
  fields := #[{ name := "BOOL", type := (.object "com/example/ferrule/ferrule/model/Type"), accessFlags := 16409, slot := 0, constantValue := 0 }, { name := "INT", type := (.object "com/example/ferrule/ferrule/model/Type"), accessFlags := 16409, slot := 1, constantValue := 0 }, { name := "REAL", type := (.object "com/example/ferrule/ferrule/model/Type"), accessFlags := 16409, slot := 2, constantValue := 0 }, { name := "$VALUES", type := (.array (.object "com/example/ferrule/ferrule/model/Type")), accessFlags := 4122, slot := 3, constantValue := 0 }]
  methods := #[k6m0]
  instanceTypes := #[(.object "java/lang/String"), .int, .int]
  staticTypes := #[(.object "com/example/ferrule/ferrule/model/Type"), (.object "com/example/ferrule/ferrule/model/Type"), (.object "com/example/ferrule/ferrule/model/Type"), (.array (.object "com/example/ferrule/ferrule/model/Type"))]
  resolved := Array.replicate 82 none
  statics := some 0 }

def pool7 : Array CpInfo := pool [(1, u "java/lang/Cloneable"), (0, .class_ 1), (0, u "java/lang/Object"), (0, .class_ 3)] 3

/-- java/lang/Cloneable -/
def k7 : Class := { plain "java/lang/Cloneable" (some 0) with
  accessFlags := 1537
  interfaces := #[]
  cf := some (fileOf pool7 2 #[] #[] 1537 4 #[] #[])
  fields := #[]
  methods := #[]
  instanceTypes := #[]
  staticTypes := #[]
  resolved := Array.replicate 8 none
  statics := none }

/-- the primitive boolean -/
def k8 : Class := { plain "boolean" none with kind := .primitive 'Z', accessFlags := 0x411 }
/-- [Z -/
def k9 : Class := { plain "[Z" (some 0) with kind := .array 8 .boolean, interfaces := #[7, 4], accessFlags := 1041 }

/-- the primitive byte -/
def k10 : Class := { plain "byte" none with kind := .primitive 'B', accessFlags := 0x411 }
/-- [B -/
def k11 : Class := { plain "[B" (some 0) with kind := .array 10 .byte, interfaces := #[7, 4], accessFlags := 1041 }

/-- the primitive int -/
def k12 : Class := { plain "int" none with kind := .primitive 'I', accessFlags := 0x411 }
/-- [I -/
def k13 : Class := { plain "[I" (some 0) with kind := .array 12 .int, interfaces := #[7, 4], accessFlags := 1041 }

def heap : Heap := #[{ cls := 6, slots := #[.ref 1, .ref 3, .ref 2, .null], vm := .statics 6 },
  { cls := 6, slots := #[.null, .int 0, .int 0], vm := .none },
  { cls := 6, slots := #[.null, .int 2, .int 0], vm := .none },
  { cls := 6, slots := #[.null, .int 1, .int 0], vm := .none }]
def classes : Array Class := #[k0, k1, k2, k3, k4, k5, k6, k7, k8, k9, k10, k11, k12, k13]
def interned : List (Array UInt16 × Addr) := []
def slotsUsed : Nat := 13
def theMethod : MethodId := ⟨1, 2⟩
def args0 : Array Value := #[.int 5, .int 7]
def aboutOver (below : List Frame) : State where
  vm := { classes := classes, interned := interned.toArray }
  heap := heap
  slotsUsed := slotsUsed
  threads := #[{ frames := .invoking theMethod args0 :: below }]
def below0 : List Frame := [.native { method := ⟨0, 0⟩, args := #[] }]
def about1 : State := aboutOver below0
def p0 : Program := .bare "" "" ""
def e0 : Env := launch0.env 0 0 0
theorem w_frames : about1.frames = Frame.invoking theMethod args0 :: below0 := rfl
set_option maxRecDepth 65536 in
theorem w_args : argsFit about1.vm theMethod args0 = true := by decide +kernel
set_option maxRecDepth 65536 in
theorem w_heap : heapFits about1 = true := by decide +kernel
set_option maxRecDepth 65536 in
theorem w_runnable : about1.curStatus? = some .runnable := by decide +kernel
set_option maxRecDepth 65536 in
theorem w_alone : about1.alone = true := by decide +kernel
set_option maxRecDepth 65536 in
theorem w_named : about1.methodNamed? x = some theMethod := by decide +kernel
set_option maxRecDepth 65536 in
theorem w_hears : about1.hears theMethod below0 = true := by decide +kernel
set_option maxRecDepth 65536 in
theorem w_ripe : about1.ripe theMethod args0 below0 = true := by decide +kernel
theorem w_running : about1.status = .running := rfl
set_option maxRecDepth 65536 in
theorem w_room : about1.hasRoom e0.platform room_1 = true :=
  launch0.hasRoom_least _ room_1 (by decide +kernel) (by decide +kernel) (by decide +kernel) (by decide +kernel) (by decide +kernel) (by decide +kernel)
theorem allAtoms_all (ts : List Jvm.Cond) (a : Array Jvm.Value) (st : Jvm.State) : (allAtoms ts).before a st = ts.all (fun c => c.before a st) := by
  induction ts with
  | nil => rfl
  | cons c t ih =>
    show (Jvm.Cond.and c (allAtoms t)).before a st = _
    rw [Jvm.Cond.before_and, ih, List.all_cons]
def words1 : List Jvm.Cond := Jvm.Cond.code x code maxLocals ret :: tables_1
/-- a 'code' word, met by the world's own term for the bytes: nothing is compared byte by byte -/
theorem code_word {y : MethodName} {bytes : ByteArray} {mx : Nat} {rt : Option FieldType} {a : Array Value} {s : State} {m : MethodId} {meth : Method} {c : Code} (h1 : s.methodNamed? y = some m) (h2 : s.vm.method? m = some meth) (h3 : meth.code = some c) (h4 : c.code = bytes)
    (h5 : (c.maxLocals == mx && c.exceptionTable.isEmpty && decide (c.maxStack ≤ mostOperands) && decide (meth.sig.returnType = rt) && !meth.locks && decide (parseMethodDescriptor y.desc = some meth.sig)) = true) : (Jvm.Cond.code y bytes mx rt).before a s = true := by
  simp only [Bool.and_eq_true, beq_iff_eq, Bool.not_eq_true', decide_eq_true_eq] at h5
  obtain ⟨⟨⟨⟨⟨g1, g2⟩, g3⟩, g4⟩, g5⟩, g6⟩ := h5
  simp [Cond.before, Cond.holds, Cond.value, h1, h2, h3, h4, g1, g2, g3, g4, g5, g6]
def isCode : Jvm.Cond → Bool
  | .code _ _ _ _ => true
  | _ => false
theorem all_split {L : List Jvm.Cond} {P : Jvm.Cond → Bool} (h1 : L.all (fun c => isCode c || P c) = true) (h2 : ∀ c ∈ L.filter isCode, P c = true) : L.all P = true := by
  refine List.all_eq_true.mpr fun c hc => ?_
  have h := List.all_eq_true.mp h1 c hc
  rcases Bool.eq_false_or_eq_true (isCode c) with hi | hi
  · exact h2 c (List.mem_filter.mpr ⟨hc, hi⟩)
  · simpa [hi] using h
set_option maxRecDepth 65536 in
theorem w_c0 : (Jvm.Cond.code x code maxLocals ret).before args0 about1 = true := code_word (m := ⟨1, 2⟩) (meth := k1m2) (c := k1c2) (by decide +kernel) rfl rfl rfl (by decide +kernel)
set_option maxRecDepth 65536 in
theorem w_c1 : (Jvm.Cond.code ({ cls := "com/example/ferrule/ferrule/model/TypeAcceptsPinLaw", name := "pick", desc := "(I)Lcom/example/ferrule/ferrule/model/Type;" } : Jvm.MethodName) method_2_code (1 : Nat) (Option.some (Jvm.ClassFile.FieldType.object "com/example/ferrule/ferrule/model/Type"))).before args0 about1 = true := code_word (m := ⟨1, 1⟩) (meth := k1m1) (c := k1c1) (by decide +kernel) rfl rfl rfl (by decide +kernel)
set_option maxRecDepth 65536 in
theorem w_c2 : (Jvm.Cond.code ({ cls := "com/example/ferrule/ferrule/model/Type", name := "accepts", desc := "(Lcom/example/ferrule/ferrule/model/Type;)Z" } : Jvm.MethodName) prog_57_method_6_code (2 : Nat) (Option.some Jvm.ClassFile.FieldType.boolean)).before args0 about1 = true := code_word (m := ⟨6, 0⟩) (meth := k6m0) (c := k6c0) (by decide +kernel) rfl rfl rfl (by decide +kernel)
def codes1 : List Jvm.Cond := [Jvm.Cond.code x code maxLocals ret, Jvm.Cond.code ({ cls := "com/example/ferrule/ferrule/model/TypeAcceptsPinLaw", name := "pick", desc := "(I)Lcom/example/ferrule/ferrule/model/Type;" } : Jvm.MethodName) method_2_code (1 : Nat) (Option.some (Jvm.ClassFile.FieldType.object "com/example/ferrule/ferrule/model/Type")), Jvm.Cond.code ({ cls := "com/example/ferrule/ferrule/model/Type", name := "accepts", desc := "(Lcom/example/ferrule/ferrule/model/Type;)Z" } : Jvm.MethodName) prog_57_method_6_code (2 : Nat) (Option.some Jvm.ClassFile.FieldType.boolean)]
set_option maxRecDepth 65536 in
theorem codes_eq : words1.filter isCode = codes1 := rfl
theorem w_codes : ∀ c ∈ words1.filter isCode, c.before args0 about1 = true := by
  rw [codes_eq]
  intro c hc
  simp only [codes1, List.mem_cons, List.not_mem_nil, or_false] at hc
  rcases hc with rfl | rfl | rfl
  · exact w_c0
  · exact w_c1
  · exact w_c2
set_option maxRecDepth 65536 in
theorem w_t1 : words1.all (fun c => isCode c || c.before args0 about1) = true := by decide +kernel
theorem w_tables : (allAtoms (Jvm.Cond.code x code maxLocals ret :: tables_1)).before args0 about1 = true := by
  rw [allAtoms_all]
  show words1.all (fun c => c.before args0 about1) = true
  refine all_split ?_ w_codes
  rw [w_t1]
set_option maxRecDepth 65536 in
theorem w_case : (Jvm.Cond.and given_1 narrow_1).before args0 about1 = true := by decide +kernel
theorem w_applies : (headSpec (Jvm.Cond.code x code maxLocals ret :: tables_1) room_1).applies x e0.platform about1 = true :=
  (Spec.applies_iff w_frames).mpr ⟨w_running, w_runnable, w_alone, w_named, w_hears, w_ripe, w_room, w_tables⟩
theorem atStart : AtStart classFile x code maxLocals ret World_1 tables_1 room_1 Calls_1 rest_1 Pre_1 launch0 p0 e0 about1 theMethod args0 below0 :=
  ⟨lists_1, trivial, launch0.admits_env _ _ _, launch0.least_env, fairChoices_fair.cas, fairChoices_fair.clock, w_frames, w_args, w_heap, w_applies, trivial, trivial, w_case⟩
end start1
theorem witness_1 : WitnessClaimed_1 := ⟨start1.p0, start1.e0, start1.about1, start1.theMethod, start1.args0, start1.below0, start1.atStart⟩
end Jvm.Pilot.@@N@@
