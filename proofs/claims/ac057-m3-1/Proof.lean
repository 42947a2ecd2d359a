import JvmDerived
import JvmDerived.Pilot.@@N@@Statement
import JvmDerived.Pilot.@@N@@Code
set_option linter.unusedVariables false
set_option linter.unusedSimpArgs false
@@BLOCK:NumsL.lean.txt@@
namespace Jvm.Pilot.@@N@@
open Jvm Jvm.ClassFile Sem Op Lib Jvm.Free Jvm.Stand Jvm.LawKit Jvm.RoadKit Bundle Jvm.Pilot.@@N@@.Jvm.D
theorem own_retI {p : Program} {l : Launch} {e : Env} {R : Room} {s : State} {m : MethodId} {args : Array Value} {below : List Frame} {meth : Method} {c : Code} {T : State} {locs : List Loc} {cells slots : Nat} (X : Stand p l e R s m args below meth c T locs cells slots) (hx : p.tables.exec = Jvm.exec) {pc : Nat} {Ls : Array Slot} {z : Int32} {rest : List Value} (hret : meth.sig.returnType = some .int) (hd : decode c.code pc = .ok (.ireturn, 1)) {fs : List Frame}
    (hl : ∀ (f : JFrame) (acts : List Action), f.method = m → f.locked = none → f.entered = [] → (doReturn e (T.setTop f) acts (some (.int z))).1 = T.setFrames fs) : Steps p.tables e below (T.setTop (mkF m pc Ls (.int z :: rest))) (T.setFrames fs) :=
  retOut X hx hret rfl (Or.inl ⟨rfl, Or.inl rfl, z, rfl⟩) hd hl
theorem own_retA {p : Program} {l : Launch} {e : Env} {R : Room} {s : State} {m : MethodId} {args : Array Value} {below : List Frame} {meth : Method} {c : Code} {T : State} {locs : List Loc} {cells slots : Nat} (X : Stand p l e R s m args below meth c T locs cells slots) (hx : p.tables.exec = Jvm.exec) {pc : Nat} {Ls : Array Slot} {w : Value} {t : FieldType} {rest : List Value} (hret : meth.sig.returnType = some t) (ht : t.isReference = true) (hw : w.isRef = true) (hn : narrow t w = w) (hd : decode c.code pc = .ok (.areturn, 1)) {fs : List Frame}
    (hl : ∀ (f : JFrame) (acts : List Action), f.method = m → f.locked = none → f.entered = [] → (doReturn e (T.setTop f) acts (some w)).1 = T.setFrames fs) : Steps p.tables e below (T.setTop (mkF m pc Ls (w :: rest))) (T.setFrames fs) :=
  retOut X hx hret hn (Or.inr (Or.inr (Or.inr (Or.inr ⟨rfl, ht, hw⟩)))) hd hl
theorem own_retJ {p : Program} {l : Launch} {e : Env} {R : Room} {s : State} {m : MethodId} {args : Array Value} {below : List Frame} {meth : Method} {c : Code} {T : State} {locs : List Loc} {cells slots : Nat} (X : Stand p l e R s m args below meth c T locs cells slots) (hx : p.tables.exec = Jvm.exec) {pc : Nat} {Ls : Array Slot} {z : Int64} {rest : List Value} (hret : meth.sig.returnType = some .long) (hd : decode c.code pc = .ok (.lreturn, 1)) {fs : List Frame}
    (hl : ∀ (f : JFrame) (acts : List Action), f.method = m → f.locked = none → f.entered = [] → (doReturn e (T.setTop f) acts (some (.long z))).1 = T.setFrames fs) : Steps p.tables e below (T.setTop (mkF m pc Ls (.long z :: rest))) (T.setFrames fs) :=
  retOut X hx hret rfl (Or.inr (Or.inl ⟨rfl, rfl, z, rfl⟩)) hd hl
theorem own_exttr {h0 h h' : Heap} (E : Ext h0 h) (E' : Ext h h') : Ext h0 h' := ⟨Nat.le_trans E.1 E'.1, fun a c q => E'.2 _ _ (E.2 _ _ q)⟩
theorem own_extwr {h0 h h' : Heap} {a : Addr} {sl : Nat} {v : Value} (E : Ext h0 h) (W : Wr h h' a sl v) (q : h0.size ≤ a) : Ext h0 h' := by
  refine ⟨Nat.le_trans E.1 (Nat.le_of_eq W.size.symm), fun x c hc => ?_⟩
  obtain ⟨c', e1, -, -, -, e5, -⟩ := wr_at W (E.2 x c hc)
  have hx : x < h0.size := (Array.getElem?_eq_some_iff.mp hc).1
  rw [e5 (Nat.ne_of_lt (Nat.lt_of_lt_of_le hx q))] at e1
  exact e1
theorem own_wmono {s t : State} {o : Outcome} {L : List Loc} {k n k' n' : Nat} (h : ReturnedEndW s o t L k n) (hk : k ≤ k') (hn : n ≤ n') : ReturnedEndW s o t L k' n' := ⟨h.1, h.2.1, h.2.2.1, h.2.2.2.mono hk hn⟩
theorem own_strAtoms {Z : State} {a0 : Array Value} (w1 : (Jvm.Cond.initialized "java/lang/String").before a0 Z = true) (w2 : (Jvm.Cond.instantiable "java/lang/String" 4).before a0 Z = true) (w3 : (Jvm.Cond.arrayClass .byte).before a0 Z = true) (w4 : (Jvm.Cond.laysFinal "java/lang/String" "java/lang/String" "value" "[B").before a0 Z = true) (w5 : (Jvm.Cond.laysFinal "java/lang/String" "java/lang/String" "coder" "B").before a0 Z = true) (w6 : (Jvm.Cond.soleField "java/lang/String" "value").before a0 Z = true) (w7 : (Jvm.Cond.soleField "java/lang/String" "coder").before a0 Z = true) : ∀ a ∈ Bundle.stringAtoms, a.before a0 Z = true := by
  intro a ha
  simp only [Bundle.stringAtoms, List.mem_cons, List.not_mem_nil, or_false] at ha
  rcases ha with rfl | rfl | rfl | rfl | rfl | rfl | rfl <;> assumption
theorem own_extkeep {h0 h h' : Heap} {a : Addr} (E : Ext h0 h) (K : Keep h h' [a]) (q : h0.size ≤ a) : Ext h0 h' := ⟨Nat.le_trans E.1 K.1, fun x c hc => K.2.1 x c (E.2 x c hc) (fun hm => absurd (List.mem_singleton.mp hm) (Nat.ne_of_lt (Nat.lt_of_lt_of_le (Array.getElem?_eq_some_iff.mp hc).1 q)))⟩
theorem own_fld2 {Z : State} {h : Heap} {a : Addr} {C O n d O1 n1 d1 : String} {v1 : Value} {a0 : Array Value} {k : Nat} (E : Exa Z h a C) (F : Fld Z h a O1 n1 d1 v1) (L : Laid Z a0 C O n d) (wi : (Jvm.Cond.instantiable C k).before a0 Z = true) : ∃ v, Fld Z h a O n d v := by
  obtain ⟨cell, kc, h1, h2, h3, h4, h5⟩ := E
  obtain ⟨cell', cf', k', i', f', g1, -, -, g4, g5, -, -⟩ := F
  cases h1.symm.trans g1
  obtain ⟨c, k2, cf, kf, i, f, a1, a2, a3, a4, a5, a6, -⟩ := L.spec
  cases h2.symm.trans a1
  cases h3.symm.trans a2
  obtain ⟨c2, k3, i1, i2, i3, -⟩ := Cond.instantiable_spec wi
  cases h2.symm.trans i1
  cases h3.symm.trans i2
  have hs := h5 i3
  have hlt : f.slot < cell.slots.size := by rw [hs]; exact (Array.getElem?_eq_some_iff.mp a6).1
  exact ⟨cell.slots[f.slot], cell, cf, kf, i, f, h1, a3, a4, g4, g5, a5, Array.getElem?_eq_getElem hlt⟩
theorem own_retD {p : Program} {l : Launch} {e : Env} {R : Room} {s : State} {m : MethodId} {args : Array Value} {below : List Frame} {meth : Method} {c : Code} {T : State} {locs : List Loc} {cells slots : Nat} (X : Stand p l e R s m args below meth c T locs cells slots) (hx : p.tables.exec = Jvm.exec) {pc : Nat} {Ls : Array Slot} {z : UInt64} {rest : List Value} (hret : meth.sig.returnType = some .double) (hd : decode c.code pc = .ok (.dreturn, 1)) {fs : List Frame}
    (hl : ∀ (f : JFrame) (acts : List Action), f.method = m → f.locked = none → f.entered = [] → (doReturn e (T.setTop f) acts (some (.double z))).1 = T.setFrames fs) : Steps p.tables e below (T.setTop (mkF m pc Ls (.double z :: rest))) (T.setFrames fs) :=
  retOut X hx hret rfl (Or.inr (Or.inr (Or.inl ⟨rfl, rfl, z, rfl⟩))) hd hl
theorem own_eqk {args : Array Value} {first s : State} {o : Option Outcome} {idx : List Nat} {t : Term} {k : Int32} (h : (Jvm.Cond.eq t (.int k)).value args first o s idx = some true) : t.eval args first o idx s = some (.int k) := by
  have hk : (Term.int k).eval args first o idx s = some (.int k) := Term.int_eval k
  cases ht : t.eval args first o idx s with
  | none => simp [Cond.value, ht] at h
  | some x => cases x <;> simp [Cond.value, ht, hk] at h ⊢ <;> exact h
theorem own_nn (x : Int32) : ¬ ((x &&& (2147483647 : Int32)) < (0 : Int32)) := by
  have e1 : (x &&& (2147483647 : Int32)).toInt = x.toInt % 2 ^ 31 := Jvm.Kit.i32_mask x 2147483647 (k := 31) (by decide) (by decide)
  rw [Int32.lt_iff_toInt_lt, e1]
  have c0 : (0 : Int32).toInt = 0 := by decide
  rw [c0]; omega
theorem own_c00 : cmpValue (FP.dcmp FP.dconst0 FP.dconst0) .l = (0 : Int32) := by decide +kernel
theorem own_c11 : cmpValue (FP.dcmp FP.dconst1 FP.dconst1) .l = (0 : Int32) := by decide +kernel
theorem own_c01 : ¬ ((0 : Int32) < cmpValue (FP.dcmp FP.dconst0 FP.dconst1) .g) := by decide +kernel
theorem own_pn0 : plainName "com/example/ferrule/ferrule/learn/Bounds" = true := by first | (simp [plainName, overriddenIn]; done) | decide +kernel
theorem own_d_ini_0 : decode prog_3_method_1_code 0 = .ok (.aload_n 0, 1) := by decide +kernel
theorem own_d_ini_1 : decode prog_3_method_1_code 1 = .ok (.invokespecial 1, 3) := by decide +kernel
theorem own_d_ini_4 : decode prog_3_method_1_code 4 = .ok (.aload_n 0, 1) := by decide +kernel
theorem own_d_ini_5 : decode prog_3_method_1_code 5 = .ok (.iconst 0, 1) := by decide +kernel
theorem own_d_ini_6 : decode prog_3_method_1_code 6 = .ok (.newarray .double, 2) := by decide +kernel
theorem own_d_ini_8 : decode prog_3_method_1_code 8 = .ok (.putfield 7, 3) := by decide +kernel
theorem own_d_ini_11 : decode prog_3_method_1_code 11 = .ok (.aload_n 0, 1) := by decide +kernel
theorem own_d_ini_12 : decode prog_3_method_1_code 12 = .ok (.iconst 0, 1) := by decide +kernel
theorem own_d_ini_13 : decode prog_3_method_1_code 13 = .ok (.newarray .double, 2) := by decide +kernel
theorem own_d_ini_15 : decode prog_3_method_1_code 15 = .ok (.putfield 13, 3) := by decide +kernel
theorem own_d_ini_18 : decode prog_3_method_1_code 18 = .ok (.aload_n 0, 1) := by decide +kernel
theorem own_d_ini_19 : decode prog_3_method_1_code 19 = .ok (.iconst 0, 1) := by decide +kernel
theorem own_d_ini_20 : decode prog_3_method_1_code 20 = .ok (.newarray .double, 2) := by decide +kernel
theorem own_d_ini_22 : decode prog_3_method_1_code 22 = .ok (.putfield 16, 3) := by decide +kernel
theorem own_d_ini_25 : decode prog_3_method_1_code 25 = .ok (.aload_n 0, 1) := by decide +kernel
theorem own_d_ini_26 : decode prog_3_method_1_code 26 = .ok (.aload_n 1, 1) := by decide +kernel
theorem own_d_ini_27 : decode prog_3_method_1_code 27 = .ok (.putfield 19, 3) := by decide +kernel
theorem own_d_ini_30 : decode prog_3_method_1_code 30 = .ok (.return_, 1) := by decide +kernel
theorem own_ef_ini (m : MethodId) (a0 : Addr) (a1 : Addr) : entryFrame m #[(.ref a0), (.ref a1)] 2 = mkF m 0 #[.val (.ref a0), .val (.ref a1)] [] := by first | (simp [entryFrame, mkF, argsToLocals, Value.category]; done) | rfl
def Q_ini (Z : State) (a0 : Addr) (a1 : Addr) (h0 : Heap) (n0 : Nat) (v : Option Value) (h : Heap) (L : List Loc) : Prop := v = none ∧ Fr n0 L ∧ Keep h0 h [a0] ∧ Exa Z h a0 "com/example/ferrule/ferrule/learn/Bounds" ∧ (∃ (b : Addr) (k : ClassId), Fld Z h a0 "com/example/ferrule/ferrule/learn/Bounds" "lower" "[D" (.ref b) ∧ Arv Z h b k .double (0 : Int32) [] (.double 0)) ∧ (∃ (b : Addr) (k : ClassId), Fld Z h a0 "com/example/ferrule/ferrule/learn/Bounds" "upper" "[D" (.ref b) ∧ Arv Z h b k .double (0 : Int32) [] (.double 0))
set_option maxRecDepth 65536 in
set_option maxHeartbeats 40000000 in
theorem rm_ini (l : Launch) (Z : State) (a0' : Array Value) (hw : ∀ d ∈ tables_1, d.before a0' Z = true) (ws : List Jvm.Cond) (a0 : Addr) (a1 : Addr) (h0 : Heap) (n0 : Nat) (Z0 : n0 ≤ h0.size) (E_t : Exa Z h0 a0 "com/example/ferrule/ferrule/learn/Bounds") (F0_lower : Fld Z h0 a0 "com/example/ferrule/ferrule/learn/Bounds" "lower" "[D" .null) (g_t : n0 ≤ a0) :
    MetFree l (⟨"com/example/ferrule/ferrule/learn/Bounds", "<init>", "(Lcom/example/ferrule/ferrule/learn/Updates;)V"⟩ : MethodName) (head1 (Jvm.Cond.code (⟨"com/example/ferrule/ferrule/learn/Bounds", "<init>", "(Lcom/example/ferrule/ferrule/learn/Updates;)V"⟩ : MethodName) prog_3_method_1_code 2 none :: ws) ({ frames := 1, cells := 3, slots := 0, locals := 12 } : Room)) (fun a U => a = #[(.ref a0), (.ref a1)] ∧ Z.Warmed39 U.vm ∧ U.heap = h0) (fun _ _ _ _ _ => True) (fun _ U o U' => ∃ v L, o = .returned v ∧ Q_ini Z a0 a1 h0 n0 v U'.heap L ∧ FrameEnd U o U' L ({ frames := 1, cells := 3, slots := 0, locals := 12 } : Room).cells ({ frames := 1, cells := 3, slots := 0, locals := 12 } : Room).slots) := by
  refine MetFree.of_bodySF (plainFor_of_name own_pn0) hisR ?_
  intro p e s m args below meth c s₁ Bd hml0 hP hK
  obtain ⟨rfl, hZ, hh⟩ := hP
  have hx := Bd.exec
  have hby := Bd.bytes
  have hml : c.maxLocals = 2 := hml0
  have hown : s.vm.findClass "com/example/ferrule/ferrule/learn/Bounds" = some m.cls := findClass_of_methodNamed Bd.named
  have hnm := (name_of_methodNamed Bd.named Bd.method).1
  have X0 : Stand p l e ({ frames := 1, cells := 3, slots := 0, locals := 12 } : Room) s m #[(.ref a0), (.ref a1)] below meth c s₁ [] 0 0 := Stand.of_body Bd
  have e0 : s₁.heap = h0 := by rw [← hh, Bd.state]; rfl
  have N0 := Fr.nil n0
  have pre0 : ∀ t, Steps p.tables e below (s₁.setTop (mkF m 0 #[.val (.ref a0), .val (.ref a1)] [])) t → Steps p.tables e below (s₁.setTop (entryFrame m #[(.ref a0), (.ref a1)] 2)) t := fun t k => castTop (own_ef_ini m a0 a1) k
  obtain ⟨T1, X1, e1, st1⟩ := initO X0 hx hZ hown (hw _ (List.mem_of_getElem? (i := 10) rfl)) (hw _ (List.mem_of_getElem? (i := 11) rfl)) (hw _ (List.mem_of_getElem? (i := 12) rfl)) e0 (g := (mkF m 1 #[.val (.ref a0), .val (.ref a1)] [(.ref a0)])) rfl (by rw [hml]; rfl) rfl (hb hby own_d_ini_1) (by decide) (W := 0) (by show 2 * 0 + _ ≤ _; exact Nat.le_of_eq rfl) (by decide)
  obtain ⟨T2, h2, k2, X2, e2, E2, A2, st2⟩ := newP X1 hx hZ (hw _ (List.mem_of_getElem? (i := 13) rfl)) e1 (g := (mkF m 6 #[.val (.ref a0), .val (.ref a1)] [(.int (0 : Int32)), (.ref a0)])) rfl (hb hby own_d_ini_6) rfl (by decide) (cap := 0) (by decide) (by decide) (by decide) (by decide)
  obtain ⟨b2, g2⟩ : ∃ z, z = h0.size := ⟨_, rfl⟩
  rw [← g2] at A2 st2
  have V_b2 := Arv.new A2 (by decide)
  have ne_b2 : b2 ≠ a0 := Nat.ne_of_gt (Nat.lt_of_lt_of_le E_t.lt (Nat.le_of_eq g2.symm))
  have Ew2 := E_t.ext E2
  have Fy2 := F0_lower.ext E2
  have Kp2 : Keep h0 h2 [a0] := (Keep.refl h0 [a0]).ext E2
  have Ftlower_2 := F0_lower.ext E2
  obtain ⟨old3, Fo3⟩ := own_fld2 (O := "com/example/ferrule/ferrule/learn/Bounds") (n := "lower") (d := "[D") (a0 := a0') Ew2 Fy2 (Or.inl (hw _ (List.mem_of_getElem? (i := 15) rfl))) (hw _ (List.mem_of_getElem? (i := 5) rfl))
  obtain ⟨T4, h4, X4, e4, W4, st4⟩ := putF X2 hx hZ hown (host := "") (Or.inl (hw _ (List.mem_of_getElem? (i := 14) rfl))) Via.refl e2 Fo3 Ew2 (Or.inl (hw _ (List.mem_of_getElem? (i := 15) rfl))) (hw _ (List.mem_of_getElem? (i := 5) rfl)) (ty := (.array .double)) (by decide) rfl rfl (g := (mkF m 8 #[.val (.ref a0), .val (.ref a1)] [(.ref b2), (.ref a0)])) rfl rfl (hb hby own_d_ini_8)
  have Fw4 : Fld Z h4 a0 "com/example/ferrule/ferrule/learn/Bounds" "lower" "[D" (.ref b2) := Fo3.same W4
  have Ew4 := Ew2.wr W4
  have Kp4 : Keep h0 h4 [a0] := Kp2.wr W4 (Or.inl (List.mem_of_getElem? (i := 0) rfl))
  have N4 := Fr.snoc X4 N0 g_t
  have Vtlower_4 := V_b2.other W4 ne_b2
  obtain ⟨T5, h5, k5, X5, e5, E5, A5, st5⟩ := newP X4 hx hZ (hw _ (List.mem_of_getElem? (i := 13) rfl)) e4 (g := (mkF m 13 #[.val (.ref a0), .val (.ref a1)] [(.int (0 : Int32)), (.ref a0)])) rfl (hb hby own_d_ini_13) rfl (by decide) (cap := 0) (by decide) (by decide) (by decide) (by decide)
  obtain ⟨b5, g5⟩ : ∃ z, z = h4.size := ⟨_, rfl⟩
  rw [← g5] at A5 st5
  have V_b5 := Arv.new A5 (by decide)
  have ne_b5 : b5 ≠ a0 := Nat.ne_of_gt (Nat.lt_of_lt_of_le Ew4.lt (Nat.le_of_eq g5.symm))
  have Ew5 := Ew4.ext E5
  have Fy5 := Fw4.ext E5
  have Kp5 : Keep h0 h5 [a0] := Kp4.ext E5
  have Ftlower_5 := Fw4.ext E5
  have Vtlower_5 := Vtlower_4.ext E5
  obtain ⟨old6, Fo6⟩ := own_fld2 (O := "com/example/ferrule/ferrule/learn/Bounds") (n := "upper") (d := "[D") (a0 := a0') Ew5 Fy5 (Or.inl (hw _ (List.mem_of_getElem? (i := 17) rfl))) (hw _ (List.mem_of_getElem? (i := 5) rfl))
  obtain ⟨T7, h7, X7, e7, W7, st7⟩ := putF X5 hx hZ hown (host := "") (Or.inl (hw _ (List.mem_of_getElem? (i := 16) rfl))) Via.refl e5 Fo6 Ew5 (Or.inl (hw _ (List.mem_of_getElem? (i := 17) rfl))) (hw _ (List.mem_of_getElem? (i := 5) rfl)) (ty := (.array .double)) (by decide) rfl rfl (g := (mkF m 15 #[.val (.ref a0), .val (.ref a1)] [(.ref b5), (.ref a0)])) rfl rfl (hb hby own_d_ini_15)
  have Fw7 : Fld Z h7 a0 "com/example/ferrule/ferrule/learn/Bounds" "upper" "[D" (.ref b5) := Fo6.same W7
  have Ew7 := Ew5.wr W7
  have Kp7 : Keep h0 h7 [a0] := Kp5.wr W7 (Or.inl (List.mem_of_getElem? (i := 0) rfl))
  have N7 := Fr.snoc X7 N4 g_t
  have Ftlower_7 := Ftlower_5.other W7 (Or.inr (slot_ne (a0 := a0') (Or.inl (hw _ (List.mem_of_getElem? (i := 15) rfl))) (Or.inl (hw _ (List.mem_of_getElem? (i := 17) rfl))) (by decide) (t := (.array .double)) (t' := (.array .double)) (by decide) (by decide)))
  have Vtlower_7 := Vtlower_5.other W7 ne_b2
  have Vtupper_7 := V_b5.other W7 ne_b5
  obtain ⟨T8, h8, k8, X8, e8, E8, A8, st8⟩ := newP X7 hx hZ (hw _ (List.mem_of_getElem? (i := 13) rfl)) e7 (g := (mkF m 20 #[.val (.ref a0), .val (.ref a1)] [(.int (0 : Int32)), (.ref a0)])) rfl (hb hby own_d_ini_20) rfl (by decide) (cap := 0) (by decide) (by decide) (by decide) (by decide)
  obtain ⟨b8, g8⟩ : ∃ z, z = h7.size := ⟨_, rfl⟩
  rw [← g8] at A8 st8
  have V_b8 := Arv.new A8 (by decide)
  have ne_b8 : b8 ≠ a0 := Nat.ne_of_gt (Nat.lt_of_lt_of_le Ew7.lt (Nat.le_of_eq g8.symm))
  have Ew8 := Ew7.ext E8
  have Fy8 := Fw7.ext E8
  have Kp8 : Keep h0 h8 [a0] := Kp7.ext E8
  have Ftlower_8 := Ftlower_7.ext E8
  have Ftupper_8 := Fw7.ext E8
  have Vtlower_8 := Vtlower_7.ext E8
  have Vtupper_8 := Vtupper_7.ext E8
  obtain ⟨old9, Fo9⟩ := own_fld2 (O := "com/example/ferrule/ferrule/learn/Bounds") (n := "pairUpper") (d := "[D") (a0 := a0') Ew8 Fy8 (Or.inl (hw _ (List.mem_of_getElem? (i := 19) rfl))) (hw _ (List.mem_of_getElem? (i := 5) rfl))
  obtain ⟨T10, h10, X10, e10, W10, st10⟩ := putF X8 hx hZ hown (host := "") (Or.inl (hw _ (List.mem_of_getElem? (i := 18) rfl))) Via.refl e8 Fo9 Ew8 (Or.inl (hw _ (List.mem_of_getElem? (i := 19) rfl))) (hw _ (List.mem_of_getElem? (i := 5) rfl)) (ty := (.array .double)) (by decide) rfl rfl (g := (mkF m 22 #[.val (.ref a0), .val (.ref a1)] [(.ref b8), (.ref a0)])) rfl rfl (hb hby own_d_ini_22)
  have Fw10 : Fld Z h10 a0 "com/example/ferrule/ferrule/learn/Bounds" "pairUpper" "[D" (.ref b8) := Fo9.same W10
  have Ew10 := Ew8.wr W10
  have Kp10 : Keep h0 h10 [a0] := Kp8.wr W10 (Or.inl (List.mem_of_getElem? (i := 0) rfl))
  have N10 := Fr.snoc X10 N7 g_t
  have Ftlower_10 := Ftlower_8.other W10 (Or.inr (slot_ne (a0 := a0') (Or.inl (hw _ (List.mem_of_getElem? (i := 15) rfl))) (Or.inl (hw _ (List.mem_of_getElem? (i := 19) rfl))) (by decide) (t := (.array .double)) (t' := (.array .double)) (by decide) (by decide)))
  have Ftupper_10 := Ftupper_8.other W10 (Or.inr (slot_ne (a0 := a0') (Or.inl (hw _ (List.mem_of_getElem? (i := 17) rfl))) (Or.inl (hw _ (List.mem_of_getElem? (i := 19) rfl))) (by decide) (t := (.array .double)) (t' := (.array .double)) (by decide) (by decide)))
  have Vtlower_10 := Vtlower_8.other W10 ne_b2
  have Vtupper_10 := Vtupper_8.other W10 ne_b5
  obtain ⟨old11, Fo11⟩ := own_fld2 (O := "com/example/ferrule/ferrule/learn/Bounds") (n := "updates") (d := "Lcom/example/ferrule/ferrule/learn/Updates;") (a0 := a0') Ew10 Fw10 (Or.inr (hw _ (List.mem_of_getElem? (i := 21) rfl))) (hw _ (List.mem_of_getElem? (i := 5) rfl))
  obtain ⟨T12, h12, X12, e12, W12, st12⟩ := putF X10 hx hZ hown (host := "") (Or.inl (hw _ (List.mem_of_getElem? (i := 20) rfl))) Via.refl e10 Fo11 Ew10 (Or.inr ⟨(hw _ (List.mem_of_getElem? (i := 21) rfl)), rfl, hnm⟩) (hw _ (List.mem_of_getElem? (i := 5) rfl)) (ty := (.object "com/example/ferrule/ferrule/learn/Updates")) (by decide) rfl rfl (g := (mkF m 27 #[.val (.ref a0), .val (.ref a1)] [(.ref a1), (.ref a0)])) rfl rfl (hb hby own_d_ini_27)
  have Fw12 : Fld Z h12 a0 "com/example/ferrule/ferrule/learn/Bounds" "updates" "Lcom/example/ferrule/ferrule/learn/Updates;" (.ref a1) := Fo11.same W12
  have Ew12 := Ew10.wr W12
  have Kp12 : Keep h0 h12 [a0] := Kp10.wr W12 (Or.inl (List.mem_of_getElem? (i := 0) rfl))
  have N12 := Fr.snoc X12 N10 g_t
  have Ftlower_12 := Ftlower_10.other W12 (Or.inr (slot_ne (a0 := a0') (Or.inl (hw _ (List.mem_of_getElem? (i := 15) rfl))) (Or.inr (hw _ (List.mem_of_getElem? (i := 21) rfl))) (by decide) (t := (.array .double)) (t' := (.object "com/example/ferrule/ferrule/learn/Updates")) (by decide) (by decide)))
  have Ftupper_12 := Ftupper_10.other W12 (Or.inr (slot_ne (a0 := a0') (Or.inl (hw _ (List.mem_of_getElem? (i := 17) rfl))) (Or.inr (hw _ (List.mem_of_getElem? (i := 21) rfl))) (by decide) (t := (.array .double)) (t' := (.object "com/example/ferrule/ferrule/learn/Updates")) (by decide) (by decide)))
  have Vtlower_12 := Vtlower_10.other W12 ne_b2
  have Vtupper_12 := Vtupper_10.other W12 ne_b5
  obtain ⟨fs, hr, hrun, hended, hW, hsame⟩ := X12.leave (v := none) (fun _ => rfl)
  refine ⟨_, _, pre0 _ ?_, hrun, hended, _, _, rfl, ?_, ⟨_, rfl⟩, hW, hsame.mono (by decide) (by decide)⟩
  · show Steps p.tables e below (s₁.setTop (mkF m 0 #[.val (.ref a0), .val (.ref a1)] [])) _
    refine XS.aloadN X0.here hx rfl (hb hby own_d_ini_0) rfl rfl ?_
    show Steps p.tables e below (s₁.setTop (mkF m 1 #[.val (.ref a0), .val (.ref a1)] [(.ref a0)])) _
    refine st1 _ ?_
    show Steps p.tables e below (T1.setTop (mkF m 4 #[.val (.ref a0), .val (.ref a1)] [])) _
    refine XS.aloadN X1.here hx rfl (hb hby own_d_ini_4) rfl rfl ?_
    show Steps p.tables e below (T1.setTop (mkF m 5 #[.val (.ref a0), .val (.ref a1)] [(.ref a0)])) _
    refine XS.iconst X1.here hx rfl (hb hby own_d_ini_5) ?_
    show Steps p.tables e below (T1.setTop (mkF m 6 #[.val (.ref a0), .val (.ref a1)] [(.int (0 : Int32)), (.ref a0)])) _
    refine st2 _ ?_
    show Steps p.tables e below (T2.setTop (mkF m 8 #[.val (.ref a0), .val (.ref a1)] [(.ref b2), (.ref a0)])) _
    refine st4 _ ?_
    show Steps p.tables e below (T4.setTop (mkF m 11 #[.val (.ref a0), .val (.ref a1)] [])) _
    refine XS.aloadN X4.here hx rfl (hb hby own_d_ini_11) rfl rfl ?_
    show Steps p.tables e below (T4.setTop (mkF m 12 #[.val (.ref a0), .val (.ref a1)] [(.ref a0)])) _
    refine XS.iconst X4.here hx rfl (hb hby own_d_ini_12) ?_
    show Steps p.tables e below (T4.setTop (mkF m 13 #[.val (.ref a0), .val (.ref a1)] [(.int (0 : Int32)), (.ref a0)])) _
    refine st5 _ ?_
    show Steps p.tables e below (T5.setTop (mkF m 15 #[.val (.ref a0), .val (.ref a1)] [(.ref b5), (.ref a0)])) _
    refine st7 _ ?_
    show Steps p.tables e below (T7.setTop (mkF m 18 #[.val (.ref a0), .val (.ref a1)] [])) _
    refine XS.aloadN X7.here hx rfl (hb hby own_d_ini_18) rfl rfl ?_
    show Steps p.tables e below (T7.setTop (mkF m 19 #[.val (.ref a0), .val (.ref a1)] [(.ref a0)])) _
    refine XS.iconst X7.here hx rfl (hb hby own_d_ini_19) ?_
    show Steps p.tables e below (T7.setTop (mkF m 20 #[.val (.ref a0), .val (.ref a1)] [(.int (0 : Int32)), (.ref a0)])) _
    refine st8 _ ?_
    show Steps p.tables e below (T8.setTop (mkF m 22 #[.val (.ref a0), .val (.ref a1)] [(.ref b8), (.ref a0)])) _
    refine st10 _ ?_
    show Steps p.tables e below (T10.setTop (mkF m 25 #[.val (.ref a0), .val (.ref a1)] [])) _
    refine XS.aloadN X10.here hx rfl (hb hby own_d_ini_25) rfl rfl ?_
    show Steps p.tables e below (T10.setTop (mkF m 26 #[.val (.ref a0), .val (.ref a1)] [(.ref a0)])) _
    refine XS.aloadN X10.here hx rfl (hb hby own_d_ini_26) rfl rfl ?_
    show Steps p.tables e below (T10.setTop (mkF m 27 #[.val (.ref a0), .val (.ref a1)] [(.ref a1), (.ref a0)])) _
    refine st12 _ ?_
    show Steps p.tables e below (T12.setTop (mkF m 30 #[.val (.ref a0), .val (.ref a1)] [])) _
    exact X12.returnOut hx Bd.returns (hb hby own_d_ini_30) hr
  · show Q_ini Z a0 a1 h0 n0 _ T12.heap _
    rw [e12]
    exact ⟨rfl, N12, Kp12, Ew12, ⟨b2, k2, Ftlower_12, Vtlower_12⟩, ⟨b5, k5, Ftupper_12, Vtupper_12⟩⟩
theorem own_d_lower_0 : decode prog_3_method_2_code 0 = .ok (.iload_n 1, 1) := by decide +kernel
theorem own_d_lower_1 : decode prog_3_method_2_code 1 = .ok (.aload_n 0, 1) := by decide +kernel
theorem own_d_lower_2 : decode prog_3_method_2_code 2 = .ok (.getfield 7, 3) := by decide +kernel
theorem own_d_lower_5 : decode prog_3_method_2_code 5 = .ok (.arraylength, 1) := by decide +kernel
theorem own_d_lower_6 : decode prog_3_method_2_code 6 = .ok (.if_icmp .ge 12, 3) := by decide +kernel
theorem own_d_lower_18 : decode prog_3_method_2_code 18 = .ok (.dconst 0, 1) := by decide +kernel
theorem own_d_lower_19 : decode prog_3_method_2_code 19 = .ok (.dreturn, 1) := by decide +kernel
def F_lower  : UInt64 := FP.dconst0
theorem own_ef_lower (m : MethodId) (a0 : Addr) (p1 : Int32) : entryFrame m #[(.ref a0), (.int p1)] 2 = mkF m 0 #[.val (.ref a0), .val (.int p1)] [] := by first | (simp [entryFrame, mkF, argsToLocals, Value.category]; done) | rfl
def Q_lower (Z : State) (a0 : Addr) (p1 : Int32) (b : Addr) (cl : Cell) (h0 : Heap) (n0 : Nat) (v : Option Value) (h : Heap) (L : List Loc) : Prop := v = some (.double F_lower) ∧ Fr n0 L ∧ h = h0
set_option maxRecDepth 65536 in
set_option maxHeartbeats 40000000 in
theorem rm_lower (l : Launch) (Z : State) (a0' : Array Value) (hw : ∀ d ∈ tables_1, d.before a0' Z = true) (ws : List Jvm.Cond) (a0 : Addr) (p1 : Int32) (b : Addr) (cl : Cell) (h0 : Heap) (n0 : Nat) (Z0 : n0 ≤ h0.size) (FL : Fld Z h0 a0 "com/example/ferrule/ferrule/learn/Bounds" "lower" "[D" (.ref b)) (Ar : Arr Z h0 b cl .double) (hsz : cl.slots.size = (0 : Int32).toNatClampNeg) (hnn : ¬ (0 : Int32) < 0) (hp : ¬ (p1 < (0 : Int32))) :
    MetFree l (⟨"com/example/ferrule/ferrule/learn/Bounds", "lower", "(I)D"⟩ : MethodName) (head1 (Jvm.Cond.code (⟨"com/example/ferrule/ferrule/learn/Bounds", "lower", "(I)D"⟩ : MethodName) prog_3_method_2_code 2 (some .double) :: ws) ({ frames := 0, cells := 0, slots := 0, locals := 0 } : Room)) (fun a U => a = #[(.ref a0), (.int p1)] ∧ Z.Warmed39 U.vm ∧ U.heap = h0) (fun _ _ _ _ _ => True) (fun _ U o U' => ∃ v L, o = .returned v ∧ Q_lower Z a0 p1 b cl h0 n0 v U'.heap L ∧ FrameEnd U o U' L ({ frames := 0, cells := 0, slots := 0, locals := 0 } : Room).cells ({ frames := 0, cells := 0, slots := 0, locals := 0 } : Room).slots) := by
  refine MetFree.of_bodySF (plainFor_of_name own_pn0) hisR ?_
  intro p e s m args below meth c s₁ Bd hml0 hP hK
  obtain ⟨rfl, hZ, hh⟩ := hP
  have hx := Bd.exec
  have hby := Bd.bytes
  have hml : c.maxLocals = 2 := hml0
  have hown : s.vm.findClass "com/example/ferrule/ferrule/learn/Bounds" = some m.cls := findClass_of_methodNamed Bd.named
  have hnm := (name_of_methodNamed Bd.named Bd.method).1
  have X0 : Stand p l e ({ frames := 0, cells := 0, slots := 0, locals := 0 } : Room) s m #[(.ref a0), (.int p1)] below meth c s₁ [] 0 0 := Stand.of_body Bd
  have e0 : s₁.heap = h0 := by rw [← hh, Bd.state]; rfl
  have N0 := Fr.nil n0
  have pre0 : ∀ t, Steps p.tables e below (s₁.setTop (mkF m 0 #[.val (.ref a0), .val (.int p1)] [])) t → Steps p.tables e below (s₁.setTop (entryFrame m #[(.ref a0), (.int p1)] 2)) t := fun t k => castTop (own_ef_lower m a0 p1) k
  obtain ⟨T13, X13, e13, st13⟩ := getF X0 hx hZ hown (host := "") (Or.inl (hw _ (List.mem_of_getElem? (i := 14) rfl))) Via.refl e0 FL (g := (mkF m 2 #[.val (.ref a0), .val (.int p1)] [(.ref a0), (.int p1)])) rfl rfl (hb hby own_d_lower_2)
  obtain ⟨fs, hr, hrun, hended, hW, hsame⟩ := X13.leave (v := some (.double FP.dconst0)) (fun h => by rw [Bd.returns] at h; cases h)
  refine ⟨_, _, pre0 _ ?_, hrun, hended, _, _, rfl, ?_, ⟨_, rfl⟩, hW, hsame.mono (by decide) (by decide)⟩
  · show Steps p.tables e below (s₁.setTop (mkF m 0 #[.val (.ref a0), .val (.int p1)] [])) _
    refine XS.iloadN X0.here hx rfl (hb hby own_d_lower_0) rfl ?_
    show Steps p.tables e below (s₁.setTop (mkF m 1 #[.val (.ref a0), .val (.int p1)] [(.int p1)])) _
    refine XS.aloadN X0.here hx rfl (hb hby own_d_lower_1) rfl rfl ?_
    show Steps p.tables e below (s₁.setTop (mkF m 2 #[.val (.ref a0), .val (.int p1)] [(.ref a0), (.int p1)])) _
    refine st13 _ ?_
    show Steps p.tables e below (T13.setTop (mkF m 5 #[.val (.ref a0), .val (.int p1)] [(.ref b), (.int p1)])) _
    refine X13.arraylength hx (by rw [e13]; exact Ar.1) (State.isArrayOf_alike hZ.alike Ar.2.1) (g := (mkF m 5 #[.val (.ref a0), .val (.int p1)] [(.ref b), (.int p1)])) rfl rfl (hb hby own_d_lower_5) _ ?_
    rw [len_of hsz hnn]
    show Steps p.tables e below (T13.setTop (mkF m 6 #[.val (.ref a0), .val (.int p1)] [(.int (0 : Int32)), (.int p1)])) _
    refine XS.icmpYes X13.here hx rfl (pc0 := 6) (pc' := 18) rfl (hb hby own_d_lower_6) rfl (flt hp).2.1 (by decide) (by decide) ?_
    show Steps p.tables e below (T13.setTop (mkF m 18 #[.val (.ref a0), .val (.int p1)] [])) _
    refine XS.dconst0 X13.here hx rfl (hb hby own_d_lower_18) rfl ?_
    show Steps p.tables e below (T13.setTop (mkF m 19 #[.val (.ref a0), .val (.int p1)] [(.double FP.dconst0)])) _
    exact own_retD X13 hx Bd.returns (hb hby own_d_lower_19) hr
  · show Q_lower Z a0 p1 b cl h0 n0 _ T13.heap _
    refine ⟨?_, N0, e13⟩
    rw [F_lower]
theorem own_d_upper_0 : decode prog_3_method_3_code 0 = .ok (.iload_n 1, 1) := by decide +kernel
theorem own_d_upper_1 : decode prog_3_method_3_code 1 = .ok (.aload_n 0, 1) := by decide +kernel
theorem own_d_upper_2 : decode prog_3_method_3_code 2 = .ok (.getfield 13, 3) := by decide +kernel
theorem own_d_upper_5 : decode prog_3_method_3_code 5 = .ok (.arraylength, 1) := by decide +kernel
theorem own_d_upper_6 : decode prog_3_method_3_code 6 = .ok (.if_icmp .ge 12, 3) := by decide +kernel
theorem own_d_upper_18 : decode prog_3_method_3_code 18 = .ok (.dconst 1, 1) := by decide +kernel
theorem own_d_upper_19 : decode prog_3_method_3_code 19 = .ok (.dreturn, 1) := by decide +kernel
def F_upper  : UInt64 := FP.dconst1
theorem own_ef_upper (m : MethodId) (a0 : Addr) (p1 : Int32) : entryFrame m #[(.ref a0), (.int p1)] 2 = mkF m 0 #[.val (.ref a0), .val (.int p1)] [] := by first | (simp [entryFrame, mkF, argsToLocals, Value.category]; done) | rfl
def Q_upper (Z : State) (a0 : Addr) (p1 : Int32) (b : Addr) (cl : Cell) (h0 : Heap) (n0 : Nat) (v : Option Value) (h : Heap) (L : List Loc) : Prop := v = some (.double F_upper) ∧ Fr n0 L ∧ h = h0
set_option maxRecDepth 65536 in
set_option maxHeartbeats 40000000 in
theorem rm_upper (l : Launch) (Z : State) (a0' : Array Value) (hw : ∀ d ∈ tables_1, d.before a0' Z = true) (ws : List Jvm.Cond) (a0 : Addr) (p1 : Int32) (b : Addr) (cl : Cell) (h0 : Heap) (n0 : Nat) (Z0 : n0 ≤ h0.size) (FL : Fld Z h0 a0 "com/example/ferrule/ferrule/learn/Bounds" "upper" "[D" (.ref b)) (Ar : Arr Z h0 b cl .double) (hsz : cl.slots.size = (0 : Int32).toNatClampNeg) (hnn : ¬ (0 : Int32) < 0) (hp : ¬ (p1 < (0 : Int32))) :
    MetFree l (⟨"com/example/ferrule/ferrule/learn/Bounds", "upper", "(I)D"⟩ : MethodName) (head1 (Jvm.Cond.code (⟨"com/example/ferrule/ferrule/learn/Bounds", "upper", "(I)D"⟩ : MethodName) prog_3_method_3_code 2 (some .double) :: ws) ({ frames := 0, cells := 0, slots := 0, locals := 0 } : Room)) (fun a U => a = #[(.ref a0), (.int p1)] ∧ Z.Warmed39 U.vm ∧ U.heap = h0) (fun _ _ _ _ _ => True) (fun _ U o U' => ∃ v L, o = .returned v ∧ Q_upper Z a0 p1 b cl h0 n0 v U'.heap L ∧ FrameEnd U o U' L ({ frames := 0, cells := 0, slots := 0, locals := 0 } : Room).cells ({ frames := 0, cells := 0, slots := 0, locals := 0 } : Room).slots) := by
  refine MetFree.of_bodySF (plainFor_of_name own_pn0) hisR ?_
  intro p e s m args below meth c s₁ Bd hml0 hP hK
  obtain ⟨rfl, hZ, hh⟩ := hP
  have hx := Bd.exec
  have hby := Bd.bytes
  have hml : c.maxLocals = 2 := hml0
  have hown : s.vm.findClass "com/example/ferrule/ferrule/learn/Bounds" = some m.cls := findClass_of_methodNamed Bd.named
  have hnm := (name_of_methodNamed Bd.named Bd.method).1
  have X0 : Stand p l e ({ frames := 0, cells := 0, slots := 0, locals := 0 } : Room) s m #[(.ref a0), (.int p1)] below meth c s₁ [] 0 0 := Stand.of_body Bd
  have e0 : s₁.heap = h0 := by rw [← hh, Bd.state]; rfl
  have N0 := Fr.nil n0
  have pre0 : ∀ t, Steps p.tables e below (s₁.setTop (mkF m 0 #[.val (.ref a0), .val (.int p1)] [])) t → Steps p.tables e below (s₁.setTop (entryFrame m #[(.ref a0), (.int p1)] 2)) t := fun t k => castTop (own_ef_upper m a0 p1) k
  obtain ⟨T14, X14, e14, st14⟩ := getF X0 hx hZ hown (host := "") (Or.inl (hw _ (List.mem_of_getElem? (i := 16) rfl))) Via.refl e0 FL (g := (mkF m 2 #[.val (.ref a0), .val (.int p1)] [(.ref a0), (.int p1)])) rfl rfl (hb hby own_d_upper_2)
  obtain ⟨fs, hr, hrun, hended, hW, hsame⟩ := X14.leave (v := some (.double FP.dconst1)) (fun h => by rw [Bd.returns] at h; cases h)
  refine ⟨_, _, pre0 _ ?_, hrun, hended, _, _, rfl, ?_, ⟨_, rfl⟩, hW, hsame.mono (by decide) (by decide)⟩
  · show Steps p.tables e below (s₁.setTop (mkF m 0 #[.val (.ref a0), .val (.int p1)] [])) _
    refine XS.iloadN X0.here hx rfl (hb hby own_d_upper_0) rfl ?_
    show Steps p.tables e below (s₁.setTop (mkF m 1 #[.val (.ref a0), .val (.int p1)] [(.int p1)])) _
    refine XS.aloadN X0.here hx rfl (hb hby own_d_upper_1) rfl rfl ?_
    show Steps p.tables e below (s₁.setTop (mkF m 2 #[.val (.ref a0), .val (.int p1)] [(.ref a0), (.int p1)])) _
    refine st14 _ ?_
    show Steps p.tables e below (T14.setTop (mkF m 5 #[.val (.ref a0), .val (.int p1)] [(.ref b), (.int p1)])) _
    refine X14.arraylength hx (by rw [e14]; exact Ar.1) (State.isArrayOf_alike hZ.alike Ar.2.1) (g := (mkF m 5 #[.val (.ref a0), .val (.int p1)] [(.ref b), (.int p1)])) rfl rfl (hb hby own_d_upper_5) _ ?_
    rw [len_of hsz hnn]
    show Steps p.tables e below (T14.setTop (mkF m 6 #[.val (.ref a0), .val (.int p1)] [(.int (0 : Int32)), (.int p1)])) _
    refine XS.icmpYes X14.here hx rfl (pc0 := 6) (pc' := 18) rfl (hb hby own_d_upper_6) rfl (flt hp).2.1 (by decide) (by decide) ?_
    show Steps p.tables e below (T14.setTop (mkF m 18 #[.val (.ref a0), .val (.int p1)] [])) _
    refine XS.dconst1 X14.here hx rfl (hb hby own_d_upper_18) rfl ?_
    show Steps p.tables e below (T14.setTop (mkF m 19 #[.val (.ref a0), .val (.int p1)] [(.double FP.dconst1)])) _
    exact own_retD X14 hx Bd.returns (hb hby own_d_upper_19) hr
  · show Q_upper Z a0 p1 b cl h0 n0 _ T14.heap _
    refine ⟨?_, N0, e14⟩
    rw [F_upper]
theorem own_pn1 : plainName "com/example/ferrule/ferrule/learn/BoundsLowerPinLaw" = true := by first | (simp [plainName, overriddenIn]; done) | decide +kernel
theorem own_pd0 : parseMethodDescriptor "(Lcom/example/ferrule/ferrule/learn/Updates;)V" = some ⟨[(.object "com/example/ferrule/ferrule/learn/Updates")], none⟩ := by decide +kernel
theorem own_pd1 : parseMethodDescriptor "(I)D" = some ⟨[.int], some .double⟩ := by decide +kernel
def F_law (p1 : Int32) : Int32 := (if (p1 &&& (1 : Int32)) = (0 : Int32) then (1 : Int32) else (1 : Int32))
theorem own_ef_law (m : MethodId) (p0 : Int32) (p1 : Int32) : entryFrame m #[(.int p0), (.int p1)] maxLocals = mkF m 0 #[.val (.int p0), .val (.int p1), .unset, .unset, .unset, .unset, .unset, .unset, .unset, .unset, .unset] [] := by first | (simp [entryFrame, mkF, argsToLocals, Value.category, maxLocals]; done) | rfl
def Q_law (Z : State) (p0 : Int32) (p1 : Int32) (w_GREYBOX : Addr) (w_BLACKBOX : Addr) (h0 : Heap) (n0 : Nat) (v : Option Value) (h : Heap) (L : List Loc) : Prop := v = some (.int (F_law p1)) ∧ Fr n0 L ∧ True
set_option maxRecDepth 65536 in
set_option maxHeartbeats 40000000 in
theorem rm_law (l : Launch) (Z : State) (a0' : Array Value) (hw : ∀ d ∈ tables_1, d.before a0' Z = true) (ws : List Jvm.Cond) (p0 : Int32) (p1 : Int32) (w_GREYBOX : Addr) (w_BLACKBOX : Addr) (h0 : Heap) (n0 : Nat) (Z0 : n0 ≤ h0.size) (S_GREYBOX : Sta Z h0 "com/example/ferrule/ferrule/learn/Updates" "GREYBOX" "Lcom/example/ferrule/ferrule/learn/Updates;" (.ref w_GREYBOX)) (S_BLACKBOX : Sta Z h0 "com/example/ferrule/ferrule/learn/Updates" "BLACKBOX" "Lcom/example/ferrule/ferrule/learn/Updates;" (.ref w_BLACKBOX)) :
    MetFree l x (head1 (Jvm.Cond.code x code maxLocals ret :: ws) room_1) (fun a U => a = #[(.int p0), (.int p1)] ∧ Z.Warmed39 U.vm ∧ U.heap = h0) (fun _ _ _ _ _ => True) (fun _ U o U' => ∃ v L, o = .returned v ∧ Q_law Z p0 p1 w_GREYBOX w_BLACKBOX h0 n0 v U'.heap L ∧ FrameEnd U o U' L room_1.cells room_1.slots) := by
  refine MetFree.of_bodySF (plainFor_of_name own_pn1) hisR ?_
  intro p e s m args below meth c s₁ Bd hml0 hP hK
  obtain ⟨rfl, hZ, hh⟩ := hP
  have hx := Bd.exec
  have hby := Bd.bytes
  have hml : c.maxLocals = 11 := hml0
  have hown : s.vm.findClass "com/example/ferrule/ferrule/learn/BoundsLowerPinLaw" = some m.cls := findClass_of_methodNamed Bd.named
  have hnm := (name_of_methodNamed Bd.named Bd.method).1
  have X0 : Stand p l e room_1 s m #[(.int p0), (.int p1)] below meth c s₁ [] 0 0 := Stand.of_body Bd
  have e0 : s₁.heap = h0 := by rw [← hh, Bd.state]; rfl
  have N0 := Fr.nil n0
  have pre0 : ∀ t, Steps p.tables e below (s₁.setTop (mkF m 0 #[.val (.int p0), .val (.int p1), .unset, .unset, .unset, .unset, .unset, .unset, .unset, .unset, .unset] [])) t → Steps p.tables e below (s₁.setTop (entryFrame m #[(.int p0), (.int p1)] maxLocals)) t := fun t k => castTop (own_ef_law m p0 p1) k
  have pre16 : ∀ t, Steps p.tables e below (s₁.setTop (mkF m 8 #[.val (.int p0), .val (.int p1), .val (.int (p0 &&& (2147483647 : Int32))), .unset, .unset, .unset, .unset, .unset, .unset, .unset, .unset] [(.int (p1 &&& (1 : Int32)))])) t → Steps p.tables e below (s₁.setTop (entryFrame m #[(.int p0), (.int p1)] maxLocals)) t := fun t k => pre0 t (by
    show Steps p.tables e below (s₁.setTop (mkF m 0 #[.val (.int p0), .val (.int p1), .unset, .unset, .unset, .unset, .unset, .unset, .unset, .unset, .unset] [])) _
    refine XS.iloadN X0.here hx rfl (hb hby at_0) rfl ?_
    show Steps p.tables e below (s₁.setTop (mkF m 1 #[.val (.int p0), .val (.int p1), .unset, .unset, .unset, .unset, .unset, .unset, .unset, .unset, .unset] [(.int p0)])) _
    refine X0.ldcInt hx hown (mvT hZ (hw _ (List.mem_of_getElem? (i := 0) rfl))) (g := (mkF m 1 #[.val (.int p0), .val (.int p1), .unset, .unset, .unset, .unset, .unset, .unset, .unset, .unset, .unset] [(.int p0)])) rfl (hb hby at_1) _ ?_
    show Steps p.tables e below (s₁.setTop (mkF m 3 #[.val (.int p0), .val (.int p1), .unset, .unset, .unset, .unset, .unset, .unset, .unset, .unset, .unset] [(.int (2147483647 : Int32)), (.int p0)])) _
    refine XS.iand X0.here hx rfl (hb hby at_3) rfl ?_
    show Steps p.tables e below (s₁.setTop (mkF m 4 #[.val (.int p0), .val (.int p1), .unset, .unset, .unset, .unset, .unset, .unset, .unset, .unset, .unset] [(.int (p0 &&& (2147483647 : Int32)))])) _
    refine XS.istoreN X0.here hx rfl (hb hby at_4) rfl (l' := #[.val (.int p0), .val (.int p1), .val (.int (p0 &&& (2147483647 : Int32))), .unset, .unset, .unset, .unset, .unset, .unset, .unset, .unset]) rfl ?_
    show Steps p.tables e below (s₁.setTop (mkF m 5 #[.val (.int p0), .val (.int p1), .val (.int (p0 &&& (2147483647 : Int32))), .unset, .unset, .unset, .unset, .unset, .unset, .unset, .unset] [])) _
    refine XS.iloadN X0.here hx rfl (hb hby at_5) rfl ?_
    show Steps p.tables e below (s₁.setTop (mkF m 6 #[.val (.int p0), .val (.int p1), .val (.int (p0 &&& (2147483647 : Int32))), .unset, .unset, .unset, .unset, .unset, .unset, .unset, .unset] [(.int p1)])) _
    refine XS.iconst X0.here hx rfl (hb hby at_6) ?_
    show Steps p.tables e below (s₁.setTop (mkF m 7 #[.val (.int p0), .val (.int p1), .val (.int (p0 &&& (2147483647 : Int32))), .unset, .unset, .unset, .unset, .unset, .unset, .unset, .unset] [(.int (1 : Int32)), (.int p1)])) _
    refine XS.iand X0.here hx rfl (hb hby at_7) rfl ?_
    exact k)
  by_cases hc8_15 : (p1 &&& (1 : Int32)) = (0 : Int32)
  · obtain ⟨T17, X17, e17, st17⟩ := getS2 X0 hx hZ hown (host := "") (Or.inl (hw _ (List.mem_of_getElem? (i := 32) rfl))) Via.refl e0 S_BLACKBOX (g := (mkF m 17 #[.val (.int p0), .val (.int p1), .val (.int (p0 &&& (2147483647 : Int32))), .unset, .unset, .unset, .unset, .unset, .unset, .unset, .unset] [])) rfl (hb hby at_17)
    obtain ⟨T18, h18, X18, e18, E18, A18, D18, -, st18⟩ := newO X17 hx hZ hown (hw _ (List.mem_of_getElem? (i := 4) rfl)) (hw _ (List.mem_of_getElem? (i := 5) rfl)) (hw _ (List.mem_of_getElem? (i := 6) rfl)) e17 (g := (mkF m 21 #[.val (.int p0), .val (.int p1), .val (.int (p0 &&& (2147483647 : Int32))), .val (.ref w_BLACKBOX), .unset, .unset, .unset, .unset, .unset, .unset, .unset] [])) rfl (hb hby at_21) (by decide) (by decide)
    obtain ⟨b18, g18⟩ : ∃ z, z = h0.size := ⟨_, rfl⟩
    rw [← g18] at A18 D18 st18
    have EX18 : Ext h0 h18 := E18
    have g_b18 : n0 ≤ b18 := Nat.le_trans Z0 (Nat.le_of_eq g18.symm)
    have sz_b18 : h0.size ≤ b18 := Nat.le_of_eq g18.symm
    have Z18 : n0 ≤ h18.size := Nat.le_trans Z0 EX18.1
    obtain ⟨_, _, ⟨T19, L19, k19, n19⟩, -, X19, ⟨Lc19, hQ19, l19, y19, z19⟩, st19⟩ := X18.specialBack hx (y := (⟨"com/example/ferrule/ferrule/learn/Bounds", "<init>", "(Lcom/example/ferrule/ferrule/learn/Updates;)V"⟩ : MethodName)) rfl hown (mvT hZ (hw _ (List.mem_of_getElem? (i := 7) rfl))) (mvT hZ (hw _ (List.mem_of_getElem? (i := 8) rfl))) (mvT hZ (hw _ (List.mem_of_getElem? (i := 9) rfl))) (by decide) (backOf (W := 1) (rm_ini l Z a0' hw [] b18 w_BLACKBOX h18 n0 Z18 A18 ((D18 (Or.inl (hw _ (List.mem_of_getElem? (i := 15) rfl))) (ty := (.array .double)) (by decide))) g_b18) hZ (hw _ (List.mem_of_getElem? (i := 9) rfl)) (hw _ (List.mem_of_getElem? (i := 6) rfl)) (by decide) (by decide)) (g := (mkF m 26 #[.val (.int p0), .val (.int p1), .val (.int (p0 &&& (2147483647 : Int32))), .val (.ref w_BLACKBOX), .unset, .unset, .unset, .unset, .unset, .unset, .unset] [(.ref w_BLACKBOX), (.ref b18), (.ref b18)])) rfl (by rw [hml]; rfl) (Steps.refl _) (a := b18) (argsL := [(.ref w_BLACKBOX)]) (rest := [(.ref b18)]) (lenOf own_pd0 rfl) rfl (by show 2 * 0 + _ ≤ _; exact Nat.le_of_eq rfl) (hb hby at_26) (fun _ _ => ⟨rfl, e18, (by decide : 1 + 3 ≤ _), (by decide : 4 + 0 ≤ _)⟩)
    dsimp only [Pt.U, Pt.locs, Pt.cells, Pt.slots] at X19 l19 y19 z19 st19 hQ19
    subst l19 y19 z19
    obtain ⟨rfl, N19q, K19, Ex19, ⟨balower_19, kalower_19, Flower_19, Valower_19⟩, ⟨baupper_19, kaupper_19, Fupper_19, Vaupper_19⟩⟩ := hQ19
    have N19 := Fr.app N0 N19q
    have EX19 : Ext h0 T19.heap := own_extkeep EX18 K19 sz_b18
    have Z19 : n0 ≤ T19.heap.size := Nat.le_trans Z0 EX19.1
    have Vc21 := Valower_19
    obtain ⟨cl21, Ar21, -, S21, N_21, -, -⟩ := Vc21
    obtain ⟨cq20, kq20, q20a, q20b, q20c⟩ := isOf hZ rfl Ex19
    obtain ⟨_, _, ⟨T20, L20, k20, n20⟩, -, X20, ⟨Lc20, hQ20, l20, y20, z20⟩, st20⟩ := X19.virtualBack hx (y := (⟨"com/example/ferrule/ferrule/learn/Bounds", "lower", "(I)D"⟩ : MethodName)) (z := (⟨"com/example/ferrule/ferrule/learn/Bounds", "lower", "(I)D"⟩ : MethodName)) hown (mvT hZ (hw _ (List.mem_of_getElem? (i := 22) rfl))) (mvT hZ (hw _ (List.mem_of_getElem? (i := 23) rfl))) (notFace_of_selects (args := #[]) (mvT hZ (hw _ (List.mem_of_getElem? (i := 25) rfl)))) (mvT hZ (hw _ (List.mem_of_getElem? (i := 25) rfl))) (mvT hZ (hw _ (List.mem_of_getElem? (i := 24) rfl))) (by decide) (backOf (W := 0) (rm_lower l Z a0' hw [] b18 (p0 &&& (2147483647 : Int32)) balower_19 cl21 T19.heap n0 Z19 Flower_19 Ar21 S21 N_21 (own_nn p0)) hZ (hw _ (List.mem_of_getElem? (i := 26) rfl)) (hw _ (List.mem_of_getElem? (i := 6) rfl)) (by decide) (by decide)) q20a q20c (g := (mkF m 34 #[.val (.int p0), .val (.int p1), .val (.int (p0 &&& (2147483647 : Int32))), .val (.ref w_BLACKBOX), .val (.ref b18), .unset, .unset, .unset, .unset, .unset, .unset] [(.int (p0 &&& (2147483647 : Int32))), (.ref b18)])) rfl (by rw [hml]; rfl) (Steps.refl _) (argsL := [(.int (p0 &&& (2147483647 : Int32)))]) (rest := []) (lenOf own_pd1 rfl) rfl (by show 2 * 0 + _ ≤ _; exact Nat.le_of_eq rfl) (hb hby at_34) (fun _ _ => ⟨rfl, rfl, (by decide : 4 + 0 ≤ _), (by decide : 4 + 0 ≤ _)⟩)
    dsimp only [Pt.U, Pt.locs, Pt.cells, Pt.slots] at X20 l20 y20 z20 st20 hQ20
    subst l20 y20 z20
    obtain ⟨rfl, N20q, e20⟩ := hQ20
    have N20 := Fr.app N19 N20q
    have Vc23 := Vaupper_19
    obtain ⟨cl23, Ar23, -, S23, N_23, -, -⟩ := Vc23
    obtain ⟨cq22, kq22, q22a, q22b, q22c⟩ := isOf hZ e20 Ex19
    obtain ⟨_, _, ⟨T22, L22, k22, n22⟩, -, X22, ⟨Lc22, hQ22, l22, y22, z22⟩, st22⟩ := X20.virtualBack hx (y := (⟨"com/example/ferrule/ferrule/learn/Bounds", "upper", "(I)D"⟩ : MethodName)) (z := (⟨"com/example/ferrule/ferrule/learn/Bounds", "upper", "(I)D"⟩ : MethodName)) hown (mvT hZ (hw _ (List.mem_of_getElem? (i := 27) rfl))) (mvT hZ (hw _ (List.mem_of_getElem? (i := 28) rfl))) (notFace_of_selects (args := #[]) (mvT hZ (hw _ (List.mem_of_getElem? (i := 30) rfl)))) (mvT hZ (hw _ (List.mem_of_getElem? (i := 30) rfl))) (mvT hZ (hw _ (List.mem_of_getElem? (i := 29) rfl))) (by decide) (backOf (W := 0) (rm_upper l Z a0' hw [] b18 (p0 &&& (2147483647 : Int32)) baupper_19 cl23 T19.heap n0 Z19 Fupper_19 Ar23 S23 N_23 (own_nn p0)) hZ (hw _ (List.mem_of_getElem? (i := 31) rfl)) (hw _ (List.mem_of_getElem? (i := 6) rfl)) (by decide) (by decide)) q22a q22c (g := (mkF m 42 #[.val (.int p0), .val (.int p1), .val (.int (p0 &&& (2147483647 : Int32))), .val (.ref w_BLACKBOX), .val (.ref b18), .val (.double FP.dconst0), .second, .unset, .unset, .unset, .unset] [(.int (p0 &&& (2147483647 : Int32))), (.ref b18)])) rfl (by rw [hml]; rfl) (Steps.refl _) (argsL := [(.int (p0 &&& (2147483647 : Int32)))]) (rest := []) (lenOf own_pd1 rfl) rfl (by show 2 * 0 + _ ≤ _; exact Nat.le_of_eq rfl) (hb hby at_42) (fun _ _ => ⟨rfl, e20, (by decide : 4 + 0 ≤ _), (by decide : 4 + 0 ≤ _)⟩)
    dsimp only [Pt.U, Pt.locs, Pt.cells, Pt.slots] at X22 l22 y22 z22 st22 hQ22
    subst l22 y22 z22
    obtain ⟨rfl, N22q, e22⟩ := hQ22
    have N22 := Fr.app N20 N22q
    have Vc25 := Valower_19
    obtain ⟨cl25, Ar25, -, S25, N_25, -, -⟩ := Vc25
    obtain ⟨cq24, kq24, q24a, q24b, q24c⟩ := isOf hZ e22 Ex19
    obtain ⟨_, _, ⟨T24, L24, k24, n24⟩, -, X24, ⟨Lc24, hQ24, l24, y24, z24⟩, st24⟩ := X22.virtualBack hx (y := (⟨"com/example/ferrule/ferrule/learn/Bounds", "lower", "(I)D"⟩ : MethodName)) (z := (⟨"com/example/ferrule/ferrule/learn/Bounds", "lower", "(I)D"⟩ : MethodName)) hown (mvT hZ (hw _ (List.mem_of_getElem? (i := 22) rfl))) (mvT hZ (hw _ (List.mem_of_getElem? (i := 23) rfl))) (notFace_of_selects (args := #[]) (mvT hZ (hw _ (List.mem_of_getElem? (i := 25) rfl)))) (mvT hZ (hw _ (List.mem_of_getElem? (i := 25) rfl))) (mvT hZ (hw _ (List.mem_of_getElem? (i := 24) rfl))) (by decide) (backOf (W := 0) (rm_lower l Z a0' hw [] b18 (p0 &&& (2147483647 : Int32)) balower_19 cl25 T19.heap n0 Z19 Flower_19 Ar25 S25 N_25 (own_nn p0)) hZ (hw _ (List.mem_of_getElem? (i := 26) rfl)) (hw _ (List.mem_of_getElem? (i := 6) rfl)) (by decide) (by decide)) q24a q24c (g := (mkF m 50 #[.val (.int p0), .val (.int p1), .val (.int (p0 &&& (2147483647 : Int32))), .val (.ref w_BLACKBOX), .val (.ref b18), .val (.double FP.dconst0), .second, .val (.double FP.dconst1), .second, .unset, .unset] [(.int (p0 &&& (2147483647 : Int32))), (.ref b18)])) rfl (by rw [hml]; rfl) (Steps.refl _) (argsL := [(.int (p0 &&& (2147483647 : Int32)))]) (rest := []) (lenOf own_pd1 rfl) rfl (by show 2 * 0 + _ ≤ _; exact Nat.le_of_eq rfl) (hb hby at_50) (fun _ _ => ⟨rfl, e22, (by decide : 4 + 0 ≤ _), (by decide : 4 + 0 ≤ _)⟩)
    dsimp only [Pt.U, Pt.locs, Pt.cells, Pt.slots] at X24 l24 y24 z24 st24 hQ24
    subst l24 y24 z24
    obtain ⟨rfl, N24q, e24⟩ := hQ24
    have N24 := Fr.app N22 N24q
    obtain ⟨fs, hr, hrun, hended, hW, hsame⟩ := X24.leave (v := some (.int (1 : Int32))) (fun h => by rw [Bd.returns] at h; cases h)
    refine ⟨_, _, pre16 _ ?_, hrun, hended, _, _, rfl, ?_, ⟨_, rfl⟩, hW, hsame.mono (by decide) (by decide)⟩
    · show Steps p.tables e below (s₁.setTop (mkF m 8 #[.val (.int p0), .val (.int p1), .val (.int (p0 &&& (2147483647 : Int32))), .unset, .unset, .unset, .unset, .unset, .unset, .unset, .unset] [(.int (p1 &&& (1 : Int32)))])) _
      refine XS.ifYes X0.here hx rfl (pc0 := 8) (pc' := 17) rfl (hb hby at_8) rfl ((if0 _ _).trans (teq hc8_15).1) (by decide) (by decide) ?_
      show Steps p.tables e below (s₁.setTop (mkF m 17 #[.val (.int p0), .val (.int p1), .val (.int (p0 &&& (2147483647 : Int32))), .unset, .unset, .unset, .unset, .unset, .unset, .unset, .unset] [])) _
      refine st17 _ ?_
      show Steps p.tables e below (T17.setTop (mkF m 20 #[.val (.int p0), .val (.int p1), .val (.int (p0 &&& (2147483647 : Int32))), .unset, .unset, .unset, .unset, .unset, .unset, .unset, .unset] [(.ref w_BLACKBOX)])) _
      refine XS.astoreN X17.here hx rfl (hb hby at_20) rfl rfl (l' := #[.val (.int p0), .val (.int p1), .val (.int (p0 &&& (2147483647 : Int32))), .val (.ref w_BLACKBOX), .unset, .unset, .unset, .unset, .unset, .unset, .unset]) rfl ?_
      show Steps p.tables e below (T17.setTop (mkF m 21 #[.val (.int p0), .val (.int p1), .val (.int (p0 &&& (2147483647 : Int32))), .val (.ref w_BLACKBOX), .unset, .unset, .unset, .unset, .unset, .unset, .unset] [])) _
      refine st18 _ ?_
      show Steps p.tables e below (T18.setTop (mkF m 24 #[.val (.int p0), .val (.int p1), .val (.int (p0 &&& (2147483647 : Int32))), .val (.ref w_BLACKBOX), .unset, .unset, .unset, .unset, .unset, .unset, .unset] [(.ref b18)])) _
      refine XS.dup X18.here hx rfl (hb hby at_24) rfl rfl ?_
      show Steps p.tables e below (T18.setTop (mkF m 25 #[.val (.int p0), .val (.int p1), .val (.int (p0 &&& (2147483647 : Int32))), .val (.ref w_BLACKBOX), .unset, .unset, .unset, .unset, .unset, .unset, .unset] [(.ref b18), (.ref b18)])) _
      refine XS.aloadN X18.here hx rfl (hb hby at_25) rfl rfl ?_
      show Steps p.tables e below (T18.setTop (mkF m 26 #[.val (.int p0), .val (.int p1), .val (.int (p0 &&& (2147483647 : Int32))), .val (.ref w_BLACKBOX), .unset, .unset, .unset, .unset, .unset, .unset, .unset] [(.ref w_BLACKBOX), (.ref b18), (.ref b18)])) _
      refine st19.trans ?_
      show Steps p.tables e below (T19.setTop (mkF m 29 #[.val (.int p0), .val (.int p1), .val (.int (p0 &&& (2147483647 : Int32))), .val (.ref w_BLACKBOX), .unset, .unset, .unset, .unset, .unset, .unset, .unset] [(.ref b18)])) _
      refine XS.astore X19.here hx rfl (hb hby at_29) rfl rfl (l' := #[.val (.int p0), .val (.int p1), .val (.int (p0 &&& (2147483647 : Int32))), .val (.ref w_BLACKBOX), .val (.ref b18), .unset, .unset, .unset, .unset, .unset, .unset]) rfl ?_
      show Steps p.tables e below (T19.setTop (mkF m 31 #[.val (.int p0), .val (.int p1), .val (.int (p0 &&& (2147483647 : Int32))), .val (.ref w_BLACKBOX), .val (.ref b18), .unset, .unset, .unset, .unset, .unset, .unset] [])) _
      refine XS.aload X19.here hx rfl (hb hby at_31) rfl rfl ?_
      show Steps p.tables e below (T19.setTop (mkF m 33 #[.val (.int p0), .val (.int p1), .val (.int (p0 &&& (2147483647 : Int32))), .val (.ref w_BLACKBOX), .val (.ref b18), .unset, .unset, .unset, .unset, .unset, .unset] [(.ref b18)])) _
      refine XS.iloadN X19.here hx rfl (hb hby at_33) rfl ?_
      show Steps p.tables e below (T19.setTop (mkF m 34 #[.val (.int p0), .val (.int p1), .val (.int (p0 &&& (2147483647 : Int32))), .val (.ref w_BLACKBOX), .val (.ref b18), .unset, .unset, .unset, .unset, .unset, .unset] [(.int (p0 &&& (2147483647 : Int32))), (.ref b18)])) _
      refine st20.trans ?_
      show Steps p.tables e below (T20.setTop (mkF m 37 #[.val (.int p0), .val (.int p1), .val (.int (p0 &&& (2147483647 : Int32))), .val (.ref w_BLACKBOX), .val (.ref b18), .unset, .unset, .unset, .unset, .unset, .unset] [(.double FP.dconst0)])) _
      refine XS.dstore X20.here hx rfl (hb hby at_37) rfl (l' := #[.val (.int p0), .val (.int p1), .val (.int (p0 &&& (2147483647 : Int32))), .val (.ref w_BLACKBOX), .val (.ref b18), .val (.double FP.dconst0), .second, .unset, .unset, .unset, .unset]) rfl ?_
      show Steps p.tables e below (T20.setTop (mkF m 39 #[.val (.int p0), .val (.int p1), .val (.int (p0 &&& (2147483647 : Int32))), .val (.ref w_BLACKBOX), .val (.ref b18), .val (.double FP.dconst0), .second, .unset, .unset, .unset, .unset] [])) _
      refine XS.aload X20.here hx rfl (hb hby at_39) rfl rfl ?_
      show Steps p.tables e below (T20.setTop (mkF m 41 #[.val (.int p0), .val (.int p1), .val (.int (p0 &&& (2147483647 : Int32))), .val (.ref w_BLACKBOX), .val (.ref b18), .val (.double FP.dconst0), .second, .unset, .unset, .unset, .unset] [(.ref b18)])) _
      refine XS.iloadN X20.here hx rfl (hb hby at_41) rfl ?_
      show Steps p.tables e below (T20.setTop (mkF m 42 #[.val (.int p0), .val (.int p1), .val (.int (p0 &&& (2147483647 : Int32))), .val (.ref w_BLACKBOX), .val (.ref b18), .val (.double FP.dconst0), .second, .unset, .unset, .unset, .unset] [(.int (p0 &&& (2147483647 : Int32))), (.ref b18)])) _
      refine st22.trans ?_
      show Steps p.tables e below (T22.setTop (mkF m 45 #[.val (.int p0), .val (.int p1), .val (.int (p0 &&& (2147483647 : Int32))), .val (.ref w_BLACKBOX), .val (.ref b18), .val (.double FP.dconst0), .second, .unset, .unset, .unset, .unset] [(.double FP.dconst1)])) _
      refine XS.dstore X22.here hx rfl (hb hby at_45) rfl (l' := #[.val (.int p0), .val (.int p1), .val (.int (p0 &&& (2147483647 : Int32))), .val (.ref w_BLACKBOX), .val (.ref b18), .val (.double FP.dconst0), .second, .val (.double FP.dconst1), .second, .unset, .unset]) rfl ?_
      show Steps p.tables e below (T22.setTop (mkF m 47 #[.val (.int p0), .val (.int p1), .val (.int (p0 &&& (2147483647 : Int32))), .val (.ref w_BLACKBOX), .val (.ref b18), .val (.double FP.dconst0), .second, .val (.double FP.dconst1), .second, .unset, .unset] [])) _
      refine XS.aload X22.here hx rfl (hb hby at_47) rfl rfl ?_
      show Steps p.tables e below (T22.setTop (mkF m 49 #[.val (.int p0), .val (.int p1), .val (.int (p0 &&& (2147483647 : Int32))), .val (.ref w_BLACKBOX), .val (.ref b18), .val (.double FP.dconst0), .second, .val (.double FP.dconst1), .second, .unset, .unset] [(.ref b18)])) _
      refine XS.iloadN X22.here hx rfl (hb hby at_49) rfl ?_
      show Steps p.tables e below (T22.setTop (mkF m 50 #[.val (.int p0), .val (.int p1), .val (.int (p0 &&& (2147483647 : Int32))), .val (.ref w_BLACKBOX), .val (.ref b18), .val (.double FP.dconst0), .second, .val (.double FP.dconst1), .second, .unset, .unset] [(.int (p0 &&& (2147483647 : Int32))), (.ref b18)])) _
      refine st24.trans ?_
      show Steps p.tables e below (T24.setTop (mkF m 53 #[.val (.int p0), .val (.int p1), .val (.int (p0 &&& (2147483647 : Int32))), .val (.ref w_BLACKBOX), .val (.ref b18), .val (.double FP.dconst0), .second, .val (.double FP.dconst1), .second, .unset, .unset] [(.double FP.dconst0)])) _
      refine XS.dstore X24.here hx rfl (hb hby at_53) rfl (l' := #[.val (.int p0), .val (.int p1), .val (.int (p0 &&& (2147483647 : Int32))), .val (.ref w_BLACKBOX), .val (.ref b18), .val (.double FP.dconst0), .second, .val (.double FP.dconst1), .second, .val (.double FP.dconst0), .second]) rfl ?_
      show Steps p.tables e below (T24.setTop (mkF m 55 #[.val (.int p0), .val (.int p1), .val (.int (p0 &&& (2147483647 : Int32))), .val (.ref w_BLACKBOX), .val (.ref b18), .val (.double FP.dconst0), .second, .val (.double FP.dconst1), .second, .val (.double FP.dconst0), .second] [])) _
      refine XS.dload X24.here hx rfl (hb hby at_55) rfl ?_
      show Steps p.tables e below (T24.setTop (mkF m 57 #[.val (.int p0), .val (.int p1), .val (.int (p0 &&& (2147483647 : Int32))), .val (.ref w_BLACKBOX), .val (.ref b18), .val (.double FP.dconst0), .second, .val (.double FP.dconst1), .second, .val (.double FP.dconst0), .second] [(.double FP.dconst0)])) _
      refine XS.dconst0 X24.here hx rfl (hb hby at_57) rfl ?_
      show Steps p.tables e below (T24.setTop (mkF m 58 #[.val (.int p0), .val (.int p1), .val (.int (p0 &&& (2147483647 : Int32))), .val (.ref w_BLACKBOX), .val (.ref b18), .val (.double FP.dconst0), .second, .val (.double FP.dconst1), .second, .val (.double FP.dconst0), .second] [(.double FP.dconst0), (.double FP.dconst0)])) _
      refine XS.dcmpS X24.here hx rfl (hb hby at_58) rfl rfl ?_
      show Steps p.tables e below (T24.setTop (mkF m 59 #[.val (.int p0), .val (.int p1), .val (.int (p0 &&& (2147483647 : Int32))), .val (.ref w_BLACKBOX), .val (.ref b18), .val (.double FP.dconst0), .second, .val (.double FP.dconst1), .second, .val (.double FP.dconst0), .second] [(.int (cmpValue (FP.dcmp FP.dconst0 FP.dconst0) .l))])) _
      refine XS.ifNo X24.here hx rfl (hb hby at_59) rfl ((if0 _ _).trans (teq own_c00).2) ?_
      show Steps p.tables e below (T24.setTop (mkF m 62 #[.val (.int p0), .val (.int p1), .val (.int (p0 &&& (2147483647 : Int32))), .val (.ref w_BLACKBOX), .val (.ref b18), .val (.double FP.dconst0), .second, .val (.double FP.dconst1), .second, .val (.double FP.dconst0), .second] [])) _
      refine XS.dload X24.here hx rfl (hb hby at_62) rfl ?_
      show Steps p.tables e below (T24.setTop (mkF m 64 #[.val (.int p0), .val (.int p1), .val (.int (p0 &&& (2147483647 : Int32))), .val (.ref w_BLACKBOX), .val (.ref b18), .val (.double FP.dconst0), .second, .val (.double FP.dconst1), .second, .val (.double FP.dconst0), .second] [(.double FP.dconst1)])) _
      refine XS.dconst1 X24.here hx rfl (hb hby at_64) rfl ?_
      show Steps p.tables e below (T24.setTop (mkF m 65 #[.val (.int p0), .val (.int p1), .val (.int (p0 &&& (2147483647 : Int32))), .val (.ref w_BLACKBOX), .val (.ref b18), .val (.double FP.dconst0), .second, .val (.double FP.dconst1), .second, .val (.double FP.dconst0), .second] [(.double FP.dconst1), (.double FP.dconst1)])) _
      refine XS.dcmpS X24.here hx rfl (hb hby at_65) rfl rfl ?_
      show Steps p.tables e below (T24.setTop (mkF m 66 #[.val (.int p0), .val (.int p1), .val (.int (p0 &&& (2147483647 : Int32))), .val (.ref w_BLACKBOX), .val (.ref b18), .val (.double FP.dconst0), .second, .val (.double FP.dconst1), .second, .val (.double FP.dconst0), .second] [(.int (cmpValue (FP.dcmp FP.dconst1 FP.dconst1) .l))])) _
      refine XS.ifNo X24.here hx rfl (hb hby at_66) rfl ((if0 _ _).trans (teq own_c11).2) ?_
      show Steps p.tables e below (T24.setTop (mkF m 69 #[.val (.int p0), .val (.int p1), .val (.int (p0 &&& (2147483647 : Int32))), .val (.ref w_BLACKBOX), .val (.ref b18), .val (.double FP.dconst0), .second, .val (.double FP.dconst1), .second, .val (.double FP.dconst0), .second] [])) _
      refine XS.dload X24.here hx rfl (hb hby at_69) rfl ?_
      show Steps p.tables e below (T24.setTop (mkF m 71 #[.val (.int p0), .val (.int p1), .val (.int (p0 &&& (2147483647 : Int32))), .val (.ref w_BLACKBOX), .val (.ref b18), .val (.double FP.dconst0), .second, .val (.double FP.dconst1), .second, .val (.double FP.dconst0), .second] [(.double FP.dconst0)])) _
      refine XS.dload X24.here hx rfl (hb hby at_71) rfl ?_
      show Steps p.tables e below (T24.setTop (mkF m 73 #[.val (.int p0), .val (.int p1), .val (.int (p0 &&& (2147483647 : Int32))), .val (.ref w_BLACKBOX), .val (.ref b18), .val (.double FP.dconst0), .second, .val (.double FP.dconst1), .second, .val (.double FP.dconst0), .second] [(.double FP.dconst0), (.double FP.dconst0)])) _
      refine XS.dcmpS X24.here hx rfl (hb hby at_73) rfl rfl ?_
      show Steps p.tables e below (T24.setTop (mkF m 74 #[.val (.int p0), .val (.int p1), .val (.int (p0 &&& (2147483647 : Int32))), .val (.ref w_BLACKBOX), .val (.ref b18), .val (.double FP.dconst0), .second, .val (.double FP.dconst1), .second, .val (.double FP.dconst0), .second] [(.int (cmpValue (FP.dcmp FP.dconst0 FP.dconst0) .l))])) _
      refine XS.ifNo X24.here hx rfl (hb hby at_74) rfl ((if0 _ _).trans (teq own_c00).2) ?_
      show Steps p.tables e below (T24.setTop (mkF m 77 #[.val (.int p0), .val (.int p1), .val (.int (p0 &&& (2147483647 : Int32))), .val (.ref w_BLACKBOX), .val (.ref b18), .val (.double FP.dconst0), .second, .val (.double FP.dconst1), .second, .val (.double FP.dconst0), .second] [])) _
      refine XS.dload X24.here hx rfl (hb hby at_77) rfl ?_
      show Steps p.tables e below (T24.setTop (mkF m 79 #[.val (.int p0), .val (.int p1), .val (.int (p0 &&& (2147483647 : Int32))), .val (.ref w_BLACKBOX), .val (.ref b18), .val (.double FP.dconst0), .second, .val (.double FP.dconst1), .second, .val (.double FP.dconst0), .second] [(.double FP.dconst0)])) _
      refine XS.dload X24.here hx rfl (hb hby at_79) rfl ?_
      show Steps p.tables e below (T24.setTop (mkF m 81 #[.val (.int p0), .val (.int p1), .val (.int (p0 &&& (2147483647 : Int32))), .val (.ref w_BLACKBOX), .val (.ref b18), .val (.double FP.dconst0), .second, .val (.double FP.dconst1), .second, .val (.double FP.dconst0), .second] [(.double FP.dconst1), (.double FP.dconst0)])) _
      refine XS.dcmpS X24.here hx rfl (hb hby at_81) rfl rfl ?_
      show Steps p.tables e below (T24.setTop (mkF m 82 #[.val (.int p0), .val (.int p1), .val (.int (p0 &&& (2147483647 : Int32))), .val (.ref w_BLACKBOX), .val (.ref b18), .val (.double FP.dconst0), .second, .val (.double FP.dconst1), .second, .val (.double FP.dconst0), .second] [(.int (cmpValue (FP.dcmp FP.dconst0 FP.dconst1) .g))])) _
      refine XS.ifNo X24.here hx rfl (hb hby at_82) rfl ((if0 _ _).trans (flt own_c01).2.2.1) ?_
      show Steps p.tables e below (T24.setTop (mkF m 85 #[.val (.int p0), .val (.int p1), .val (.int (p0 &&& (2147483647 : Int32))), .val (.ref w_BLACKBOX), .val (.ref b18), .val (.double FP.dconst0), .second, .val (.double FP.dconst1), .second, .val (.double FP.dconst0), .second] [])) _
      refine XS.iconst X24.here hx rfl (hb hby at_85) ?_
      show Steps p.tables e below (T24.setTop (mkF m 86 #[.val (.int p0), .val (.int p1), .val (.int (p0 &&& (2147483647 : Int32))), .val (.ref w_BLACKBOX), .val (.ref b18), .val (.double FP.dconst0), .second, .val (.double FP.dconst1), .second, .val (.double FP.dconst0), .second] [(.int (1 : Int32))])) _
      refine XS.goto X24.here hx rfl (pc0 := 86) (pc' := 90) rfl (hb hby at_86) (by decide) (by decide) ?_
      show Steps p.tables e below (T24.setTop (mkF m 90 #[.val (.int p0), .val (.int p1), .val (.int (p0 &&& (2147483647 : Int32))), .val (.ref w_BLACKBOX), .val (.ref b18), .val (.double FP.dconst0), .second, .val (.double FP.dconst1), .second, .val (.double FP.dconst0), .second] [(.int (1 : Int32))])) _
      exact retN X24 hx (t := .boolean) Bd.returns (by simp) (hb hby at_90) hr
    · show Q_law Z p0 p1 w_GREYBOX w_BLACKBOX h0 n0 _ T24.heap _
      refine ⟨?_, N24, trivial⟩
      rw [F_law, if_pos hc8_15]
  · obtain ⟨T26, X26, e26, st26⟩ := getS2 X0 hx hZ hown (host := "") (Or.inl (hw _ (List.mem_of_getElem? (i := 1) rfl))) Via.refl e0 S_GREYBOX (g := (mkF m 11 #[.val (.int p0), .val (.int p1), .val (.int (p0 &&& (2147483647 : Int32))), .unset, .unset, .unset, .unset, .unset, .unset, .unset, .unset] [])) rfl (hb hby at_11)
    obtain ⟨T27, h27, X27, e27, E27, A27, D27, -, st27⟩ := newO X26 hx hZ hown (hw _ (List.mem_of_getElem? (i := 4) rfl)) (hw _ (List.mem_of_getElem? (i := 5) rfl)) (hw _ (List.mem_of_getElem? (i := 6) rfl)) e26 (g := (mkF m 21 #[.val (.int p0), .val (.int p1), .val (.int (p0 &&& (2147483647 : Int32))), .val (.ref w_GREYBOX), .unset, .unset, .unset, .unset, .unset, .unset, .unset] [])) rfl (hb hby at_21) (by decide) (by decide)
    obtain ⟨b27, g27⟩ : ∃ z, z = h0.size := ⟨_, rfl⟩
    rw [← g27] at A27 D27 st27
    have EX27 : Ext h0 h27 := E27
    have g_b27 : n0 ≤ b27 := Nat.le_trans Z0 (Nat.le_of_eq g27.symm)
    have sz_b27 : h0.size ≤ b27 := Nat.le_of_eq g27.symm
    have Z27 : n0 ≤ h27.size := Nat.le_trans Z0 EX27.1
    obtain ⟨_, _, ⟨T28, L28, k28, n28⟩, -, X28, ⟨Lc28, hQ28, l28, y28, z28⟩, st28⟩ := X27.specialBack hx (y := (⟨"com/example/ferrule/ferrule/learn/Bounds", "<init>", "(Lcom/example/ferrule/ferrule/learn/Updates;)V"⟩ : MethodName)) rfl hown (mvT hZ (hw _ (List.mem_of_getElem? (i := 7) rfl))) (mvT hZ (hw _ (List.mem_of_getElem? (i := 8) rfl))) (mvT hZ (hw _ (List.mem_of_getElem? (i := 9) rfl))) (by decide) (backOf (W := 1) (rm_ini l Z a0' hw [] b27 w_GREYBOX h27 n0 Z27 A27 ((D27 (Or.inl (hw _ (List.mem_of_getElem? (i := 15) rfl))) (ty := (.array .double)) (by decide))) g_b27) hZ (hw _ (List.mem_of_getElem? (i := 9) rfl)) (hw _ (List.mem_of_getElem? (i := 6) rfl)) (by decide) (by decide)) (g := (mkF m 26 #[.val (.int p0), .val (.int p1), .val (.int (p0 &&& (2147483647 : Int32))), .val (.ref w_GREYBOX), .unset, .unset, .unset, .unset, .unset, .unset, .unset] [(.ref w_GREYBOX), (.ref b27), (.ref b27)])) rfl (by rw [hml]; rfl) (Steps.refl _) (a := b27) (argsL := [(.ref w_GREYBOX)]) (rest := [(.ref b27)]) (lenOf own_pd0 rfl) rfl (by show 2 * 0 + _ ≤ _; exact Nat.le_of_eq rfl) (hb hby at_26) (fun _ _ => ⟨rfl, e27, (by decide : 1 + 3 ≤ _), (by decide : 4 + 0 ≤ _)⟩)
    dsimp only [Pt.U, Pt.locs, Pt.cells, Pt.slots] at X28 l28 y28 z28 st28 hQ28
    subst l28 y28 z28
    obtain ⟨rfl, N28q, K28, Ex28, ⟨balower_28, kalower_28, Flower_28, Valower_28⟩, ⟨baupper_28, kaupper_28, Fupper_28, Vaupper_28⟩⟩ := hQ28
    have N28 := Fr.app N0 N28q
    have EX28 : Ext h0 T28.heap := own_extkeep EX27 K28 sz_b27
    have Z28 : n0 ≤ T28.heap.size := Nat.le_trans Z0 EX28.1
    have Vc30 := Valower_28
    obtain ⟨cl30, Ar30, -, S30, N_30, -, -⟩ := Vc30
    obtain ⟨cq29, kq29, q29a, q29b, q29c⟩ := isOf hZ rfl Ex28
    obtain ⟨_, _, ⟨T29, L29, k29, n29⟩, -, X29, ⟨Lc29, hQ29, l29, y29, z29⟩, st29⟩ := X28.virtualBack hx (y := (⟨"com/example/ferrule/ferrule/learn/Bounds", "lower", "(I)D"⟩ : MethodName)) (z := (⟨"com/example/ferrule/ferrule/learn/Bounds", "lower", "(I)D"⟩ : MethodName)) hown (mvT hZ (hw _ (List.mem_of_getElem? (i := 22) rfl))) (mvT hZ (hw _ (List.mem_of_getElem? (i := 23) rfl))) (notFace_of_selects (args := #[]) (mvT hZ (hw _ (List.mem_of_getElem? (i := 25) rfl)))) (mvT hZ (hw _ (List.mem_of_getElem? (i := 25) rfl))) (mvT hZ (hw _ (List.mem_of_getElem? (i := 24) rfl))) (by decide) (backOf (W := 0) (rm_lower l Z a0' hw [] b27 (p0 &&& (2147483647 : Int32)) balower_28 cl30 T28.heap n0 Z28 Flower_28 Ar30 S30 N_30 (own_nn p0)) hZ (hw _ (List.mem_of_getElem? (i := 26) rfl)) (hw _ (List.mem_of_getElem? (i := 6) rfl)) (by decide) (by decide)) q29a q29c (g := (mkF m 34 #[.val (.int p0), .val (.int p1), .val (.int (p0 &&& (2147483647 : Int32))), .val (.ref w_GREYBOX), .val (.ref b27), .unset, .unset, .unset, .unset, .unset, .unset] [(.int (p0 &&& (2147483647 : Int32))), (.ref b27)])) rfl (by rw [hml]; rfl) (Steps.refl _) (argsL := [(.int (p0 &&& (2147483647 : Int32)))]) (rest := []) (lenOf own_pd1 rfl) rfl (by show 2 * 0 + _ ≤ _; exact Nat.le_of_eq rfl) (hb hby at_34) (fun _ _ => ⟨rfl, rfl, (by decide : 4 + 0 ≤ _), (by decide : 4 + 0 ≤ _)⟩)
    dsimp only [Pt.U, Pt.locs, Pt.cells, Pt.slots] at X29 l29 y29 z29 st29 hQ29
    subst l29 y29 z29
    obtain ⟨rfl, N29q, e29⟩ := hQ29
    have N29 := Fr.app N28 N29q
    have Vc32 := Vaupper_28
    obtain ⟨cl32, Ar32, -, S32, N_32, -, -⟩ := Vc32
    obtain ⟨cq31, kq31, q31a, q31b, q31c⟩ := isOf hZ e29 Ex28
    obtain ⟨_, _, ⟨T31, L31, k31, n31⟩, -, X31, ⟨Lc31, hQ31, l31, y31, z31⟩, st31⟩ := X29.virtualBack hx (y := (⟨"com/example/ferrule/ferrule/learn/Bounds", "upper", "(I)D"⟩ : MethodName)) (z := (⟨"com/example/ferrule/ferrule/learn/Bounds", "upper", "(I)D"⟩ : MethodName)) hown (mvT hZ (hw _ (List.mem_of_getElem? (i := 27) rfl))) (mvT hZ (hw _ (List.mem_of_getElem? (i := 28) rfl))) (notFace_of_selects (args := #[]) (mvT hZ (hw _ (List.mem_of_getElem? (i := 30) rfl)))) (mvT hZ (hw _ (List.mem_of_getElem? (i := 30) rfl))) (mvT hZ (hw _ (List.mem_of_getElem? (i := 29) rfl))) (by decide) (backOf (W := 0) (rm_upper l Z a0' hw [] b27 (p0 &&& (2147483647 : Int32)) baupper_28 cl32 T28.heap n0 Z28 Fupper_28 Ar32 S32 N_32 (own_nn p0)) hZ (hw _ (List.mem_of_getElem? (i := 31) rfl)) (hw _ (List.mem_of_getElem? (i := 6) rfl)) (by decide) (by decide)) q31a q31c (g := (mkF m 42 #[.val (.int p0), .val (.int p1), .val (.int (p0 &&& (2147483647 : Int32))), .val (.ref w_GREYBOX), .val (.ref b27), .val (.double FP.dconst0), .second, .unset, .unset, .unset, .unset] [(.int (p0 &&& (2147483647 : Int32))), (.ref b27)])) rfl (by rw [hml]; rfl) (Steps.refl _) (argsL := [(.int (p0 &&& (2147483647 : Int32)))]) (rest := []) (lenOf own_pd1 rfl) rfl (by show 2 * 0 + _ ≤ _; exact Nat.le_of_eq rfl) (hb hby at_42) (fun _ _ => ⟨rfl, e29, (by decide : 4 + 0 ≤ _), (by decide : 4 + 0 ≤ _)⟩)
    dsimp only [Pt.U, Pt.locs, Pt.cells, Pt.slots] at X31 l31 y31 z31 st31 hQ31
    subst l31 y31 z31
    obtain ⟨rfl, N31q, e31⟩ := hQ31
    have N31 := Fr.app N29 N31q
    have Vc34 := Valower_28
    obtain ⟨cl34, Ar34, -, S34, N_34, -, -⟩ := Vc34
    obtain ⟨cq33, kq33, q33a, q33b, q33c⟩ := isOf hZ e31 Ex28
    obtain ⟨_, _, ⟨T33, L33, k33, n33⟩, -, X33, ⟨Lc33, hQ33, l33, y33, z33⟩, st33⟩ := X31.virtualBack hx (y := (⟨"com/example/ferrule/ferrule/learn/Bounds", "lower", "(I)D"⟩ : MethodName)) (z := (⟨"com/example/ferrule/ferrule/learn/Bounds", "lower", "(I)D"⟩ : MethodName)) hown (mvT hZ (hw _ (List.mem_of_getElem? (i := 22) rfl))) (mvT hZ (hw _ (List.mem_of_getElem? (i := 23) rfl))) (notFace_of_selects (args := #[]) (mvT hZ (hw _ (List.mem_of_getElem? (i := 25) rfl)))) (mvT hZ (hw _ (List.mem_of_getElem? (i := 25) rfl))) (mvT hZ (hw _ (List.mem_of_getElem? (i := 24) rfl))) (by decide) (backOf (W := 0) (rm_lower l Z a0' hw [] b27 (p0 &&& (2147483647 : Int32)) balower_28 cl34 T28.heap n0 Z28 Flower_28 Ar34 S34 N_34 (own_nn p0)) hZ (hw _ (List.mem_of_getElem? (i := 26) rfl)) (hw _ (List.mem_of_getElem? (i := 6) rfl)) (by decide) (by decide)) q33a q33c (g := (mkF m 50 #[.val (.int p0), .val (.int p1), .val (.int (p0 &&& (2147483647 : Int32))), .val (.ref w_GREYBOX), .val (.ref b27), .val (.double FP.dconst0), .second, .val (.double FP.dconst1), .second, .unset, .unset] [(.int (p0 &&& (2147483647 : Int32))), (.ref b27)])) rfl (by rw [hml]; rfl) (Steps.refl _) (argsL := [(.int (p0 &&& (2147483647 : Int32)))]) (rest := []) (lenOf own_pd1 rfl) rfl (by show 2 * 0 + _ ≤ _; exact Nat.le_of_eq rfl) (hb hby at_50) (fun _ _ => ⟨rfl, e31, (by decide : 4 + 0 ≤ _), (by decide : 4 + 0 ≤ _)⟩)
    dsimp only [Pt.U, Pt.locs, Pt.cells, Pt.slots] at X33 l33 y33 z33 st33 hQ33
    subst l33 y33 z33
    obtain ⟨rfl, N33q, e33⟩ := hQ33
    have N33 := Fr.app N31 N33q
    obtain ⟨fs, hr, hrun, hended, hW, hsame⟩ := X33.leave (v := some (.int (1 : Int32))) (fun h => by rw [Bd.returns] at h; cases h)
    refine ⟨_, _, pre16 _ ?_, hrun, hended, _, _, rfl, ?_, ⟨_, rfl⟩, hW, hsame.mono (by decide) (by decide)⟩
    · show Steps p.tables e below (s₁.setTop (mkF m 8 #[.val (.int p0), .val (.int p1), .val (.int (p0 &&& (2147483647 : Int32))), .unset, .unset, .unset, .unset, .unset, .unset, .unset, .unset] [(.int (p1 &&& (1 : Int32)))])) _
      refine XS.ifNo X0.here hx rfl (hb hby at_8) rfl ((if0 _ _).trans (feq hc8_15).1) ?_
      show Steps p.tables e below (s₁.setTop (mkF m 11 #[.val (.int p0), .val (.int p1), .val (.int (p0 &&& (2147483647 : Int32))), .unset, .unset, .unset, .unset, .unset, .unset, .unset, .unset] [])) _
      refine st26 _ ?_
      show Steps p.tables e below (T26.setTop (mkF m 14 #[.val (.int p0), .val (.int p1), .val (.int (p0 &&& (2147483647 : Int32))), .unset, .unset, .unset, .unset, .unset, .unset, .unset, .unset] [(.ref w_GREYBOX)])) _
      refine XS.goto X26.here hx rfl (pc0 := 14) (pc' := 20) rfl (hb hby at_14) (by decide) (by decide) ?_
      show Steps p.tables e below (T26.setTop (mkF m 20 #[.val (.int p0), .val (.int p1), .val (.int (p0 &&& (2147483647 : Int32))), .unset, .unset, .unset, .unset, .unset, .unset, .unset, .unset] [(.ref w_GREYBOX)])) _
      refine XS.astoreN X26.here hx rfl (hb hby at_20) rfl rfl (l' := #[.val (.int p0), .val (.int p1), .val (.int (p0 &&& (2147483647 : Int32))), .val (.ref w_GREYBOX), .unset, .unset, .unset, .unset, .unset, .unset, .unset]) rfl ?_
      show Steps p.tables e below (T26.setTop (mkF m 21 #[.val (.int p0), .val (.int p1), .val (.int (p0 &&& (2147483647 : Int32))), .val (.ref w_GREYBOX), .unset, .unset, .unset, .unset, .unset, .unset, .unset] [])) _
      refine st27 _ ?_
      show Steps p.tables e below (T27.setTop (mkF m 24 #[.val (.int p0), .val (.int p1), .val (.int (p0 &&& (2147483647 : Int32))), .val (.ref w_GREYBOX), .unset, .unset, .unset, .unset, .unset, .unset, .unset] [(.ref b27)])) _
      refine XS.dup X27.here hx rfl (hb hby at_24) rfl rfl ?_
      show Steps p.tables e below (T27.setTop (mkF m 25 #[.val (.int p0), .val (.int p1), .val (.int (p0 &&& (2147483647 : Int32))), .val (.ref w_GREYBOX), .unset, .unset, .unset, .unset, .unset, .unset, .unset] [(.ref b27), (.ref b27)])) _
      refine XS.aloadN X27.here hx rfl (hb hby at_25) rfl rfl ?_
      show Steps p.tables e below (T27.setTop (mkF m 26 #[.val (.int p0), .val (.int p1), .val (.int (p0 &&& (2147483647 : Int32))), .val (.ref w_GREYBOX), .unset, .unset, .unset, .unset, .unset, .unset, .unset] [(.ref w_GREYBOX), (.ref b27), (.ref b27)])) _
      refine st28.trans ?_
      show Steps p.tables e below (T28.setTop (mkF m 29 #[.val (.int p0), .val (.int p1), .val (.int (p0 &&& (2147483647 : Int32))), .val (.ref w_GREYBOX), .unset, .unset, .unset, .unset, .unset, .unset, .unset] [(.ref b27)])) _
      refine XS.astore X28.here hx rfl (hb hby at_29) rfl rfl (l' := #[.val (.int p0), .val (.int p1), .val (.int (p0 &&& (2147483647 : Int32))), .val (.ref w_GREYBOX), .val (.ref b27), .unset, .unset, .unset, .unset, .unset, .unset]) rfl ?_
      show Steps p.tables e below (T28.setTop (mkF m 31 #[.val (.int p0), .val (.int p1), .val (.int (p0 &&& (2147483647 : Int32))), .val (.ref w_GREYBOX), .val (.ref b27), .unset, .unset, .unset, .unset, .unset, .unset] [])) _
      refine XS.aload X28.here hx rfl (hb hby at_31) rfl rfl ?_
      show Steps p.tables e below (T28.setTop (mkF m 33 #[.val (.int p0), .val (.int p1), .val (.int (p0 &&& (2147483647 : Int32))), .val (.ref w_GREYBOX), .val (.ref b27), .unset, .unset, .unset, .unset, .unset, .unset] [(.ref b27)])) _
      refine XS.iloadN X28.here hx rfl (hb hby at_33) rfl ?_
      show Steps p.tables e below (T28.setTop (mkF m 34 #[.val (.int p0), .val (.int p1), .val (.int (p0 &&& (2147483647 : Int32))), .val (.ref w_GREYBOX), .val (.ref b27), .unset, .unset, .unset, .unset, .unset, .unset] [(.int (p0 &&& (2147483647 : Int32))), (.ref b27)])) _
      refine st29.trans ?_
      show Steps p.tables e below (T29.setTop (mkF m 37 #[.val (.int p0), .val (.int p1), .val (.int (p0 &&& (2147483647 : Int32))), .val (.ref w_GREYBOX), .val (.ref b27), .unset, .unset, .unset, .unset, .unset, .unset] [(.double FP.dconst0)])) _
      refine XS.dstore X29.here hx rfl (hb hby at_37) rfl (l' := #[.val (.int p0), .val (.int p1), .val (.int (p0 &&& (2147483647 : Int32))), .val (.ref w_GREYBOX), .val (.ref b27), .val (.double FP.dconst0), .second, .unset, .unset, .unset, .unset]) rfl ?_
      show Steps p.tables e below (T29.setTop (mkF m 39 #[.val (.int p0), .val (.int p1), .val (.int (p0 &&& (2147483647 : Int32))), .val (.ref w_GREYBOX), .val (.ref b27), .val (.double FP.dconst0), .second, .unset, .unset, .unset, .unset] [])) _
      refine XS.aload X29.here hx rfl (hb hby at_39) rfl rfl ?_
      show Steps p.tables e below (T29.setTop (mkF m 41 #[.val (.int p0), .val (.int p1), .val (.int (p0 &&& (2147483647 : Int32))), .val (.ref w_GREYBOX), .val (.ref b27), .val (.double FP.dconst0), .second, .unset, .unset, .unset, .unset] [(.ref b27)])) _
      refine XS.iloadN X29.here hx rfl (hb hby at_41) rfl ?_
      show Steps p.tables e below (T29.setTop (mkF m 42 #[.val (.int p0), .val (.int p1), .val (.int (p0 &&& (2147483647 : Int32))), .val (.ref w_GREYBOX), .val (.ref b27), .val (.double FP.dconst0), .second, .unset, .unset, .unset, .unset] [(.int (p0 &&& (2147483647 : Int32))), (.ref b27)])) _
      refine st31.trans ?_
      show Steps p.tables e below (T31.setTop (mkF m 45 #[.val (.int p0), .val (.int p1), .val (.int (p0 &&& (2147483647 : Int32))), .val (.ref w_GREYBOX), .val (.ref b27), .val (.double FP.dconst0), .second, .unset, .unset, .unset, .unset] [(.double FP.dconst1)])) _
      refine XS.dstore X31.here hx rfl (hb hby at_45) rfl (l' := #[.val (.int p0), .val (.int p1), .val (.int (p0 &&& (2147483647 : Int32))), .val (.ref w_GREYBOX), .val (.ref b27), .val (.double FP.dconst0), .second, .val (.double FP.dconst1), .second, .unset, .unset]) rfl ?_
      show Steps p.tables e below (T31.setTop (mkF m 47 #[.val (.int p0), .val (.int p1), .val (.int (p0 &&& (2147483647 : Int32))), .val (.ref w_GREYBOX), .val (.ref b27), .val (.double FP.dconst0), .second, .val (.double FP.dconst1), .second, .unset, .unset] [])) _
      refine XS.aload X31.here hx rfl (hb hby at_47) rfl rfl ?_
      show Steps p.tables e below (T31.setTop (mkF m 49 #[.val (.int p0), .val (.int p1), .val (.int (p0 &&& (2147483647 : Int32))), .val (.ref w_GREYBOX), .val (.ref b27), .val (.double FP.dconst0), .second, .val (.double FP.dconst1), .second, .unset, .unset] [(.ref b27)])) _
      refine XS.iloadN X31.here hx rfl (hb hby at_49) rfl ?_
      show Steps p.tables e below (T31.setTop (mkF m 50 #[.val (.int p0), .val (.int p1), .val (.int (p0 &&& (2147483647 : Int32))), .val (.ref w_GREYBOX), .val (.ref b27), .val (.double FP.dconst0), .second, .val (.double FP.dconst1), .second, .unset, .unset] [(.int (p0 &&& (2147483647 : Int32))), (.ref b27)])) _
      refine st33.trans ?_
      show Steps p.tables e below (T33.setTop (mkF m 53 #[.val (.int p0), .val (.int p1), .val (.int (p0 &&& (2147483647 : Int32))), .val (.ref w_GREYBOX), .val (.ref b27), .val (.double FP.dconst0), .second, .val (.double FP.dconst1), .second, .unset, .unset] [(.double FP.dconst0)])) _
      refine XS.dstore X33.here hx rfl (hb hby at_53) rfl (l' := #[.val (.int p0), .val (.int p1), .val (.int (p0 &&& (2147483647 : Int32))), .val (.ref w_GREYBOX), .val (.ref b27), .val (.double FP.dconst0), .second, .val (.double FP.dconst1), .second, .val (.double FP.dconst0), .second]) rfl ?_
      show Steps p.tables e below (T33.setTop (mkF m 55 #[.val (.int p0), .val (.int p1), .val (.int (p0 &&& (2147483647 : Int32))), .val (.ref w_GREYBOX), .val (.ref b27), .val (.double FP.dconst0), .second, .val (.double FP.dconst1), .second, .val (.double FP.dconst0), .second] [])) _
      refine XS.dload X33.here hx rfl (hb hby at_55) rfl ?_
      show Steps p.tables e below (T33.setTop (mkF m 57 #[.val (.int p0), .val (.int p1), .val (.int (p0 &&& (2147483647 : Int32))), .val (.ref w_GREYBOX), .val (.ref b27), .val (.double FP.dconst0), .second, .val (.double FP.dconst1), .second, .val (.double FP.dconst0), .second] [(.double FP.dconst0)])) _
      refine XS.dconst0 X33.here hx rfl (hb hby at_57) rfl ?_
      show Steps p.tables e below (T33.setTop (mkF m 58 #[.val (.int p0), .val (.int p1), .val (.int (p0 &&& (2147483647 : Int32))), .val (.ref w_GREYBOX), .val (.ref b27), .val (.double FP.dconst0), .second, .val (.double FP.dconst1), .second, .val (.double FP.dconst0), .second] [(.double FP.dconst0), (.double FP.dconst0)])) _
      refine XS.dcmpS X33.here hx rfl (hb hby at_58) rfl rfl ?_
      show Steps p.tables e below (T33.setTop (mkF m 59 #[.val (.int p0), .val (.int p1), .val (.int (p0 &&& (2147483647 : Int32))), .val (.ref w_GREYBOX), .val (.ref b27), .val (.double FP.dconst0), .second, .val (.double FP.dconst1), .second, .val (.double FP.dconst0), .second] [(.int (cmpValue (FP.dcmp FP.dconst0 FP.dconst0) .l))])) _
      refine XS.ifNo X33.here hx rfl (hb hby at_59) rfl ((if0 _ _).trans (teq own_c00).2) ?_
      show Steps p.tables e below (T33.setTop (mkF m 62 #[.val (.int p0), .val (.int p1), .val (.int (p0 &&& (2147483647 : Int32))), .val (.ref w_GREYBOX), .val (.ref b27), .val (.double FP.dconst0), .second, .val (.double FP.dconst1), .second, .val (.double FP.dconst0), .second] [])) _
      refine XS.dload X33.here hx rfl (hb hby at_62) rfl ?_
      show Steps p.tables e below (T33.setTop (mkF m 64 #[.val (.int p0), .val (.int p1), .val (.int (p0 &&& (2147483647 : Int32))), .val (.ref w_GREYBOX), .val (.ref b27), .val (.double FP.dconst0), .second, .val (.double FP.dconst1), .second, .val (.double FP.dconst0), .second] [(.double FP.dconst1)])) _
      refine XS.dconst1 X33.here hx rfl (hb hby at_64) rfl ?_
      show Steps p.tables e below (T33.setTop (mkF m 65 #[.val (.int p0), .val (.int p1), .val (.int (p0 &&& (2147483647 : Int32))), .val (.ref w_GREYBOX), .val (.ref b27), .val (.double FP.dconst0), .second, .val (.double FP.dconst1), .second, .val (.double FP.dconst0), .second] [(.double FP.dconst1), (.double FP.dconst1)])) _
      refine XS.dcmpS X33.here hx rfl (hb hby at_65) rfl rfl ?_
      show Steps p.tables e below (T33.setTop (mkF m 66 #[.val (.int p0), .val (.int p1), .val (.int (p0 &&& (2147483647 : Int32))), .val (.ref w_GREYBOX), .val (.ref b27), .val (.double FP.dconst0), .second, .val (.double FP.dconst1), .second, .val (.double FP.dconst0), .second] [(.int (cmpValue (FP.dcmp FP.dconst1 FP.dconst1) .l))])) _
      refine XS.ifNo X33.here hx rfl (hb hby at_66) rfl ((if0 _ _).trans (teq own_c11).2) ?_
      show Steps p.tables e below (T33.setTop (mkF m 69 #[.val (.int p0), .val (.int p1), .val (.int (p0 &&& (2147483647 : Int32))), .val (.ref w_GREYBOX), .val (.ref b27), .val (.double FP.dconst0), .second, .val (.double FP.dconst1), .second, .val (.double FP.dconst0), .second] [])) _
      refine XS.dload X33.here hx rfl (hb hby at_69) rfl ?_
      show Steps p.tables e below (T33.setTop (mkF m 71 #[.val (.int p0), .val (.int p1), .val (.int (p0 &&& (2147483647 : Int32))), .val (.ref w_GREYBOX), .val (.ref b27), .val (.double FP.dconst0), .second, .val (.double FP.dconst1), .second, .val (.double FP.dconst0), .second] [(.double FP.dconst0)])) _
      refine XS.dload X33.here hx rfl (hb hby at_71) rfl ?_
      show Steps p.tables e below (T33.setTop (mkF m 73 #[.val (.int p0), .val (.int p1), .val (.int (p0 &&& (2147483647 : Int32))), .val (.ref w_GREYBOX), .val (.ref b27), .val (.double FP.dconst0), .second, .val (.double FP.dconst1), .second, .val (.double FP.dconst0), .second] [(.double FP.dconst0), (.double FP.dconst0)])) _
      refine XS.dcmpS X33.here hx rfl (hb hby at_73) rfl rfl ?_
      show Steps p.tables e below (T33.setTop (mkF m 74 #[.val (.int p0), .val (.int p1), .val (.int (p0 &&& (2147483647 : Int32))), .val (.ref w_GREYBOX), .val (.ref b27), .val (.double FP.dconst0), .second, .val (.double FP.dconst1), .second, .val (.double FP.dconst0), .second] [(.int (cmpValue (FP.dcmp FP.dconst0 FP.dconst0) .l))])) _
      refine XS.ifNo X33.here hx rfl (hb hby at_74) rfl ((if0 _ _).trans (teq own_c00).2) ?_
      show Steps p.tables e below (T33.setTop (mkF m 77 #[.val (.int p0), .val (.int p1), .val (.int (p0 &&& (2147483647 : Int32))), .val (.ref w_GREYBOX), .val (.ref b27), .val (.double FP.dconst0), .second, .val (.double FP.dconst1), .second, .val (.double FP.dconst0), .second] [])) _
      refine XS.dload X33.here hx rfl (hb hby at_77) rfl ?_
      show Steps p.tables e below (T33.setTop (mkF m 79 #[.val (.int p0), .val (.int p1), .val (.int (p0 &&& (2147483647 : Int32))), .val (.ref w_GREYBOX), .val (.ref b27), .val (.double FP.dconst0), .second, .val (.double FP.dconst1), .second, .val (.double FP.dconst0), .second] [(.double FP.dconst0)])) _
      refine XS.dload X33.here hx rfl (hb hby at_79) rfl ?_
      show Steps p.tables e below (T33.setTop (mkF m 81 #[.val (.int p0), .val (.int p1), .val (.int (p0 &&& (2147483647 : Int32))), .val (.ref w_GREYBOX), .val (.ref b27), .val (.double FP.dconst0), .second, .val (.double FP.dconst1), .second, .val (.double FP.dconst0), .second] [(.double FP.dconst1), (.double FP.dconst0)])) _
      refine XS.dcmpS X33.here hx rfl (hb hby at_81) rfl rfl ?_
      show Steps p.tables e below (T33.setTop (mkF m 82 #[.val (.int p0), .val (.int p1), .val (.int (p0 &&& (2147483647 : Int32))), .val (.ref w_GREYBOX), .val (.ref b27), .val (.double FP.dconst0), .second, .val (.double FP.dconst1), .second, .val (.double FP.dconst0), .second] [(.int (cmpValue (FP.dcmp FP.dconst0 FP.dconst1) .g))])) _
      refine XS.ifNo X33.here hx rfl (hb hby at_82) rfl ((if0 _ _).trans (flt own_c01).2.2.1) ?_
      show Steps p.tables e below (T33.setTop (mkF m 85 #[.val (.int p0), .val (.int p1), .val (.int (p0 &&& (2147483647 : Int32))), .val (.ref w_GREYBOX), .val (.ref b27), .val (.double FP.dconst0), .second, .val (.double FP.dconst1), .second, .val (.double FP.dconst0), .second] [])) _
      refine XS.iconst X33.here hx rfl (hb hby at_85) ?_
      show Steps p.tables e below (T33.setTop (mkF m 86 #[.val (.int p0), .val (.int p1), .val (.int (p0 &&& (2147483647 : Int32))), .val (.ref w_GREYBOX), .val (.ref b27), .val (.double FP.dconst0), .second, .val (.double FP.dconst1), .second, .val (.double FP.dconst0), .second] [(.int (1 : Int32))])) _
      refine XS.goto X33.here hx rfl (pc0 := 86) (pc' := 90) rfl (hb hby at_86) (by decide) (by decide) ?_
      show Steps p.tables e below (T33.setTop (mkF m 90 #[.val (.int p0), .val (.int p1), .val (.int (p0 &&& (2147483647 : Int32))), .val (.ref w_GREYBOX), .val (.ref b27), .val (.double FP.dconst0), .second, .val (.double FP.dconst1), .second, .val (.double FP.dconst0), .second] [(.int (1 : Int32))])) _
      exact retN X33 hx (t := .boolean) Bd.returns (by simp) (hb hby at_90) hr
    · show Q_law Z p0 p1 w_GREYBOX w_BLACKBOX h0 n0 _ T33.heap _
      refine ⟨?_, N33, trivial⟩
      rw [F_law, if_neg hc8_15]
theorem own_law (p1 : Int32) : F_law p1 = 1 := by
  unfold F_law
  repeat' split
  all_goals rfl
set_option maxRecDepth 65536 in
set_option maxHeartbeats 40000000 in
theorem own_comes {Post : Tables → Env → Array Value → State → Outcome → State → Prop} (hpost : ∀ tb e args s v u, (limb_1_1.after args s (.returned v) u = true ∧ limb_1_2.after args s (.returned v) u = true ∧ True) → FrameEnd s (.returned v) u (Jvm.fieldLocs frame_1_writes args s ++ Jvm.arrayLocs frame_1_arrays args s ++ Jvm.staticLocs frame_1_statics s) 16 128 → Post tb e args s (.returned v) u) :
    ArmFor flags0 classFile x code maxLocals ret World_1 tables_1 room_1 Calls_1 rest_1 Pre_1 Post := by
  intro l hfl _ _ p e ha hc hk s m args below hf hA hF happ hP
  obtain ⟨hcalls, hrest, hpre⟩ := hP
  obtain ⟨-, -, -, hnamed, -, -, -, hat⟩ := (Spec.applies_iff hf).mp happ
  obtain ⟨hg, hn⟩ := and_e (Cond.before_iff.mp (show (Jvm.Cond.and given_1 narrow_1).before args s = true from hpre))
  obtain ⟨g1, g1'⟩ := and_e hg
  obtain ⟨g2, g2'⟩ := and_e g1'
  obtain ⟨g3, g3'⟩ := and_e hn
  obtain ⟨u0, u1, rfl⟩ : ∃ u0 u1 : Value, args = #[u0, u1] := by
    have hs : args.size = 2 := by simpa [Cond.value, given_1] using g1
    obtain ⟨L⟩ := args
    match L, hs with
    | [u0, u1], _ => exact ⟨u0, u1, rfl⟩
  have hw := fun d (hd : d ∈ tables_1) => atoms_spec (ws := Jvm.Cond.code x code maxLocals ret :: tables_1) hat d (List.mem_cons_of_mem _ hd)
  obtain ⟨i0, ei0⟩ := is_v g2
  obtain rfl : u0 = (.int i0) := Option.some.inj ei0
  obtain ⟨i1, ei1⟩ := is_v g2'
  obtain rfl : u1 = (.int i1) := Option.some.inj ei1
  obtain ⟨w_GREYBOX, ev_GREYBOX⟩ := exa_v g3
  have E_GREYBOX := Exa.start ev_GREYBOX g3
  have S_GREYBOX := Sta.start ev_GREYBOX (Or.inr ⟨(hw _ (List.mem_of_getElem? (i := 2) rfl)), (hw _ (List.mem_of_getElem? (i := 3) rfl))⟩)
  obtain ⟨w_BLACKBOX, ev_BLACKBOX⟩ := exa_v g3'
  have E_BLACKBOX := Exa.start ev_BLACKBOX g3'
  have S_BLACKBOX := Sta.start ev_BLACKBOX (Or.inr ⟨(hw _ (List.mem_of_getElem? (i := 2) rfl)), (hw _ (List.mem_of_getElem? (i := 33) rfl))⟩)
  have hlaw := own_law i1
  obtain ⟨n, o, h1, h2, h3, v, L, rfl, ⟨hv, N, -⟩, hq⟩ := rm_law l s _ hw tables_1 i0 i1 w_GREYBOX w_BLACKBOX s.heap s.heap.size (Nat.le_refl _) S_GREYBOX S_BLACKBOX p e ha hc hk s m _ below hf ((Spec.applies_iff_loose hf).mp happ).1 ⟨rfl, State.Warmed39.refl s, rfl⟩ trivial
  rw [hlaw] at hv
  subst hv
  refine ⟨n, _, h1, h2, h3, hpost _ _ _ _ _ _ ⟨Cond.after_iff.mpr rfl, Cond.after_iff.mpr (eq_i res_at (Term.int_eval (1)) rfl), trivial⟩ ⟨hq.1, hq.2.1, (hq.2.2.sift fun y hy => Or.inr (N y hy)).mono (by decide) (by decide)⟩⟩
theorem main_1_1 : Claimed_1_1 := own_comes fun _ _ _ _ _ _ h hF => ⟨h.1, hF⟩
theorem main_1_2 : Claimed_1_2 := own_comes fun _ _ _ _ _ _ h hF => ⟨h.2.1, hF⟩
end Jvm.Pilot.@@N@@
namespace Jvm.Pilot.@@N@@
open Jvm Jvm.ClassFile Sem Op Lib Jvm.Free Jvm.Stand Jvm.Pilot.@@N@@.Jvm.D
/-! MADE BY PROGRAM (witnessworld.py) out of the Statement's table words and the real class files: 15 classes; the members and pool entries that the words name. The judged class is class 1, her method 1. -/
namespace start1
open Jvm.ClassFile
def u (s : String) : CpInfo := .utf8 (stringToUtf16 s)
/-- a pool by its gaps: so many unusable entries, then the entry; so many at the end -/
def gap : Nat → List CpInfo → List CpInfo
  | 0, r => r
  | n + 1, r => .unusable :: gap n r
def poolList (es : List (Nat × CpInfo)) (last : Nat) : List CpInfo := es.foldr (fun e r => gap e.1 (e.2 :: r)) (gap last [])
def pool (es : List (Nat × CpInfo)) (last : Nat) : Array CpInfo := ⟨poolList es last⟩
def fileOf (pool : Array CpInfo) (this : Nat) (attrs : Array Attribute := #[]) (ms : Array MethodInfo := #[]) (fl : Nat := 33) (sup : Nat := 0) (ifs : Array Nat := #[]) (fds : Array FieldInfo := #[]) : ClassFile where
  minorVersion := 0
  majorVersion := 65
  constantPool := pool
  accessFlags := fl
  thisClass := this
  superClass := sup
  interfaces := ifs
  fields := fds
  methods := ms
  attributes := attrs
def plain (name : String) (sup : Option ClassId) : Class where
  name := name
  kind := .ordinary
  loader := none
  accessFlags := 33
  super := sup
  interfaces := #[]
  cf := none
  fields := #[]
  methods := #[]
  instanceTypes := #[]
  staticTypes := #[]
  resolved := #[]
  callSites := []
  init := .initialized
  statics := none
  mirror := none

def pool0 : Array CpInfo := pool [(5, u "<init>"), (0, u "()V"), (1, .class_ 10), (1, u "java/lang/Object")] 113

def k0c0 : Code := { maxStack := 0, maxLocals := 1, code := object_method_1_code, exceptionTable := #[], attributes := #[] }
def k0m0 : Method := { name := "<init>", desc := "()V", sig := { parameters := [], returnType := none }, accessFlags := 1, code := some k0c0 }
/-- java/lang/Object -/
def k0 : Class := { plain "java/lang/Object" none with
  accessFlags := 33
  interfaces := #[]
  cf := some (fileOf pool0 8 #[] #[{ accessFlags := 1, nameIndex := 5, descriptorIndex := 6, attributes := #[] }] 33 0 #[] #[])
  fields := #[]
  methods := #[k0m0]
  instanceTypes := #[]
  staticTypes := #[]
  resolved := Array.replicate 124 none
  statics := none }

def pool1 : Array CpInfo := pool [(2, .class_ 4), (1, u "java/lang/Object"), (0, u "<init>"), (0, u "()V"), (0, .integer 2147483647), (0, .fieldref 9 10), (0, .class_ 11), (0, .nameAndType 12 13), (0, u "com/example/ferrule/ferrule/learn/Updates"), (0, u "GREYBOX"), (0, u "Lcom/example/ferrule/ferrule/learn/Updates;"), (0, .fieldref 9 15), (0, .nameAndType 16 13), (0, u "BLACKBOX"), (0, .class_ 18), (0, u "com/example/ferrule/ferrule/learn/Bounds"), (0, .methodref 17 20), (0, .nameAndType 5 21), (0, u "(Lcom/example/ferrule/ferrule/learn/Updates;)V"), (0, .methodref 17 23), (0, .nameAndType 24 25), (0, u "lower"), (0, u "(I)D"), (0, .methodref 17 27), (0, .nameAndType 28 25), (0, u "upper"), (0, .class_ 30), (0, u "com/example/ferrule/ferrule/learn/BoundsLowerPinLaw"), (2, u "law"), (0, u "(II)Z")] 3

def k1m0 : Method := { name := "<init>", desc := "()V", sig := { parameters := [], returnType := none }, accessFlags := 1, code := none }
def k1c1 : Code := { maxStack := 4, maxLocals := 11, code := code, exceptionTable := #[], attributes := #[] }
def k1m1 : Method := { name := "law", desc := "(II)Z", sig := { parameters := [.int, .int], returnType := some .boolean }, accessFlags := 9, code := some k1c1 }
/-- com/example/ferrule/ferrule/learn/BoundsLowerPinLaw -/
def k1 : Class := { plain "com/example/ferrule/ferrule/learn/BoundsLowerPinLaw" (some 0) with
  accessFlags := 49
  interfaces := #[]
  cf := some (fileOf pool1 29 #[] #[{ accessFlags := 1, nameIndex := 5, descriptorIndex := 6, attributes := #[] }, { accessFlags := 9, nameIndex := 33, descriptorIndex := 34, attributes := #[] }] 49 2 #[] #[])
  fields := #[]
  methods := #[k1m0, k1m1]
  instanceTypes := #[]
  staticTypes := #[]
  resolved := Array.replicate 38 none
  statics := none }

def pool2 : Array CpInfo := pool [(1, .class_ 2), (0, u "java/lang/constant/Constable"), (0, .class_ 4), (0, u "java/lang/Object")] 6

/-- java/lang/constant/Constable -/
def k2 : Class := { plain "java/lang/constant/Constable" (some 0) with
  accessFlags := 1537
  interfaces := #[]
  cf := some (fileOf pool2 1 #[] #[] 1537 3 #[] #[])
  fields := #[]
  methods := #[]
  instanceTypes := #[]
  staticTypes := #[]
  resolved := Array.replicate 11 none
  statics := none }

def pool3 : Array CpInfo := pool [(1, .class_ 2), (0, u "java/lang/Comparable"), (0, .class_ 4), (0, u "java/lang/Object")] 7

/-- java/lang/Comparable -/
def k3 : Class := { plain "java/lang/Comparable" (some 0) with
  accessFlags := 1537
  interfaces := #[]
  cf := some (fileOf pool3 1 #[] #[] 1537 3 #[] #[])
  fields := #[]
  methods := #[]
  instanceTypes := #[]
  staticTypes := #[]
  resolved := Array.replicate 12 none
  statics := none }

def pool4 : Array CpInfo := pool [(1, .class_ 2), (0, u "java/io/Serializable"), (0, .class_ 4), (0, u "java/lang/Object")] 2

/-- java/io/Serializable -/
def k4 : Class := { plain "java/io/Serializable" (some 0) with
  accessFlags := 1537
  interfaces := #[]
  cf := some (fileOf pool4 1 #[] #[] 1537 3 #[] #[])
  fields := #[]
  methods := #[]
  instanceTypes := #[]
  staticTypes := #[]
  resolved := Array.replicate 7 none
  statics := none }

def pool5 : Array CpInfo := pool [(2, .class_ 4), (1, u "java/lang/Enum"), (0, u "name"), (0, u "Ljava/lang/String;"), (2, u "ordinal"), (0, u "I"), (1, .class_ 14), (1, u "java/lang/Object"), (4, u "hash"), (86, .class_ 108), (1, u "java/lang/Enum$EnumDesc"), (2, .class_ 112), (0, u "java/lang/constant/Constable"), (0, .class_ 114), (0, u "java/lang/Comparable"), (0, .class_ 116), (0, u "java/io/Serializable")] 87

/-- java/lang/Enum -/
def k5 : Class := { plain "java/lang/Enum" (some 0) with
  accessFlags := 1057
  interfaces := #[2, 3, 4]
  cf := some (fileOf pool5 2 #[.nestMembers #[106]] #[] 1057 12 #[111, 113, 115] #[{ accessFlags := 18, nameIndex := 5, descriptorIndex := 6, attributes := #[] }, { accessFlags := 18, nameIndex := 9, descriptorIndex := 10, attributes := #[] }, { accessFlags := 2, nameIndex := 19, descriptorIndex := 10, attributes := #[] }])
  fields := #[{ name := "name", type := (.object "java/lang/String"), accessFlags := 18, slot := 0, constantValue := 0 }, { name := "ordinal", type := .int, accessFlags := 18, slot := 1, constantValue := 0 }, { name := "hash", type := .int, accessFlags := 2, slot := 2, constantValue := 0 }]
  methods := #[]
  instanceTypes := #[(.object "java/lang/String"), .int, .int]
  staticTypes := #[]
  resolved := Array.replicate 204 none
  statics := none }

def pool6 : Array CpInfo := pool [(1, .class_ 2), (0, u "com/example/ferrule/ferrule/learn/Updates"), (2, u "BLACKBOX"), (0, u "Lcom/example/ferrule/ferrule/learn/Updates;"), (2, u "GREYBOX"), (2, u "$VALUES"), (0, u "[Lcom/example/ferrule/ferrule/learn/Updates;"), (6, .class_ 22), (1, u "java/lang/Enum")] 41

/-- com/example/ferrule/ferrule/learn/Updates -/
def k6 : Class := { plain "com/example/ferrule/ferrule/learn/Updates" (some 5) with
  accessFlags := 16433
  interfaces := #[]
  cf := some (fileOf pool6 1 #[] #[] 16433 20 #[] #[{ accessFlags := 16409, nameIndex := 5, descriptorIndex := 6, attributes := #[] }, { accessFlags := 16409, nameIndex := 9, descriptorIndex := 6, attributes := #[] }, { accessFlags := 4122, nameIndex := 12, descriptorIndex := 13, attributes := #[] }])
  fields := #[{ name := "BLACKBOX", type := (.object "com/example/ferrule/ferrule/learn/Updates"), accessFlags := 16409, slot := 0, constantValue := 0 }, { name := "GREYBOX", type := (.object "com/example/ferrule/ferrule/learn/Updates"), accessFlags := 16409, slot := 1, constantValue := 0 }, { name := "$VALUES", type := (.array (.object "com/example/ferrule/ferrule/learn/Updates")), accessFlags := 4122, slot := 2, constantValue := 0 }]
  methods := #[]
  instanceTypes := #[(.object "java/lang/String"), .int, .int]
  staticTypes := #[(.object "com/example/ferrule/ferrule/learn/Updates"), (.object "com/example/ferrule/ferrule/learn/Updates"), (.array (.object "com/example/ferrule/ferrule/learn/Updates"))]
  resolved := Array.replicate 64 none
  statics := some 0 }

def pool7 : Array CpInfo := pool [(1, .methodref 2 3), (0, .class_ 4), (0, .nameAndType 5 6), (0, u "java/lang/Object"), (0, u "<init>"), (0, u "()V"), (0, .fieldref 8 9), (0, .class_ 10), (0, .nameAndType 11 12), (0, u "com/example/ferrule/ferrule/learn/Bounds"), (0, u "lower"), (0, u "[D"), (0, .fieldref 8 14), (0, .nameAndType 15 12), (0, u "upper"), (0, .fieldref 8 17), (0, .nameAndType 18 12), (0, u "pairUpper"), (0, .fieldref 8 20), (0, .nameAndType 21 22), (0, u "updates"), (0, u "Lcom/example/ferrule/ferrule/learn/Updates;"), (96, u "LOWER"), (0, u "Ljava/math/RoundingMode;"), (8, u "UPPER"), (2, u "(I)D"), (51, u "MAX_SWEEPS"), (0, u "I"), (2, u "SETTLED"), (0, u "D"), (0, u "(Lcom/example/ferrule/ferrule/learn/Updates;)V")] 15

def k7c0 : Code := { maxStack := 2, maxLocals := 2, code := prog_3_method_1_code, exceptionTable := #[], attributes := #[] }
def k7m0 : Method := { name := "<init>", desc := "(Lcom/example/ferrule/ferrule/learn/Updates;)V", sig := { parameters := [(.object "com/example/ferrule/ferrule/learn/Updates")], returnType := none }, accessFlags := 0, code := some k7c0 }
def k7c1 : Code := { maxStack := 2, maxLocals := 2, code := prog_3_method_2_code, exceptionTable := #[], attributes := #[] }
def k7m1 : Method := { name := "lower", desc := "(I)D", sig := { parameters := [.int], returnType := some .double }, accessFlags := 0, code := some k7c1 }
def k7c2 : Code := { maxStack := 2, maxLocals := 2, code := prog_3_method_3_code, exceptionTable := #[], attributes := #[] }
def k7m2 : Method := { name := "upper", desc := "(I)D", sig := { parameters := [.int], returnType := some .double }, accessFlags := 0, code := some k7c2 }
/-- com/example/ferrule/ferrule/learn/Bounds -/
def k7 : Class := { plain "com/example/ferrule/ferrule/learn/Bounds" (some 0) with
  accessFlags := 48
  interfaces := #[]
  cf := some (fileOf pool7 8 #[] #[{ accessFlags := 0, nameIndex := 5, descriptorIndex := 190, attributes := #[] }, { accessFlags := 0, nameIndex := 11, descriptorIndex := 132, attributes := #[] }, { accessFlags := 0, nameIndex := 15, descriptorIndex := 132, attributes := #[] }] 48 2 #[] #[{ accessFlags := 26, nameIndex := 184, descriptorIndex := 185, attributes := #[] }, { accessFlags := 26, nameIndex := 188, descriptorIndex := 189, attributes := #[] }, { accessFlags := 26, nameIndex := 119, descriptorIndex := 120, attributes := #[] }, { accessFlags := 26, nameIndex := 129, descriptorIndex := 120, attributes := #[] }, { accessFlags := 18, nameIndex := 21, descriptorIndex := 22, attributes := #[] }, { accessFlags := 2, nameIndex := 11, descriptorIndex := 12, attributes := #[] }, { accessFlags := 2, nameIndex := 15, descriptorIndex := 12, attributes := #[] }, { accessFlags := 2, nameIndex := 18, descriptorIndex := 12, attributes := #[] }])
  fields := #[{ name := "MAX_SWEEPS", type := .int, accessFlags := 26, slot := 0, constantValue := 0 }, { name := "SETTLED", type := .double, accessFlags := 26, slot := 1, constantValue := 0 }, { name := "LOWER", type := (.object "java/math/RoundingMode"), accessFlags := 26, slot := 2, constantValue := 0 }, { name := "UPPER", type := (.object "java/math/RoundingMode"), accessFlags := 26, slot := 3, constantValue := 0 }, { name := "updates", type := (.object "com/example/ferrule/ferrule/learn/Updates"), accessFlags := 18, slot := 0, constantValue := 0 }, { name := "lower", type := (.array .double), accessFlags := 2, slot := 1, constantValue := 0 }, { name := "upper", type := (.array .double), accessFlags := 2, slot := 2, constantValue := 0 }, { name := "pairUpper", type := (.array .double), accessFlags := 2, slot := 3, constantValue := 0 }]
  methods := #[k7m0, k7m1, k7m2]
  instanceTypes := #[(.object "com/example/ferrule/ferrule/learn/Updates"), (.array .double), (.array .double), (.array .double)]
  staticTypes := #[.int, .double, (.object "java/math/RoundingMode"), (.object "java/math/RoundingMode")]
  resolved := Array.replicate 206 none
  statics := none }

def pool8 : Array CpInfo := pool [(1, u "java/lang/Cloneable"), (0, .class_ 1), (0, u "java/lang/Object"), (0, .class_ 3)] 3

/-- java/lang/Cloneable -/
def k8 : Class := { plain "java/lang/Cloneable" (some 0) with
  accessFlags := 1537
  interfaces := #[]
  cf := some (fileOf pool8 2 #[] #[] 1537 4 #[] #[])
  fields := #[]
  methods := #[]
  instanceTypes := #[]
  staticTypes := #[]
  resolved := Array.replicate 8 none
  statics := none }

/-- the primitive byte -/
def k9 : Class := { plain "byte" none with kind := .primitive 'B', accessFlags := 0x411 }
/-- [B -/
def k10 : Class := { plain "[B" (some 0) with kind := .array 9 .byte, interfaces := #[8, 4], accessFlags := 1041 }

/-- the primitive double -/
def k11 : Class := { plain "double" none with kind := .primitive 'D', accessFlags := 0x411 }
/-- [D -/
def k12 : Class := { plain "[D" (some 0) with kind := .array 11 .double, interfaces := #[8, 4], accessFlags := 1041 }

/-- the primitive int -/
def k13 : Class := { plain "int" none with kind := .primitive 'I', accessFlags := 0x411 }
/-- [I -/
def k14 : Class := { plain "[I" (some 0) with kind := .array 13 .int, interfaces := #[8, 4], accessFlags := 1041 }

def heap : Heap := #[{ cls := 6, slots := #[.ref 2, .ref 1, .null], vm := .statics 6 },
  { cls := 6, slots := #[.null, .int 0, .int 0], vm := .none },
  { cls := 6, slots := #[.null, .int 0, .int 0], vm := .none }]
def classes : Array Class := #[k0, k1, k2, k3, k4, k5, k6, k7, k8, k9, k10, k11, k12, k13, k14]
def interned : List (Array UInt16 × Addr) := []
def slotsUsed : Nat := 9
def theMethod : MethodId := ⟨1, 1⟩
def args0 : Array Value := #[.int 5, .int 1]
def aboutOver (below : List Frame) : State where
  vm := { classes := classes, interned := interned.toArray }
  heap := heap
  slotsUsed := slotsUsed
  threads := #[{ frames := .invoking theMethod args0 :: below }]
def below0 : List Frame := [.native { method := ⟨0, 0⟩, args := #[] }]
def about1 : State := aboutOver below0
def p0 : Program := .bare "" "" ""
def e0 : Env := launch0.env 0 0 0
theorem w_frames : about1.frames = Frame.invoking theMethod args0 :: below0 := rfl
set_option maxRecDepth 65536 in
theorem w_args : argsFit about1.vm theMethod args0 = true := by decide +kernel
set_option maxRecDepth 65536 in
theorem w_heap : heapFits about1 = true := by decide +kernel
set_option maxRecDepth 65536 in
theorem w_runnable : about1.curStatus? = some .runnable := by decide +kernel
set_option maxRecDepth 65536 in
theorem w_alone : about1.alone = true := by decide +kernel
set_option maxRecDepth 65536 in
theorem w_named : about1.methodNamed? x = some theMethod := by decide +kernel
set_option maxRecDepth 65536 in
theorem w_hears : about1.hears theMethod below0 = true := by decide +kernel
set_option maxRecDepth 65536 in
theorem w_ripe : about1.ripe theMethod args0 below0 = true := by decide +kernel
theorem w_running : about1.status = .running := rfl
set_option maxRecDepth 65536 in
theorem w_room : about1.hasRoom e0.platform room_1 = true :=
  launch0.hasRoom_least _ room_1 (by decide +kernel) (by decide +kernel) (by decide +kernel) (by decide +kernel) (by decide +kernel) (by decide +kernel)
theorem allAtoms_all (ts : List Jvm.Cond) (a : Array Jvm.Value) (st : Jvm.State) : (allAtoms ts).before a st = ts.all (fun c => c.before a st) := by
  induction ts with
  | nil => rfl
  | cons c t ih =>
    show (Jvm.Cond.and c (allAtoms t)).before a st = _
    rw [Jvm.Cond.before_and, ih, List.all_cons]
def words1 : List Jvm.Cond := Jvm.Cond.code x code maxLocals ret :: tables_1
/-- a 'code' word, met by the world's own term for the bytes: nothing is compared byte by byte -/
theorem code_word {y : MethodName} {bytes : ByteArray} {mx : Nat} {rt : Option FieldType} {a : Array Value} {s : State} {m : MethodId} {meth : Method} {c : Code} (h1 : s.methodNamed? y = some m) (h2 : s.vm.method? m = some meth) (h3 : meth.code = some c) (h4 : c.code = bytes)
    (h5 : (c.maxLocals == mx && c.exceptionTable.isEmpty && decide (c.maxStack ≤ mostOperands) && decide (meth.sig.returnType = rt) && !meth.locks && decide (parseMethodDescriptor y.desc = some meth.sig)) = true) : (Jvm.Cond.code y bytes mx rt).before a s = true := by
  simp only [Bool.and_eq_true, beq_iff_eq, Bool.not_eq_true', decide_eq_true_eq] at h5
  obtain ⟨⟨⟨⟨⟨g1, g2⟩, g3⟩, g4⟩, g5⟩, g6⟩ := h5
  simp [Cond.before, Cond.holds, Cond.value, h1, h2, h3, h4, g1, g2, g3, g4, g5, g6]
def isCode : Jvm.Cond → Bool
  | .code _ _ _ _ => true
  | _ => false
theorem all_split {L : List Jvm.Cond} {P : Jvm.Cond → Bool} (h1 : L.all (fun c => isCode c || P c) = true) (h2 : ∀ c ∈ L.filter isCode, P c = true) : L.all P = true := by
  refine List.all_eq_true.mpr fun c hc => ?_
  have h := List.all_eq_true.mp h1 c hc
  rcases Bool.eq_false_or_eq_true (isCode c) with hi | hi
  · exact h2 c (List.mem_filter.mpr ⟨hc, hi⟩)
  · simpa [hi] using h
set_option maxRecDepth 65536 in
theorem w_c0 : (Jvm.Cond.code x code maxLocals ret).before args0 about1 = true := code_word (m := ⟨1, 1⟩) (meth := k1m1) (c := k1c1) (by decide +kernel) rfl rfl rfl (by decide +kernel)
set_option maxRecDepth 65536 in
theorem w_c1 : (Jvm.Cond.code ({ cls := "com/example/ferrule/ferrule/learn/Bounds", name := "<init>", desc := "(Lcom/example/ferrule/ferrule/learn/Updates;)V" } : Jvm.MethodName) prog_3_method_1_code (2 : Nat) (Option.none : Option Jvm.ClassFile.FieldType)).before args0 about1 = true := code_word (m := ⟨7, 0⟩) (meth := k7m0) (c := k7c0) (by decide +kernel) rfl rfl rfl (by decide +kernel)
set_option maxRecDepth 65536 in
theorem w_c2 : (Jvm.Cond.code ({ cls := "java/lang/Object", name := "<init>", desc := "()V" } : Jvm.MethodName) object_method_1_code (1 : Nat) (Option.none : Option Jvm.ClassFile.FieldType)).before args0 about1 = true := code_word (m := ⟨0, 0⟩) (meth := k0m0) (c := k0c0) (by decide +kernel) rfl rfl rfl (by decide +kernel)
set_option maxRecDepth 65536 in
theorem w_c3 : (Jvm.Cond.code ({ cls := "com/example/ferrule/ferrule/learn/Bounds", name := "lower", desc := "(I)D" } : Jvm.MethodName) prog_3_method_2_code (2 : Nat) (Option.some Jvm.ClassFile.FieldType.double)).before args0 about1 = true := code_word (m := ⟨7, 1⟩) (meth := k7m1) (c := k7c1) (by decide +kernel) rfl rfl rfl (by decide +kernel)
set_option maxRecDepth 65536 in
theorem w_c4 : (Jvm.Cond.code ({ cls := "com/example/ferrule/ferrule/learn/Bounds", name := "upper", desc := "(I)D" } : Jvm.MethodName) prog_3_method_3_code (2 : Nat) (Option.some Jvm.ClassFile.FieldType.double)).before args0 about1 = true := code_word (m := ⟨7, 2⟩) (meth := k7m2) (c := k7c2) (by decide +kernel) rfl rfl rfl (by decide +kernel)
def codes1 : List Jvm.Cond := [Jvm.Cond.code x code maxLocals ret, Jvm.Cond.code ({ cls := "com/example/ferrule/ferrule/learn/Bounds", name := "<init>", desc := "(Lcom/example/ferrule/ferrule/learn/Updates;)V" } : Jvm.MethodName) prog_3_method_1_code (2 : Nat) (Option.none : Option Jvm.ClassFile.FieldType), Jvm.Cond.code ({ cls := "java/lang/Object", name := "<init>", desc := "()V" } : Jvm.MethodName) object_method_1_code (1 : Nat) (Option.none : Option Jvm.ClassFile.FieldType), Jvm.Cond.code ({ cls := "com/example/ferrule/ferrule/learn/Bounds", name := "lower", desc := "(I)D" } : Jvm.MethodName) prog_3_method_2_code (2 : Nat) (Option.some Jvm.ClassFile.FieldType.double), Jvm.Cond.code ({ cls := "com/example/ferrule/ferrule/learn/Bounds", name := "upper", desc := "(I)D" } : Jvm.MethodName) prog_3_method_3_code (2 : Nat) (Option.some Jvm.ClassFile.FieldType.double)]
set_option maxRecDepth 65536 in
theorem codes_eq : words1.filter isCode = codes1 := rfl
theorem w_codes : ∀ c ∈ words1.filter isCode, c.before args0 about1 = true := by
  rw [codes_eq]
  intro c hc
  simp only [codes1, List.mem_cons, List.not_mem_nil, or_false] at hc
  rcases hc with rfl | rfl | rfl | rfl | rfl
  · exact w_c0
  · exact w_c1
  · exact w_c2
  · exact w_c3
  · exact w_c4
set_option maxRecDepth 65536 in
theorem w_t1 : (words1.take 24).all (fun c => isCode c || c.before args0 about1) = true := by decide +kernel
set_option maxRecDepth 65536 in
theorem w_t2 : (words1.drop 24).all (fun c => isCode c || c.before args0 about1) = true := by decide +kernel
theorem w_tables : (allAtoms (Jvm.Cond.code x code maxLocals ret :: tables_1)).before args0 about1 = true := by
  rw [allAtoms_all]
  show words1.all (fun c => c.before args0 about1) = true
  refine all_split ?_ w_codes
  rw [← List.take_append_drop 24 words1, List.all_append, w_t1, w_t2]
  rfl
set_option maxRecDepth 65536 in
theorem w_case : (Jvm.Cond.and given_1 narrow_1).before args0 about1 = true := by decide +kernel
theorem w_applies : (headSpec (Jvm.Cond.code x code maxLocals ret :: tables_1) room_1).applies x e0.platform about1 = true :=
  (Spec.applies_iff w_frames).mpr ⟨w_running, w_runnable, w_alone, w_named, w_hears, w_ripe, w_room, w_tables⟩
theorem atStart : AtStart classFile x code maxLocals ret World_1 tables_1 room_1 Calls_1 rest_1 Pre_1 launch0 p0 e0 about1 theMethod args0 below0 :=
  ⟨lists_1, trivial, launch0.admits_env _ _ _, launch0.least_env, fairChoices_fair.cas, fairChoices_fair.clock, w_frames, w_args, w_heap, w_applies, trivial, trivial, w_case⟩
end start1
theorem witness_1 : WitnessClaimed_1 := ⟨start1.p0, start1.e0, start1.about1, start1.theMethod, start1.args0, start1.below0, start1.atStart⟩
end Jvm.Pilot.@@N@@
