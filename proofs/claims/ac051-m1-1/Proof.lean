import JvmDerived
import JvmDerived.Pilot.@@N@@Statement
import JvmDerived.Pilot.@@N@@Code
set_option linter.unusedVariables false
set_option linter.unusedSimpArgs false
@@BLOCK:NumsL.lean.txt@@
namespace Jvm.Pilot.@@N@@
open Jvm Jvm.ClassFile Sem Op Lib Jvm.Free Jvm.Stand Jvm.LawKit Jvm.RoadKit Bundle Jvm.Pilot.@@N@@.Jvm.D
theorem own_retI {p : Program} {l : Launch} {e : Env} {R : Room} {s : State} {m : MethodId} {args : Array Value} {below : List Frame} {meth : Method} {c : Code} {T : State} {locs : List Loc} {cells slots : Nat} (X : Stand p l e R s m args below meth c T locs cells slots) (hx : p.tables.exec = Jvm.exec) {pc : Nat} {Ls : Array Slot} {z : Int32} {rest : List Value} (hret : meth.sig.returnType = some .int) (hd : decode c.code pc = .ok (.ireturn, 1)) {fs : List Frame}
    (hl : ∀ (f : JFrame) (acts : List Action), f.method = m → f.locked = none → f.entered = [] → (doReturn e (T.setTop f) acts (some (.int z))).1 = T.setFrames fs) : Steps p.tables e below (T.setTop (mkF m pc Ls (.int z :: rest))) (T.setFrames fs) :=
  retOut X hx hret rfl (Or.inl ⟨rfl, Or.inl rfl, z, rfl⟩) hd hl
theorem own_retA {p : Program} {l : Launch} {e : Env} {R : Room} {s : State} {m : MethodId} {args : Array Value} {below : List Frame} {meth : Method} {c : Code} {T : State} {locs : List Loc} {cells slots : Nat} (X : Stand p l e R s m args below meth c T locs cells slots) (hx : p.tables.exec = Jvm.exec) {pc : Nat} {Ls : Array Slot} {w : Value} {t : FieldType} {rest : List Value} (hret : meth.sig.returnType = some t) (ht : t.isReference = true) (hw : w.isRef = true) (hn : narrow t w = w) (hd : decode c.code pc = .ok (.areturn, 1)) {fs : List Frame}
    (hl : ∀ (f : JFrame) (acts : List Action), f.method = m → f.locked = none → f.entered = [] → (doReturn e (T.setTop f) acts (some w)).1 = T.setFrames fs) : Steps p.tables e below (T.setTop (mkF m pc Ls (w :: rest))) (T.setFrames fs) :=
  retOut X hx hret hn (Or.inr (Or.inr (Or.inr (Or.inr ⟨rfl, ht, hw⟩)))) hd hl
theorem own_retJ {p : Program} {l : Launch} {e : Env} {R : Room} {s : State} {m : MethodId} {args : Array Value} {below : List Frame} {meth : Method} {c : Code} {T : State} {locs : List Loc} {cells slots : Nat} (X : Stand p l e R s m args below meth c T locs cells slots) (hx : p.tables.exec = Jvm.exec) {pc : Nat} {Ls : Array Slot} {z : Int64} {rest : List Value} (hret : meth.sig.returnType = some .long) (hd : decode c.code pc = .ok (.lreturn, 1)) {fs : List Frame}
    (hl : ∀ (f : JFrame) (acts : List Action), f.method = m → f.locked = none → f.entered = [] → (doReturn e (T.setTop f) acts (some (.long z))).1 = T.setFrames fs) : Steps p.tables e below (T.setTop (mkF m pc Ls (.long z :: rest))) (T.setFrames fs) :=
  retOut X hx hret rfl (Or.inr (Or.inl ⟨rfl, rfl, z, rfl⟩)) hd hl
theorem own_exttr {h0 h h' : Heap} (E : Ext h0 h) (E' : Ext h h') : Ext h0 h' := ⟨Nat.le_trans E.1 E'.1, fun a c q => E'.2 _ _ (E.2 _ _ q)⟩
theorem own_extwr {h0 h h' : Heap} {a : Addr} {sl : Nat} {v : Value} (E : Ext h0 h) (W : Wr h h' a sl v) (q : h0.size ≤ a) : Ext h0 h' := by
  refine ⟨Nat.le_trans E.1 (Nat.le_of_eq W.size.symm), fun x c hc => ?_⟩
  obtain ⟨c', e1, -, -, -, e5, -⟩ := wr_at W (E.2 x c hc)
  have hx : x < h0.size := (Array.getElem?_eq_some_iff.mp hc).1
  rw [e5 (Nat.ne_of_lt (Nat.lt_of_lt_of_le hx q))] at e1
  exact e1
theorem own_wmono {s t : State} {o : Outcome} {L : List Loc} {k n k' n' : Nat} (h : ReturnedEndW s o t L k n) (hk : k ≤ k') (hn : n ≤ n') : ReturnedEndW s o t L k' n' := ⟨h.1, h.2.1, h.2.2.1, h.2.2.2.mono hk hn⟩
theorem own_strAtoms {Z : State} {a0 : Array Value} (w1 : (Jvm.Cond.initialized "java/lang/String").before a0 Z = true) (w2 : (Jvm.Cond.instantiable "java/lang/String" 4).before a0 Z = true) (w3 : (Jvm.Cond.arrayClass .byte).before a0 Z = true) (w4 : (Jvm.Cond.laysFinal "java/lang/String" "java/lang/String" "value" "[B").before a0 Z = true) (w5 : (Jvm.Cond.laysFinal "java/lang/String" "java/lang/String" "coder" "B").before a0 Z = true) (w6 : (Jvm.Cond.soleField "java/lang/String" "value").before a0 Z = true) (w7 : (Jvm.Cond.soleField "java/lang/String" "coder").before a0 Z = true) : ∀ a ∈ Bundle.stringAtoms, a.before a0 Z = true := by
  intro a ha
  simp only [Bundle.stringAtoms, List.mem_cons, List.not_mem_nil, or_false] at ha
  rcases ha with rfl | rfl | rfl | rfl | rfl | rfl | rfl <;> assumption
theorem own_extkeep {h0 h h' : Heap} {a : Addr} (E : Ext h0 h) (K : Keep h h' [a]) (q : h0.size ≤ a) : Ext h0 h' := ⟨Nat.le_trans E.1 K.1, fun x c hc => K.2.1 x c (E.2 x c hc) (fun hm => absurd (List.mem_singleton.mp hm) (Nat.ne_of_lt (Nat.lt_of_lt_of_le (Array.getElem?_eq_some_iff.mp hc).1 q)))⟩
theorem own_fld2 {Z : State} {h : Heap} {a : Addr} {C O n d O1 n1 d1 : String} {v1 : Value} {a0 : Array Value} {k : Nat} (E : Exa Z h a C) (F : Fld Z h a O1 n1 d1 v1) (L : Laid Z a0 C O n d) (wi : (Jvm.Cond.instantiable C k).before a0 Z = true) : ∃ v, Fld Z h a O n d v := by
  obtain ⟨cell, kc, h1, h2, h3, h4, h5⟩ := E
  obtain ⟨cell', cf', k', i', f', g1, -, -, g4, g5, -, -⟩ := F
  cases h1.symm.trans g1
  obtain ⟨c, k2, cf, kf, i, f, a1, a2, a3, a4, a5, a6, -⟩ := L.spec
  cases h2.symm.trans a1
  cases h3.symm.trans a2
  obtain ⟨c2, k3, i1, i2, i3, -⟩ := Cond.instantiable_spec wi
  cases h2.symm.trans i1
  cases h3.symm.trans i2
  have hs := h5 i3
  have hlt : f.slot < cell.slots.size := by rw [hs]; exact (Array.getElem?_eq_some_iff.mp a6).1
  exact ⟨cell.slots[f.slot], cell, cf, kf, i, f, h1, a3, a4, g4, g5, a5, Array.getElem?_eq_getElem hlt⟩
theorem own_retD {p : Program} {l : Launch} {e : Env} {R : Room} {s : State} {m : MethodId} {args : Array Value} {below : List Frame} {meth : Method} {c : Code} {T : State} {locs : List Loc} {cells slots : Nat} (X : Stand p l e R s m args below meth c T locs cells slots) (hx : p.tables.exec = Jvm.exec) {pc : Nat} {Ls : Array Slot} {z : UInt64} {rest : List Value} (hret : meth.sig.returnType = some .double) (hd : decode c.code pc = .ok (.dreturn, 1)) {fs : List Frame}
    (hl : ∀ (f : JFrame) (acts : List Action), f.method = m → f.locked = none → f.entered = [] → (doReturn e (T.setTop f) acts (some (.double z))).1 = T.setFrames fs) : Steps p.tables e below (T.setTop (mkF m pc Ls (.double z :: rest))) (T.setFrames fs) :=
  retOut X hx hret rfl (Or.inr (Or.inr (Or.inl ⟨rfl, rfl, z, rfl⟩))) hd hl
theorem own_eqk {args : Array Value} {first s : State} {o : Option Outcome} {idx : List Nat} {t : Term} {k : Int32} (h : (Jvm.Cond.eq t (.int k)).value args first o s idx = some true) : t.eval args first o idx s = some (.int k) := by
  have hk : (Term.int k).eval args first o idx s = some (.int k) := Term.int_eval k
  cases ht : t.eval args first o idx s with
  | none => simp [Cond.value, ht] at h
  | some x => cases x <;> simp [Cond.value, ht, hk] at h ⊢ <;> exact h
theorem own_pn0 : plainName "com/example/entry_to_apps/entrytoapps/GridProfile" = true := by first | (simp [plainName, overriddenIn]; done) | decide +kernel
theorem own_d_ini_0 : decode prog_24_method_1_code 0 = .ok (.aload_n 0, 1) := by decide +kernel
theorem own_d_ini_1 : decode prog_24_method_1_code 1 = .ok (.invokespecial 1, 3) := by decide +kernel
theorem own_d_ini_4 : decode prog_24_method_1_code 4 = .ok (.aload_n 0, 1) := by decide +kernel
theorem own_d_ini_5 : decode prog_24_method_1_code 5 = .ok (.aload_n 1, 1) := by decide +kernel
theorem own_d_ini_6 : decode prog_24_method_1_code 6 = .ok (.putfield 7, 3) := by decide +kernel
theorem own_d_ini_9 : decode prog_24_method_1_code 9 = .ok (.aload_n 0, 1) := by decide +kernel
theorem own_d_ini_10 : decode prog_24_method_1_code 10 = .ok (.iload_n 2, 1) := by decide +kernel
theorem own_d_ini_11 : decode prog_24_method_1_code 11 = .ok (.putfield 13, 3) := by decide +kernel
theorem own_d_ini_14 : decode prog_24_method_1_code 14 = .ok (.aload_n 0, 1) := by decide +kernel
theorem own_d_ini_15 : decode prog_24_method_1_code 15 = .ok (.iload_n 3, 1) := by decide +kernel
theorem own_d_ini_16 : decode prog_24_method_1_code 16 = .ok (.putfield 17, 3) := by decide +kernel
theorem own_d_ini_19 : decode prog_24_method_1_code 19 = .ok (.aload_n 0, 1) := by decide +kernel
theorem own_d_ini_20 : decode prog_24_method_1_code 20 = .ok (.iload 4, 2) := by decide +kernel
theorem own_d_ini_22 : decode prog_24_method_1_code 22 = .ok (.putfield 20, 3) := by decide +kernel
theorem own_d_ini_25 : decode prog_24_method_1_code 25 = .ok (.aload_n 0, 1) := by decide +kernel
theorem own_d_ini_26 : decode prog_24_method_1_code 26 = .ok (.iload 5, 2) := by decide +kernel
theorem own_d_ini_28 : decode prog_24_method_1_code 28 = .ok (.putfield 23, 3) := by decide +kernel
theorem own_d_ini_31 : decode prog_24_method_1_code 31 = .ok (.aload_n 0, 1) := by decide +kernel
theorem own_d_ini_32 : decode prog_24_method_1_code 32 = .ok (.iload 6, 2) := by decide +kernel
theorem own_d_ini_34 : decode prog_24_method_1_code 34 = .ok (.putfield 26, 3) := by decide +kernel
theorem own_d_ini_37 : decode prog_24_method_1_code 37 = .ok (.aload_n 0, 1) := by decide +kernel
theorem own_d_ini_38 : decode prog_24_method_1_code 38 = .ok (.iload 7, 2) := by decide +kernel
theorem own_d_ini_40 : decode prog_24_method_1_code 40 = .ok (.putfield 29, 3) := by decide +kernel
theorem own_d_ini_43 : decode prog_24_method_1_code 43 = .ok (.return_, 1) := by decide +kernel
theorem own_ef_ini (m : MethodId) (a0 : Addr) (a1 : Addr) (p2 : Int32) (p3 : Int32) (p4 : Int32) (p5 : Int32) (p6 : Int32) (p7 : Int32) : entryFrame m #[(.ref a0), (.ref a1), (.int p2), (.int p3), (.int p4), (.int p5), (.int p6), (.int p7)] 8 = mkF m 0 #[.val (.ref a0), .val (.ref a1), .val (.int p2), .val (.int p3), .val (.int p4), .val (.int p5), .val (.int p6), .val (.int p7)] [] := by first | (simp [entryFrame, mkF, argsToLocals, Value.category]; done) | rfl
def Q_ini (Z : State) (a0 : Addr) (a1 : Addr) (p2 : Int32) (p3 : Int32) (p4 : Int32) (p5 : Int32) (p6 : Int32) (p7 : Int32) (h0 : Heap) (n0 : Nat) (v : Option Value) (h : Heap) (L : List Loc) : Prop := v = none ∧ Fr n0 L ∧ Keep h0 h [a0] ∧ Exa Z h a0 "com/example/entry_to_apps/entrytoapps/GridProfile" ∧ Fld Z h a0 "com/example/entry_to_apps/entrytoapps/GridProfile" "minWidth" "I" (.int p4) ∧ Fld Z h a0 "com/example/entry_to_apps/entrytoapps/GridProfile" "minHeight" "I" (.int p5)
set_option maxRecDepth 65536 in
set_option maxHeartbeats 40000000 in
theorem rm_ini (l : Launch) (Z : State) (a0' : Array Value) (hw : ∀ d ∈ tables_1, d.before a0' Z = true) (ws : List Jvm.Cond) (a0 : Addr) (a1 : Addr) (p2 : Int32) (p3 : Int32) (p4 : Int32) (p5 : Int32) (p6 : Int32) (p7 : Int32) (h0 : Heap) (n0 : Nat) (Z0 : n0 ≤ h0.size) (E_t : Exa Z h0 a0 "com/example/entry_to_apps/entrytoapps/GridProfile") (F0_rows : Fld Z h0 a0 "com/example/entry_to_apps/entrytoapps/GridProfile" "rows" "I" (.int (0 : Int32))) (g_t : n0 ≤ a0) :
    MetFree l (⟨"com/example/entry_to_apps/entrytoapps/GridProfile", "<init>", "(Ljava/lang/String;IIIIIZ)V"⟩ : MethodName) (head1 (Jvm.Cond.code (⟨"com/example/entry_to_apps/entrytoapps/GridProfile", "<init>", "(Ljava/lang/String;IIIIIZ)V"⟩ : MethodName) prog_24_method_1_code 8 none :: ws) ({ frames := 1, cells := 0, slots := 0, locals := 12 } : Room)) (fun a U => a = #[(.ref a0), (.ref a1), (.int p2), (.int p3), (.int p4), (.int p5), (.int p6), (.int p7)] ∧ Z.Warmed39 U.vm ∧ U.heap = h0) (fun _ _ _ _ _ => True) (fun _ U o U' => ∃ v L, o = .returned v ∧ Q_ini Z a0 a1 p2 p3 p4 p5 p6 p7 h0 n0 v U'.heap L ∧ FrameEnd U o U' L ({ frames := 1, cells := 0, slots := 0, locals := 12 } : Room).cells ({ frames := 1, cells := 0, slots := 0, locals := 12 } : Room).slots) := by
  refine MetFree.of_bodySF (plainFor_of_name own_pn0) hisR ?_
  intro p e s m args below meth c s₁ Bd hml0 hP hK
  obtain ⟨rfl, hZ, hh⟩ := hP
  have hx := Bd.exec
  have hby := Bd.bytes
  have hml : c.maxLocals = 8 := hml0
  have hown : s.vm.findClass "com/example/entry_to_apps/entrytoapps/GridProfile" = some m.cls := findClass_of_methodNamed Bd.named
  have hnm := (name_of_methodNamed Bd.named Bd.method).1
  have X0 : Stand p l e ({ frames := 1, cells := 0, slots := 0, locals := 12 } : Room) s m #[(.ref a0), (.ref a1), (.int p2), (.int p3), (.int p4), (.int p5), (.int p6), (.int p7)] below meth c s₁ [] 0 0 := Stand.of_body Bd
  have e0 : s₁.heap = h0 := by rw [← hh, Bd.state]; rfl
  have N0 := Fr.nil n0
  have pre0 : ∀ t, Steps p.tables e below (s₁.setTop (mkF m 0 #[.val (.ref a0), .val (.ref a1), .val (.int p2), .val (.int p3), .val (.int p4), .val (.int p5), .val (.int p6), .val (.int p7)] [])) t → Steps p.tables e below (s₁.setTop (entryFrame m #[(.ref a0), (.ref a1), (.int p2), (.int p3), (.int p4), (.int p5), (.int p6), (.int p7)] 8)) t := fun t k => castTop (own_ef_ini m a0 a1 p2 p3 p4 p5 p6 p7) k
  obtain ⟨T1, X1, e1, st1⟩ := initO X0 hx hZ hown (hw _ (List.mem_of_getElem? (i := 15) rfl)) (hw _ (List.mem_of_getElem? (i := 16) rfl)) (hw _ (List.mem_of_getElem? (i := 17) rfl)) e0 (g := (mkF m 1 #[.val (.ref a0), .val (.ref a1), .val (.int p2), .val (.int p3), .val (.int p4), .val (.int p5), .val (.int p6), .val (.int p7)] [(.ref a0)])) rfl (by rw [hml]; rfl) rfl (hb hby own_d_ini_1) (by decide) (W := 0) (by show 2 * 0 + _ ≤ _; exact Nat.le_of_eq rfl) (by decide)
  obtain ⟨old2, Fo2⟩ := own_fld2 (O := "com/example/entry_to_apps/entrytoapps/GridProfile") (n := "name") (d := "Ljava/lang/String;") (a0 := a0') E_t F0_rows (Or.inr (hw _ (List.mem_of_getElem? (i := 19) rfl))) (hw _ (List.mem_of_getElem? (i := 2) rfl))
  obtain ⟨T3, h3, X3, e3, W3, st3⟩ := putF X1 hx hZ hown (host := "") (Or.inl (hw _ (List.mem_of_getElem? (i := 18) rfl))) Via.refl e1 Fo2 E_t (Or.inr ⟨(hw _ (List.mem_of_getElem? (i := 19) rfl)), rfl, hnm⟩) (hw _ (List.mem_of_getElem? (i := 2) rfl)) (ty := (.object "java/lang/String")) (by decide) rfl rfl (g := (mkF m 6 #[.val (.ref a0), .val (.ref a1), .val (.int p2), .val (.int p3), .val (.int p4), .val (.int p5), .val (.int p6), .val (.int p7)] [(.ref a1), (.ref a0)])) rfl rfl (hb hby own_d_ini_6)
  have Fw3 : Fld Z h3 a0 "com/example/entry_to_apps/entrytoapps/GridProfile" "name" "Ljava/lang/String;" (.ref a1) := Fo2.same W3
  have Ew3 := E_t.wr W3
  have Kp3 : Keep h0 h3 [a0] := (Keep.refl h0 [a0]).wr W3 (Or.inl (List.mem_of_getElem? (i := 0) rfl))
  have N3 := Fr.snoc X3 N0 g_t
  obtain ⟨old4, Fo4⟩ := own_fld2 (O := "com/example/entry_to_apps/entrytoapps/GridProfile") (n := "rows") (d := "I") (a0 := a0') Ew3 Fw3 (Or.inr (hw _ (List.mem_of_getElem? (i := 21) rfl))) (hw _ (List.mem_of_getElem? (i := 2) rfl))
  obtain ⟨T5, h5, X5, e5, W5, st5⟩ := putF X3 hx hZ hown (host := "") (Or.inl (hw _ (List.mem_of_getElem? (i := 20) rfl))) Via.refl e3 Fo4 Ew3 (Or.inr ⟨(hw _ (List.mem_of_getElem? (i := 21) rfl)), rfl, hnm⟩) (hw _ (List.mem_of_getElem? (i := 2) rfl)) (ty := .int) (by decide) rfl rfl (g := (mkF m 11 #[.val (.ref a0), .val (.ref a1), .val (.int p2), .val (.int p3), .val (.int p4), .val (.int p5), .val (.int p6), .val (.int p7)] [(.int p2), (.ref a0)])) rfl rfl (hb hby own_d_ini_11)
  have Fw5 : Fld Z h5 a0 "com/example/entry_to_apps/entrytoapps/GridProfile" "rows" "I" (.int p2) := Fo4.same W5
  have Ew5 := Ew3.wr W5
  have Kp5 : Keep h0 h5 [a0] := Kp3.wr W5 (Or.inl (List.mem_of_getElem? (i := 0) rfl))
  have N5 := Fr.snoc X5 N3 g_t
  obtain ⟨old6, Fo6⟩ := own_fld2 (O := "com/example/entry_to_apps/entrytoapps/GridProfile") (n := "columns") (d := "I") (a0 := a0') Ew5 Fw5 (Or.inr (hw _ (List.mem_of_getElem? (i := 23) rfl))) (hw _ (List.mem_of_getElem? (i := 2) rfl))
  obtain ⟨T7, h7, X7, e7, W7, st7⟩ := putF X5 hx hZ hown (host := "") (Or.inl (hw _ (List.mem_of_getElem? (i := 22) rfl))) Via.refl e5 Fo6 Ew5 (Or.inr ⟨(hw _ (List.mem_of_getElem? (i := 23) rfl)), rfl, hnm⟩) (hw _ (List.mem_of_getElem? (i := 2) rfl)) (ty := .int) (by decide) rfl rfl (g := (mkF m 16 #[.val (.ref a0), .val (.ref a1), .val (.int p2), .val (.int p3), .val (.int p4), .val (.int p5), .val (.int p6), .val (.int p7)] [(.int p3), (.ref a0)])) rfl rfl (hb hby own_d_ini_16)
  have Fw7 : Fld Z h7 a0 "com/example/entry_to_apps/entrytoapps/GridProfile" "columns" "I" (.int p3) := Fo6.same W7
  have Ew7 := Ew5.wr W7
  have Kp7 : Keep h0 h7 [a0] := Kp5.wr W7 (Or.inl (List.mem_of_getElem? (i := 0) rfl))
  have N7 := Fr.snoc X7 N5 g_t
  obtain ⟨old8, Fo8⟩ := own_fld2 (O := "com/example/entry_to_apps/entrytoapps/GridProfile") (n := "minWidth") (d := "I") (a0 := a0') Ew7 Fw7 (Or.inr (hw _ (List.mem_of_getElem? (i := 25) rfl))) (hw _ (List.mem_of_getElem? (i := 2) rfl))
  obtain ⟨T9, h9, X9, e9, W9, st9⟩ := putF X7 hx hZ hown (host := "") (Or.inl (hw _ (List.mem_of_getElem? (i := 24) rfl))) Via.refl e7 Fo8 Ew7 (Or.inr ⟨(hw _ (List.mem_of_getElem? (i := 25) rfl)), rfl, hnm⟩) (hw _ (List.mem_of_getElem? (i := 2) rfl)) (ty := .int) (by decide) rfl rfl (g := (mkF m 22 #[.val (.ref a0), .val (.ref a1), .val (.int p2), .val (.int p3), .val (.int p4), .val (.int p5), .val (.int p6), .val (.int p7)] [(.int p4), (.ref a0)])) rfl rfl (hb hby own_d_ini_22)
  have Fw9 : Fld Z h9 a0 "com/example/entry_to_apps/entrytoapps/GridProfile" "minWidth" "I" (.int p4) := Fo8.same W9
  have Ew9 := Ew7.wr W9
  have Kp9 : Keep h0 h9 [a0] := Kp7.wr W9 (Or.inl (List.mem_of_getElem? (i := 0) rfl))
  have N9 := Fr.snoc X9 N7 g_t
  obtain ⟨old10, Fo10⟩ := own_fld2 (O := "com/example/entry_to_apps/entrytoapps/GridProfile") (n := "minHeight") (d := "I") (a0 := a0') Ew9 Fw9 (Or.inr (hw _ (List.mem_of_getElem? (i := 27) rfl))) (hw _ (List.mem_of_getElem? (i := 2) rfl))
  obtain ⟨T11, h11, X11, e11, W11, st11⟩ := putF X9 hx hZ hown (host := "") (Or.inl (hw _ (List.mem_of_getElem? (i := 26) rfl))) Via.refl e9 Fo10 Ew9 (Or.inr ⟨(hw _ (List.mem_of_getElem? (i := 27) rfl)), rfl, hnm⟩) (hw _ (List.mem_of_getElem? (i := 2) rfl)) (ty := .int) (by decide) rfl rfl (g := (mkF m 28 #[.val (.ref a0), .val (.ref a1), .val (.int p2), .val (.int p3), .val (.int p4), .val (.int p5), .val (.int p6), .val (.int p7)] [(.int p5), (.ref a0)])) rfl rfl (hb hby own_d_ini_28)
  have Fw11 : Fld Z h11 a0 "com/example/entry_to_apps/entrytoapps/GridProfile" "minHeight" "I" (.int p5) := Fo10.same W11
  have Ew11 := Ew9.wr W11
  have Kp11 : Keep h0 h11 [a0] := Kp9.wr W11 (Or.inl (List.mem_of_getElem? (i := 0) rfl))
  have N11 := Fr.snoc X11 N9 g_t
  have FtminWidth_11 := Fw9.other W11 (Or.inr (slot_ne (a0 := a0') (Or.inr (hw _ (List.mem_of_getElem? (i := 25) rfl))) (Or.inr (hw _ (List.mem_of_getElem? (i := 27) rfl))) (by decide) (t := .int) (t' := .int) (by decide) (by decide)))
  obtain ⟨old12, Fo12⟩ := own_fld2 (O := "com/example/entry_to_apps/entrytoapps/GridProfile") (n := "iconSize") (d := "I") (a0 := a0') Ew11 Fw11 (Or.inr (hw _ (List.mem_of_getElem? (i := 29) rfl))) (hw _ (List.mem_of_getElem? (i := 2) rfl))
  obtain ⟨T13, h13, X13, e13, W13, st13⟩ := putF X11 hx hZ hown (host := "") (Or.inl (hw _ (List.mem_of_getElem? (i := 28) rfl))) Via.refl e11 Fo12 Ew11 (Or.inr ⟨(hw _ (List.mem_of_getElem? (i := 29) rfl)), rfl, hnm⟩) (hw _ (List.mem_of_getElem? (i := 2) rfl)) (ty := .int) (by decide) rfl rfl (g := (mkF m 34 #[.val (.ref a0), .val (.ref a1), .val (.int p2), .val (.int p3), .val (.int p4), .val (.int p5), .val (.int p6), .val (.int p7)] [(.int p6), (.ref a0)])) rfl rfl (hb hby own_d_ini_34)
  have Fw13 : Fld Z h13 a0 "com/example/entry_to_apps/entrytoapps/GridProfile" "iconSize" "I" (.int p6) := Fo12.same W13
  have Ew13 := Ew11.wr W13
  have Kp13 : Keep h0 h13 [a0] := Kp11.wr W13 (Or.inl (List.mem_of_getElem? (i := 0) rfl))
  have N13 := Fr.snoc X13 N11 g_t
  have FtminWidth_13 := FtminWidth_11.other W13 (Or.inr (slot_ne (a0 := a0') (Or.inr (hw _ (List.mem_of_getElem? (i := 25) rfl))) (Or.inr (hw _ (List.mem_of_getElem? (i := 29) rfl))) (by decide) (t := .int) (t' := .int) (by decide) (by decide)))
  have FtminHeight_13 := Fw11.other W13 (Or.inr (slot_ne (a0 := a0') (Or.inr (hw _ (List.mem_of_getElem? (i := 27) rfl))) (Or.inr (hw _ (List.mem_of_getElem? (i := 29) rfl))) (by decide) (t := .int) (t' := .int) (by decide) (by decide)))
  obtain ⟨old14, Fo14⟩ := own_fld2 (O := "com/example/entry_to_apps/entrytoapps/GridProfile") (n := "isDefault") (d := "Z") (a0 := a0') Ew13 Fw13 (Or.inr (hw _ (List.mem_of_getElem? (i := 31) rfl))) (hw _ (List.mem_of_getElem? (i := 2) rfl))
  obtain ⟨T15, h15, X15, e15, W15, st15⟩ := putFN X13 hx hZ hown (hw _ (List.mem_of_getElem? (i := 30) rfl)) Via.refl e13 Fo14 Ew13 (Or.inr ⟨(hw _ (List.mem_of_getElem? (i := 31) rfl)), rfl, hnm⟩) (hw _ (List.mem_of_getElem? (i := 2) rfl)) (ty := .boolean) (v' := (.int (nar .boolean p7))) (by decide) rfl (fits_nar_bool _) (g := (mkF m 40 #[.val (.ref a0), .val (.ref a1), .val (.int p2), .val (.int p3), .val (.int p4), .val (.int p5), .val (.int p6), .val (.int p7)] [(.int p7), (.ref a0)])) rfl rfl (hb hby own_d_ini_40)
  have Fw15 : Fld Z h15 a0 "com/example/entry_to_apps/entrytoapps/GridProfile" "isDefault" "Z" (.int (nar .boolean p7)) := Fo14.same W15
  have Ew15 := Ew13.wr W15
  have Kp15 : Keep h0 h15 [a0] := Kp13.wr W15 (Or.inl (List.mem_of_getElem? (i := 0) rfl))
  have N15 := Fr.snoc X15 N13 g_t
  have FtminWidth_15 := FtminWidth_13.other W15 (Or.inr (slot_ne (a0 := a0') (Or.inr (hw _ (List.mem_of_getElem? (i := 25) rfl))) (Or.inr (hw _ (List.mem_of_getElem? (i := 31) rfl))) (by decide) (t := .int) (t' := .boolean) (by decide) (by decide)))
  have FtminHeight_15 := FtminHeight_13.other W15 (Or.inr (slot_ne (a0 := a0') (Or.inr (hw _ (List.mem_of_getElem? (i := 27) rfl))) (Or.inr (hw _ (List.mem_of_getElem? (i := 31) rfl))) (by decide) (t := .int) (t' := .boolean) (by decide) (by decide)))
  obtain ⟨fs, hr, hrun, hended, hW, hsame⟩ := X15.leave (v := none) (fun _ => rfl)
  refine ⟨_, _, pre0 _ ?_, hrun, hended, _, _, rfl, ?_, ⟨_, rfl⟩, hW, hsame.mono (by decide) (by decide)⟩
  · show Steps p.tables e below (s₁.setTop (mkF m 0 #[.val (.ref a0), .val (.ref a1), .val (.int p2), .val (.int p3), .val (.int p4), .val (.int p5), .val (.int p6), .val (.int p7)] [])) _
    refine XS.aloadN X0.here hx rfl (hb hby own_d_ini_0) rfl rfl ?_
    show Steps p.tables e below (s₁.setTop (mkF m 1 #[.val (.ref a0), .val (.ref a1), .val (.int p2), .val (.int p3), .val (.int p4), .val (.int p5), .val (.int p6), .val (.int p7)] [(.ref a0)])) _
    refine st1 _ ?_
    show Steps p.tables e below (T1.setTop (mkF m 4 #[.val (.ref a0), .val (.ref a1), .val (.int p2), .val (.int p3), .val (.int p4), .val (.int p5), .val (.int p6), .val (.int p7)] [])) _
    refine XS.aloadN X1.here hx rfl (hb hby own_d_ini_4) rfl rfl ?_
    show Steps p.tables e below (T1.setTop (mkF m 5 #[.val (.ref a0), .val (.ref a1), .val (.int p2), .val (.int p3), .val (.int p4), .val (.int p5), .val (.int p6), .val (.int p7)] [(.ref a0)])) _
    refine XS.aloadN X1.here hx rfl (hb hby own_d_ini_5) rfl rfl ?_
    show Steps p.tables e below (T1.setTop (mkF m 6 #[.val (.ref a0), .val (.ref a1), .val (.int p2), .val (.int p3), .val (.int p4), .val (.int p5), .val (.int p6), .val (.int p7)] [(.ref a1), (.ref a0)])) _
    refine st3 _ ?_
    show Steps p.tables e below (T3.setTop (mkF m 9 #[.val (.ref a0), .val (.ref a1), .val (.int p2), .val (.int p3), .val (.int p4), .val (.int p5), .val (.int p6), .val (.int p7)] [])) _
    refine XS.aloadN X3.here hx rfl (hb hby own_d_ini_9) rfl rfl ?_
    show Steps p.tables e below (T3.setTop (mkF m 10 #[.val (.ref a0), .val (.ref a1), .val (.int p2), .val (.int p3), .val (.int p4), .val (.int p5), .val (.int p6), .val (.int p7)] [(.ref a0)])) _
    refine XS.iloadN X3.here hx rfl (hb hby own_d_ini_10) rfl ?_
    show Steps p.tables e below (T3.setTop (mkF m 11 #[.val (.ref a0), .val (.ref a1), .val (.int p2), .val (.int p3), .val (.int p4), .val (.int p5), .val (.int p6), .val (.int p7)] [(.int p2), (.ref a0)])) _
    refine st5 _ ?_
    show Steps p.tables e below (T5.setTop (mkF m 14 #[.val (.ref a0), .val (.ref a1), .val (.int p2), .val (.int p3), .val (.int p4), .val (.int p5), .val (.int p6), .val (.int p7)] [])) _
    refine XS.aloadN X5.here hx rfl (hb hby own_d_ini_14) rfl rfl ?_
    show Steps p.tables e below (T5.setTop (mkF m 15 #[.val (.ref a0), .val (.ref a1), .val (.int p2), .val (.int p3), .val (.int p4), .val (.int p5), .val (.int p6), .val (.int p7)] [(.ref a0)])) _
    refine XS.iloadN X5.here hx rfl (hb hby own_d_ini_15) rfl ?_
    show Steps p.tables e below (T5.setTop (mkF m 16 #[.val (.ref a0), .val (.ref a1), .val (.int p2), .val (.int p3), .val (.int p4), .val (.int p5), .val (.int p6), .val (.int p7)] [(.int p3), (.ref a0)])) _
    refine st7 _ ?_
    show Steps p.tables e below (T7.setTop (mkF m 19 #[.val (.ref a0), .val (.ref a1), .val (.int p2), .val (.int p3), .val (.int p4), .val (.int p5), .val (.int p6), .val (.int p7)] [])) _
    refine XS.aloadN X7.here hx rfl (hb hby own_d_ini_19) rfl rfl ?_
    show Steps p.tables e below (T7.setTop (mkF m 20 #[.val (.ref a0), .val (.ref a1), .val (.int p2), .val (.int p3), .val (.int p4), .val (.int p5), .val (.int p6), .val (.int p7)] [(.ref a0)])) _
    refine XS.iload X7.here hx rfl (hb hby own_d_ini_20) rfl ?_
    show Steps p.tables e below (T7.setTop (mkF m 22 #[.val (.ref a0), .val (.ref a1), .val (.int p2), .val (.int p3), .val (.int p4), .val (.int p5), .val (.int p6), .val (.int p7)] [(.int p4), (.ref a0)])) _
    refine st9 _ ?_
    show Steps p.tables e below (T9.setTop (mkF m 25 #[.val (.ref a0), .val (.ref a1), .val (.int p2), .val (.int p3), .val (.int p4), .val (.int p5), .val (.int p6), .val (.int p7)] [])) _
    refine XS.aloadN X9.here hx rfl (hb hby own_d_ini_25) rfl rfl ?_
    show Steps p.tables e below (T9.setTop (mkF m 26 #[.val (.ref a0), .val (.ref a1), .val (.int p2), .val (.int p3), .val (.int p4), .val (.int p5), .val (.int p6), .val (.int p7)] [(.ref a0)])) _
    refine XS.iload X9.here hx rfl (hb hby own_d_ini_26) rfl ?_
    show Steps p.tables e below (T9.setTop (mkF m 28 #[.val (.ref a0), .val (.ref a1), .val (.int p2), .val (.int p3), .val (.int p4), .val (.int p5), .val (.int p6), .val (.int p7)] [(.int p5), (.ref a0)])) _
    refine st11 _ ?_
    show Steps p.tables e below (T11.setTop (mkF m 31 #[.val (.ref a0), .val (.ref a1), .val (.int p2), .val (.int p3), .val (.int p4), .val (.int p5), .val (.int p6), .val (.int p7)] [])) _
    refine XS.aloadN X11.here hx rfl (hb hby own_d_ini_31) rfl rfl ?_
    show Steps p.tables e below (T11.setTop (mkF m 32 #[.val (.ref a0), .val (.ref a1), .val (.int p2), .val (.int p3), .val (.int p4), .val (.int p5), .val (.int p6), .val (.int p7)] [(.ref a0)])) _
    refine XS.iload X11.here hx rfl (hb hby own_d_ini_32) rfl ?_
    show Steps p.tables e below (T11.setTop (mkF m 34 #[.val (.ref a0), .val (.ref a1), .val (.int p2), .val (.int p3), .val (.int p4), .val (.int p5), .val (.int p6), .val (.int p7)] [(.int p6), (.ref a0)])) _
    refine st13 _ ?_
    show Steps p.tables e below (T13.setTop (mkF m 37 #[.val (.ref a0), .val (.ref a1), .val (.int p2), .val (.int p3), .val (.int p4), .val (.int p5), .val (.int p6), .val (.int p7)] [])) _
    refine XS.aloadN X13.here hx rfl (hb hby own_d_ini_37) rfl rfl ?_
    show Steps p.tables e below (T13.setTop (mkF m 38 #[.val (.ref a0), .val (.ref a1), .val (.int p2), .val (.int p3), .val (.int p4), .val (.int p5), .val (.int p6), .val (.int p7)] [(.ref a0)])) _
    refine XS.iload X13.here hx rfl (hb hby own_d_ini_38) rfl ?_
    show Steps p.tables e below (T13.setTop (mkF m 40 #[.val (.ref a0), .val (.ref a1), .val (.int p2), .val (.int p3), .val (.int p4), .val (.int p5), .val (.int p6), .val (.int p7)] [(.int p7), (.ref a0)])) _
    refine st15 _ ?_
    show Steps p.tables e below (T15.setTop (mkF m 43 #[.val (.ref a0), .val (.ref a1), .val (.int p2), .val (.int p3), .val (.int p4), .val (.int p5), .val (.int p6), .val (.int p7)] [])) _
    exact X15.returnOut hx Bd.returns (hb hby own_d_ini_43) hr
  · show Q_ini Z a0 a1 p2 p3 p4 p5 p6 p7 h0 n0 _ T15.heap _
    rw [e15]
    exact ⟨rfl, N15, Kp15, Ew15, FtminWidth_15, FtminHeight_15⟩
theorem own_pn1 : plainName "com/example/entry_to_apps/entrytoapps/GridProfileSquaredDistancePinLaw" = true := by first | (simp [plainName, overriddenIn]; done) | decide +kernel
theorem own_d_sq_0 : decode method_2_code 0 = .ok (.iload_n 0, 1) := by decide +kernel
theorem own_d_sq_1 : decode method_2_code 1 = .ok (.iload_n 1, 1) := by decide +kernel
theorem own_d_sq_2 : decode method_2_code 2 = .ok (.if_icmp .lt 10, 3) := by decide +kernel
theorem own_d_sq_12 : decode method_2_code 12 = .ok (.iload_n 1, 1) := by decide +kernel
theorem own_d_sq_13 : decode method_2_code 13 = .ok (.iload_n 0, 1) := by decide +kernel
theorem own_d_sq_14 : decode method_2_code 14 = .ok (.isub, 1) := by decide +kernel
theorem own_d_sq_15 : decode method_2_code 15 = .ok (.istore_n 2, 1) := by decide +kernel
theorem own_d_sq_16 : decode method_2_code 16 = .ok (.iload_n 2, 1) := by decide +kernel
theorem own_d_sq_17 : decode method_2_code 17 = .ok (.i2l, 1) := by decide +kernel
theorem own_d_sq_18 : decode method_2_code 18 = .ok (.lstore_n 3, 1) := by decide +kernel
theorem own_d_sq_19 : decode method_2_code 19 = .ok (.lload_n 3, 1) := by decide +kernel
theorem own_d_sq_20 : decode method_2_code 20 = .ok (.lload_n 3, 1) := by decide +kernel
theorem own_d_sq_21 : decode method_2_code 21 = .ok (.lmul, 1) := by decide +kernel
theorem own_d_sq_22 : decode method_2_code 22 = .ok (.lreturn, 1) := by decide +kernel
theorem own_d_sq_5 : decode method_2_code 5 = .ok (.iload_n 0, 1) := by decide +kernel
theorem own_d_sq_6 : decode method_2_code 6 = .ok (.iload_n 1, 1) := by decide +kernel
theorem own_d_sq_7 : decode method_2_code 7 = .ok (.isub, 1) := by decide +kernel
theorem own_d_sq_8 : decode method_2_code 8 = .ok (.istore_n 2, 1) := by decide +kernel
theorem own_d_sq_9 : decode method_2_code 9 = .ok (.goto 7, 3) := by decide +kernel
def F_sq (p0 : Int32) (p1 : Int32) : Int64 := (if p0 < p1 then (((p1 - p0).toInt64) * ((p1 - p0).toInt64)) else (((p0 - p1).toInt64) * ((p0 - p1).toInt64)))
theorem own_ef_sq (m : MethodId) (p0 : Int32) (p1 : Int32) : entryFrame m #[(.int p0), (.int p1)] 5 = mkF m 0 #[.val (.int p0), .val (.int p1), .unset, .unset, .unset] [] := by first | (simp [entryFrame, mkF, argsToLocals, Value.category]; done) | rfl
def Q_sq (Z : State) (p0 : Int32) (p1 : Int32) (h0 : Heap) (n0 : Nat) (v : Option Value) (h : Heap) (L : List Loc) : Prop := v = some (.long (F_sq p0 p1)) ∧ Fr n0 L ∧ h = h0
set_option maxRecDepth 65536 in
set_option maxHeartbeats 40000000 in
theorem rm_sq (l : Launch) (Z : State) (a0' : Array Value) (hw : ∀ d ∈ tables_1, d.before a0' Z = true) (ws : List Jvm.Cond) (p0 : Int32) (p1 : Int32) (h0 : Heap) (n0 : Nat) (Z0 : n0 ≤ h0.size) :
    MetFree l (⟨"com/example/entry_to_apps/entrytoapps/GridProfileSquaredDistancePinLaw", "sq", "(II)J"⟩ : MethodName) (head1 (Jvm.Cond.code (⟨"com/example/entry_to_apps/entrytoapps/GridProfileSquaredDistancePinLaw", "sq", "(II)J"⟩ : MethodName) method_2_code 5 (some .long) :: ws) ({ frames := 0, cells := 0, slots := 0, locals := 0 } : Room)) (fun a U => a = #[(.int p0), (.int p1)] ∧ Z.Warmed39 U.vm ∧ U.heap = h0) (fun _ _ _ _ _ => True) (fun _ U o U' => ∃ v L, o = .returned v ∧ Q_sq Z p0 p1 h0 n0 v U'.heap L ∧ FrameEnd U o U' L ({ frames := 0, cells := 0, slots := 0, locals := 0 } : Room).cells ({ frames := 0, cells := 0, slots := 0, locals := 0 } : Room).slots) := by
  refine MetFree.of_bodySF (plainFor_of_name own_pn1) hisR ?_
  intro p e s m args below meth c s₁ Bd hml0 hP hK
  obtain ⟨rfl, hZ, hh⟩ := hP
  have hx := Bd.exec
  have hby := Bd.bytes
  have hml : c.maxLocals = 5 := hml0
  have hown : s.vm.findClass "com/example/entry_to_apps/entrytoapps/GridProfileSquaredDistancePinLaw" = some m.cls := findClass_of_methodNamed Bd.named
  have hnm := (name_of_methodNamed Bd.named Bd.method).1
  have X0 : Stand p l e ({ frames := 0, cells := 0, slots := 0, locals := 0 } : Room) s m #[(.int p0), (.int p1)] below meth c s₁ [] 0 0 := Stand.of_body Bd
  have e0 : s₁.heap = h0 := by rw [← hh, Bd.state]; rfl
  have N0 := Fr.nil n0
  have pre0 : ∀ t, Steps p.tables e below (s₁.setTop (mkF m 0 #[.val (.int p0), .val (.int p1), .unset, .unset, .unset] [])) t → Steps p.tables e below (s₁.setTop (entryFrame m #[(.int p0), (.int p1)] 5)) t := fun t k => castTop (own_ef_sq m p0 p1) k
  have pre17 : ∀ t, Steps p.tables e below (s₁.setTop (mkF m 2 #[.val (.int p0), .val (.int p1), .unset, .unset, .unset] [(.int p1), (.int p0)])) t → Steps p.tables e below (s₁.setTop (entryFrame m #[(.int p0), (.int p1)] 5)) t := fun t k => pre0 t (by
    show Steps p.tables e below (s₁.setTop (mkF m 0 #[.val (.int p0), .val (.int p1), .unset, .unset, .unset] [])) _
    refine XS.iloadN X0.here hx rfl (hb hby own_d_sq_0) rfl ?_
    show Steps p.tables e below (s₁.setTop (mkF m 1 #[.val (.int p0), .val (.int p1), .unset, .unset, .unset] [(.int p0)])) _
    refine XS.iloadN X0.here hx rfl (hb hby own_d_sq_1) rfl ?_
    exact k)
  by_cases hc2_16 : p0 < p1
  · obtain ⟨fs, hr, hrun, hended, hW, hsame⟩ := X0.leave (v := some (.long (((p1 - p0).toInt64) * ((p1 - p0).toInt64)))) (fun h => by rw [Bd.returns] at h; cases h)
    refine ⟨_, _, pre17 _ ?_, hrun, hended, _, _, rfl, ?_, ⟨_, rfl⟩, hW, hsame.mono (by decide) (by decide)⟩
    · show Steps p.tables e below (s₁.setTop (mkF m 2 #[.val (.int p0), .val (.int p1), .unset, .unset, .unset] [(.int p1), (.int p0)])) _
      refine XS.icmpYes X0.here hx rfl (pc0 := 2) (pc' := 12) rfl (hb hby own_d_sq_2) rfl (tlt hc2_16).1 (by decide) (by decide) ?_
      show Steps p.tables e below (s₁.setTop (mkF m 12 #[.val (.int p0), .val (.int p1), .unset, .unset, .unset] [])) _
      refine XS.iloadN X0.here hx rfl (hb hby own_d_sq_12) rfl ?_
      show Steps p.tables e below (s₁.setTop (mkF m 13 #[.val (.int p0), .val (.int p1), .unset, .unset, .unset] [(.int p1)])) _
      refine XS.iloadN X0.here hx rfl (hb hby own_d_sq_13) rfl ?_
      show Steps p.tables e below (s₁.setTop (mkF m 14 #[.val (.int p0), .val (.int p1), .unset, .unset, .unset] [(.int p0), (.int p1)])) _
      refine XS.isub X0.here hx rfl (hb hby own_d_sq_14) rfl ?_
      show Steps p.tables e below (s₁.setTop (mkF m 15 #[.val (.int p0), .val (.int p1), .unset, .unset, .unset] [(.int (p1 - p0))])) _
      refine XS.istoreN X0.here hx rfl (hb hby own_d_sq_15) rfl (l' := #[.val (.int p0), .val (.int p1), .val (.int (p1 - p0)), .unset, .unset]) rfl ?_
      show Steps p.tables e below (s₁.setTop (mkF m 16 #[.val (.int p0), .val (.int p1), .val (.int (p1 - p0)), .unset, .unset] [])) _
      refine XS.iloadN X0.here hx rfl (hb hby own_d_sq_16) rfl ?_
      show Steps p.tables e below (s₁.setTop (mkF m 17 #[.val (.int p0), .val (.int p1), .val (.int (p1 - p0)), .unset, .unset] [(.int (p1 - p0))])) _
      refine XS.i2l X0.here hx rfl (hb hby own_d_sq_17) rfl ?_
      show Steps p.tables e below (s₁.setTop (mkF m 18 #[.val (.int p0), .val (.int p1), .val (.int (p1 - p0)), .unset, .unset] [(.long ((p1 - p0).toInt64))])) _
      refine XS.lstoreN X0.here hx rfl (hb hby own_d_sq_18) rfl (l' := #[.val (.int p0), .val (.int p1), .val (.int (p1 - p0)), .val (.long ((p1 - p0).toInt64)), .second]) rfl ?_
      show Steps p.tables e below (s₁.setTop (mkF m 19 #[.val (.int p0), .val (.int p1), .val (.int (p1 - p0)), .val (.long ((p1 - p0).toInt64)), .second] [])) _
      refine XS.lloadN X0.here hx rfl (hb hby own_d_sq_19) rfl ?_
      show Steps p.tables e below (s₁.setTop (mkF m 20 #[.val (.int p0), .val (.int p1), .val (.int (p1 - p0)), .val (.long ((p1 - p0).toInt64)), .second] [(.long ((p1 - p0).toInt64))])) _
      refine XS.lloadN X0.here hx rfl (hb hby own_d_sq_20) rfl ?_
      show Steps p.tables e below (s₁.setTop (mkF m 21 #[.val (.int p0), .val (.int p1), .val (.int (p1 - p0)), .val (.long ((p1 - p0).toInt64)), .second] [(.long ((p1 - p0).toInt64)), (.long ((p1 - p0).toInt64))])) _
      refine XS.lmul X0.here hx rfl (hb hby own_d_sq_21) rfl ?_
      show Steps p.tables e below (s₁.setTop (mkF m 22 #[.val (.int p0), .val (.int p1), .val (.int (p1 - p0)), .val (.long ((p1 - p0).toInt64)), .second] [(.long (((p1 - p0).toInt64) * ((p1 - p0).toInt64)))])) _
      exact own_retJ X0 hx Bd.returns (hb hby own_d_sq_22) hr
    · show Q_sq Z p0 p1 h0 n0 _ s₁.heap _
      refine ⟨?_, N0, e0⟩
      rw [F_sq, if_pos hc2_16]
  · obtain ⟨fs, hr, hrun, hended, hW, hsame⟩ := X0.leave (v := some (.long (((p0 - p1).toInt64) * ((p0 - p1).toInt64)))) (fun h => by rw [Bd.returns] at h; cases h)
    refine ⟨_, _, pre17 _ ?_, hrun, hended, _, _, rfl, ?_, ⟨_, rfl⟩, hW, hsame.mono (by decide) (by decide)⟩
    · show Steps p.tables e below (s₁.setTop (mkF m 2 #[.val (.int p0), .val (.int p1), .unset, .unset, .unset] [(.int p1), (.int p0)])) _
      refine XS.icmpNo X0.here hx rfl (hb hby own_d_sq_2) rfl (flt hc2_16).1 ?_
      show Steps p.tables e below (s₁.setTop (mkF m 5 #[.val (.int p0), .val (.int p1), .unset, .unset, .unset] [])) _
      refine XS.iloadN X0.here hx rfl (hb hby own_d_sq_5) rfl ?_
      show Steps p.tables e below (s₁.setTop (mkF m 6 #[.val (.int p0), .val (.int p1), .unset, .unset, .unset] [(.int p0)])) _
      refine XS.iloadN X0.here hx rfl (hb hby own_d_sq_6) rfl ?_
      show Steps p.tables e below (s₁.setTop (mkF m 7 #[.val (.int p0), .val (.int p1), .unset, .unset, .unset] [(.int p1), (.int p0)])) _
      refine XS.isub X0.here hx rfl (hb hby own_d_sq_7) rfl ?_
      show Steps p.tables e below (s₁.setTop (mkF m 8 #[.val (.int p0), .val (.int p1), .unset, .unset, .unset] [(.int (p0 - p1))])) _
      refine XS.istoreN X0.here hx rfl (hb hby own_d_sq_8) rfl (l' := #[.val (.int p0), .val (.int p1), .val (.int (p0 - p1)), .unset, .unset]) rfl ?_
      show Steps p.tables e below (s₁.setTop (mkF m 9 #[.val (.int p0), .val (.int p1), .val (.int (p0 - p1)), .unset, .unset] [])) _
      refine XS.goto X0.here hx rfl (pc0 := 9) (pc' := 16) rfl (hb hby own_d_sq_9) (by decide) (by decide) ?_
      show Steps p.tables e below (s₁.setTop (mkF m 16 #[.val (.int p0), .val (.int p1), .val (.int (p0 - p1)), .unset, .unset] [])) _
      refine XS.iloadN X0.here hx rfl (hb hby own_d_sq_16) rfl ?_
      show Steps p.tables e below (s₁.setTop (mkF m 17 #[.val (.int p0), .val (.int p1), .val (.int (p0 - p1)), .unset, .unset] [(.int (p0 - p1))])) _
      refine XS.i2l X0.here hx rfl (hb hby own_d_sq_17) rfl ?_
      show Steps p.tables e below (s₁.setTop (mkF m 18 #[.val (.int p0), .val (.int p1), .val (.int (p0 - p1)), .unset, .unset] [(.long ((p0 - p1).toInt64))])) _
      refine XS.lstoreN X0.here hx rfl (hb hby own_d_sq_18) rfl (l' := #[.val (.int p0), .val (.int p1), .val (.int (p0 - p1)), .val (.long ((p0 - p1).toInt64)), .second]) rfl ?_
      show Steps p.tables e below (s₁.setTop (mkF m 19 #[.val (.int p0), .val (.int p1), .val (.int (p0 - p1)), .val (.long ((p0 - p1).toInt64)), .second] [])) _
      refine XS.lloadN X0.here hx rfl (hb hby own_d_sq_19) rfl ?_
      show Steps p.tables e below (s₁.setTop (mkF m 20 #[.val (.int p0), .val (.int p1), .val (.int (p0 - p1)), .val (.long ((p0 - p1).toInt64)), .second] [(.long ((p0 - p1).toInt64))])) _
      refine XS.lloadN X0.here hx rfl (hb hby own_d_sq_20) rfl ?_
      show Steps p.tables e below (s₁.setTop (mkF m 21 #[.val (.int p0), .val (.int p1), .val (.int (p0 - p1)), .val (.long ((p0 - p1).toInt64)), .second] [(.long ((p0 - p1).toInt64)), (.long ((p0 - p1).toInt64))])) _
      refine XS.lmul X0.here hx rfl (hb hby own_d_sq_21) rfl ?_
      show Steps p.tables e below (s₁.setTop (mkF m 22 #[.val (.int p0), .val (.int p1), .val (.int (p0 - p1)), .val (.long ((p0 - p1).toInt64)), .second] [(.long (((p0 - p1).toInt64) * ((p0 - p1).toInt64)))])) _
      exact own_retJ X0 hx Bd.returns (hb hby own_d_sq_22) hr
    · show Q_sq Z p0 p1 h0 n0 _ s₁.heap _
      refine ⟨?_, N0, e0⟩
      rw [F_sq, if_neg hc2_16]
theorem own_d_sd_0 : decode prog_24_method_9_code 0 = .ok (.iload_n 1, 1) := by decide +kernel
theorem own_d_sd_1 : decode prog_24_method_9_code 1 = .ok (.i2l, 1) := by decide +kernel
theorem own_d_sd_2 : decode prog_24_method_9_code 2 = .ok (.aload_n 0, 1) := by decide +kernel
theorem own_d_sd_3 : decode prog_24_method_9_code 3 = .ok (.getfield 20, 3) := by decide +kernel
theorem own_d_sd_6 : decode prog_24_method_9_code 6 = .ok (.i2l, 1) := by decide +kernel
theorem own_d_sd_7 : decode prog_24_method_9_code 7 = .ok (.lsub, 1) := by decide +kernel
theorem own_d_sd_8 : decode prog_24_method_9_code 8 = .ok (.lstore_n 3, 1) := by decide +kernel
theorem own_d_sd_9 : decode prog_24_method_9_code 9 = .ok (.iload_n 2, 1) := by decide +kernel
theorem own_d_sd_10 : decode prog_24_method_9_code 10 = .ok (.i2l, 1) := by decide +kernel
theorem own_d_sd_11 : decode prog_24_method_9_code 11 = .ok (.aload_n 0, 1) := by decide +kernel
theorem own_d_sd_12 : decode prog_24_method_9_code 12 = .ok (.getfield 23, 3) := by decide +kernel
theorem own_d_sd_15 : decode prog_24_method_9_code 15 = .ok (.i2l, 1) := by decide +kernel
theorem own_d_sd_16 : decode prog_24_method_9_code 16 = .ok (.lsub, 1) := by decide +kernel
theorem own_d_sd_17 : decode prog_24_method_9_code 17 = .ok (.lstore 5, 2) := by decide +kernel
theorem own_d_sd_19 : decode prog_24_method_9_code 19 = .ok (.lload_n 3, 1) := by decide +kernel
theorem own_d_sd_20 : decode prog_24_method_9_code 20 = .ok (.lload_n 3, 1) := by decide +kernel
theorem own_d_sd_21 : decode prog_24_method_9_code 21 = .ok (.lmul, 1) := by decide +kernel
theorem own_d_sd_22 : decode prog_24_method_9_code 22 = .ok (.lload 5, 2) := by decide +kernel
theorem own_d_sd_24 : decode prog_24_method_9_code 24 = .ok (.lload 5, 2) := by decide +kernel
theorem own_d_sd_26 : decode prog_24_method_9_code 26 = .ok (.lmul, 1) := by decide +kernel
theorem own_d_sd_27 : decode prog_24_method_9_code 27 = .ok (.ladd, 1) := by decide +kernel
theorem own_d_sd_28 : decode prog_24_method_9_code 28 = .ok (.lreturn, 1) := by decide +kernel
def F_sd (p1 : Int32) (p2 : Int32) (mw : Int32) (mh : Int32) : Int64 := ((((p1.toInt64) - (mw.toInt64)) * ((p1.toInt64) - (mw.toInt64))) + (((p2.toInt64) - (mh.toInt64)) * ((p2.toInt64) - (mh.toInt64))))
theorem own_ef_sd (m : MethodId) (a0 : Addr) (p1 : Int32) (p2 : Int32) : entryFrame m #[(.ref a0), (.int p1), (.int p2)] 7 = mkF m 0 #[.val (.ref a0), .val (.int p1), .val (.int p2), .unset, .unset, .unset, .unset] [] := by first | (simp [entryFrame, mkF, argsToLocals, Value.category]; done) | rfl
def Q_sd (Z : State) (a0 : Addr) (p1 : Int32) (p2 : Int32) (mw : Int32) (mh : Int32) (h0 : Heap) (n0 : Nat) (v : Option Value) (h : Heap) (L : List Loc) : Prop := v = some (.long (F_sd p1 p2 mw mh)) ∧ Fr n0 L ∧ h = h0
set_option maxRecDepth 65536 in
set_option maxHeartbeats 40000000 in
theorem rm_sd (l : Launch) (Z : State) (a0' : Array Value) (hw : ∀ d ∈ tables_1, d.before a0' Z = true) (ws : List Jvm.Cond) (a0 : Addr) (p1 : Int32) (p2 : Int32) (mw : Int32) (mh : Int32) (h0 : Heap) (n0 : Nat) (Z0 : n0 ≤ h0.size) (FW : Fld Z h0 a0 "com/example/entry_to_apps/entrytoapps/GridProfile" "minWidth" "I" (.int mw)) (FH : Fld Z h0 a0 "com/example/entry_to_apps/entrytoapps/GridProfile" "minHeight" "I" (.int mh)) :
    MetFree l (⟨"com/example/entry_to_apps/entrytoapps/GridProfile", "squaredDistance", "(II)J"⟩ : MethodName) (head1 (Jvm.Cond.code (⟨"com/example/entry_to_apps/entrytoapps/GridProfile", "squaredDistance", "(II)J"⟩ : MethodName) prog_24_method_9_code 7 (some .long) :: ws) ({ frames := 0, cells := 0, slots := 0, locals := 0 } : Room)) (fun a U => a = #[(.ref a0), (.int p1), (.int p2)] ∧ Z.Warmed39 U.vm ∧ U.heap = h0) (fun _ _ _ _ _ => True) (fun _ U o U' => ∃ v L, o = .returned v ∧ Q_sd Z a0 p1 p2 mw mh h0 n0 v U'.heap L ∧ FrameEnd U o U' L ({ frames := 0, cells := 0, slots := 0, locals := 0 } : Room).cells ({ frames := 0, cells := 0, slots := 0, locals := 0 } : Room).slots) := by
  refine MetFree.of_bodySF (plainFor_of_name own_pn0) hisR ?_
  intro p e s m args below meth c s₁ Bd hml0 hP hK
  obtain ⟨rfl, hZ, hh⟩ := hP
  have hx := Bd.exec
  have hby := Bd.bytes
  have hml : c.maxLocals = 7 := hml0
  have hown : s.vm.findClass "com/example/entry_to_apps/entrytoapps/GridProfile" = some m.cls := findClass_of_methodNamed Bd.named
  have hnm := (name_of_methodNamed Bd.named Bd.method).1
  have X0 : Stand p l e ({ frames := 0, cells := 0, slots := 0, locals := 0 } : Room) s m #[(.ref a0), (.int p1), (.int p2)] below meth c s₁ [] 0 0 := Stand.of_body Bd
  have e0 : s₁.heap = h0 := by rw [← hh, Bd.state]; rfl
  have N0 := Fr.nil n0
  have pre0 : ∀ t, Steps p.tables e below (s₁.setTop (mkF m 0 #[.val (.ref a0), .val (.int p1), .val (.int p2), .unset, .unset, .unset, .unset] [])) t → Steps p.tables e below (s₁.setTop (entryFrame m #[(.ref a0), (.int p1), (.int p2)] 7)) t := fun t k => castTop (own_ef_sd m a0 p1 p2) k
  obtain ⟨T18, X18, e18, st18⟩ := getF X0 hx hZ hown (host := "") (Or.inl (hw _ (List.mem_of_getElem? (i := 24) rfl))) Via.refl e0 FW (g := (mkF m 3 #[.val (.ref a0), .val (.int p1), .val (.int p2), .unset, .unset, .unset, .unset] [(.ref a0), (.long (p1.toInt64))])) rfl rfl (hb hby own_d_sd_3)
  obtain ⟨T19, X19, e19, st19⟩ := getF X18 hx hZ hown (host := "") (Or.inl (hw _ (List.mem_of_getElem? (i := 26) rfl))) Via.refl e18 FH (g := (mkF m 12 #[.val (.ref a0), .val (.int p1), .val (.int p2), .val (.long ((p1.toInt64) - (mw.toInt64))), .second, .unset, .unset] [(.ref a0), (.long (p2.toInt64))])) rfl rfl (hb hby own_d_sd_12)
  obtain ⟨fs, hr, hrun, hended, hW, hsame⟩ := X19.leave (v := some (.long ((((p1.toInt64) - (mw.toInt64)) * ((p1.toInt64) - (mw.toInt64))) + (((p2.toInt64) - (mh.toInt64)) * ((p2.toInt64) - (mh.toInt64)))))) (fun h => by rw [Bd.returns] at h; cases h)
  refine ⟨_, _, pre0 _ ?_, hrun, hended, _, _, rfl, ?_, ⟨_, rfl⟩, hW, hsame.mono (by decide) (by decide)⟩
  · show Steps p.tables e below (s₁.setTop (mkF m 0 #[.val (.ref a0), .val (.int p1), .val (.int p2), .unset, .unset, .unset, .unset] [])) _
    refine XS.iloadN X0.here hx rfl (hb hby own_d_sd_0) rfl ?_
    show Steps p.tables e below (s₁.setTop (mkF m 1 #[.val (.ref a0), .val (.int p1), .val (.int p2), .unset, .unset, .unset, .unset] [(.int p1)])) _
    refine XS.i2l X0.here hx rfl (hb hby own_d_sd_1) rfl ?_
    show Steps p.tables e below (s₁.setTop (mkF m 2 #[.val (.ref a0), .val (.int p1), .val (.int p2), .unset, .unset, .unset, .unset] [(.long (p1.toInt64))])) _
    refine XS.aloadN X0.here hx rfl (hb hby own_d_sd_2) rfl rfl ?_
    show Steps p.tables e below (s₁.setTop (mkF m 3 #[.val (.ref a0), .val (.int p1), .val (.int p2), .unset, .unset, .unset, .unset] [(.ref a0), (.long (p1.toInt64))])) _
    refine st18 _ ?_
    show Steps p.tables e below (T18.setTop (mkF m 6 #[.val (.ref a0), .val (.int p1), .val (.int p2), .unset, .unset, .unset, .unset] [(.int mw), (.long (p1.toInt64))])) _
    refine XS.i2l X18.here hx rfl (hb hby own_d_sd_6) rfl ?_
    show Steps p.tables e below (T18.setTop (mkF m 7 #[.val (.ref a0), .val (.int p1), .val (.int p2), .unset, .unset, .unset, .unset] [(.long (mw.toInt64)), (.long (p1.toInt64))])) _
    refine XS.lsub X18.here hx rfl (hb hby own_d_sd_7) rfl ?_
    show Steps p.tables e below (T18.setTop (mkF m 8 #[.val (.ref a0), .val (.int p1), .val (.int p2), .unset, .unset, .unset, .unset] [(.long ((p1.toInt64) - (mw.toInt64)))])) _
    refine XS.lstoreN X18.here hx rfl (hb hby own_d_sd_8) rfl (l' := #[.val (.ref a0), .val (.int p1), .val (.int p2), .val (.long ((p1.toInt64) - (mw.toInt64))), .second, .unset, .unset]) rfl ?_
    show Steps p.tables e below (T18.setTop (mkF m 9 #[.val (.ref a0), .val (.int p1), .val (.int p2), .val (.long ((p1.toInt64) - (mw.toInt64))), .second, .unset, .unset] [])) _
    refine XS.iloadN X18.here hx rfl (hb hby own_d_sd_9) rfl ?_
    show Steps p.tables e below (T18.setTop (mkF m 10 #[.val (.ref a0), .val (.int p1), .val (.int p2), .val (.long ((p1.toInt64) - (mw.toInt64))), .second, .unset, .unset] [(.int p2)])) _
    refine XS.i2l X18.here hx rfl (hb hby own_d_sd_10) rfl ?_
    show Steps p.tables e below (T18.setTop (mkF m 11 #[.val (.ref a0), .val (.int p1), .val (.int p2), .val (.long ((p1.toInt64) - (mw.toInt64))), .second, .unset, .unset] [(.long (p2.toInt64))])) _
    refine XS.aloadN X18.here hx rfl (hb hby own_d_sd_11) rfl rfl ?_
    show Steps p.tables e below (T18.setTop (mkF m 12 #[.val (.ref a0), .val (.int p1), .val (.int p2), .val (.long ((p1.toInt64) - (mw.toInt64))), .second, .unset, .unset] [(.ref a0), (.long (p2.toInt64))])) _
    refine st19 _ ?_
    show Steps p.tables e below (T19.setTop (mkF m 15 #[.val (.ref a0), .val (.int p1), .val (.int p2), .val (.long ((p1.toInt64) - (mw.toInt64))), .second, .unset, .unset] [(.int mh), (.long (p2.toInt64))])) _
    refine XS.i2l X19.here hx rfl (hb hby own_d_sd_15) rfl ?_
    show Steps p.tables e below (T19.setTop (mkF m 16 #[.val (.ref a0), .val (.int p1), .val (.int p2), .val (.long ((p1.toInt64) - (mw.toInt64))), .second, .unset, .unset] [(.long (mh.toInt64)), (.long (p2.toInt64))])) _
    refine XS.lsub X19.here hx rfl (hb hby own_d_sd_16) rfl ?_
    show Steps p.tables e below (T19.setTop (mkF m 17 #[.val (.ref a0), .val (.int p1), .val (.int p2), .val (.long ((p1.toInt64) - (mw.toInt64))), .second, .unset, .unset] [(.long ((p2.toInt64) - (mh.toInt64)))])) _
    refine XS.lstore X19.here hx rfl (hb hby own_d_sd_17) rfl (l' := #[.val (.ref a0), .val (.int p1), .val (.int p2), .val (.long ((p1.toInt64) - (mw.toInt64))), .second, .val (.long ((p2.toInt64) - (mh.toInt64))), .second]) rfl ?_
    show Steps p.tables e below (T19.setTop (mkF m 19 #[.val (.ref a0), .val (.int p1), .val (.int p2), .val (.long ((p1.toInt64) - (mw.toInt64))), .second, .val (.long ((p2.toInt64) - (mh.toInt64))), .second] [])) _
    refine XS.lloadN X19.here hx rfl (hb hby own_d_sd_19) rfl ?_
    show Steps p.tables e below (T19.setTop (mkF m 20 #[.val (.ref a0), .val (.int p1), .val (.int p2), .val (.long ((p1.toInt64) - (mw.toInt64))), .second, .val (.long ((p2.toInt64) - (mh.toInt64))), .second] [(.long ((p1.toInt64) - (mw.toInt64)))])) _
    refine XS.lloadN X19.here hx rfl (hb hby own_d_sd_20) rfl ?_
    show Steps p.tables e below (T19.setTop (mkF m 21 #[.val (.ref a0), .val (.int p1), .val (.int p2), .val (.long ((p1.toInt64) - (mw.toInt64))), .second, .val (.long ((p2.toInt64) - (mh.toInt64))), .second] [(.long ((p1.toInt64) - (mw.toInt64))), (.long ((p1.toInt64) - (mw.toInt64)))])) _
    refine XS.lmul X19.here hx rfl (hb hby own_d_sd_21) rfl ?_
    show Steps p.tables e below (T19.setTop (mkF m 22 #[.val (.ref a0), .val (.int p1), .val (.int p2), .val (.long ((p1.toInt64) - (mw.toInt64))), .second, .val (.long ((p2.toInt64) - (mh.toInt64))), .second] [(.long (((p1.toInt64) - (mw.toInt64)) * ((p1.toInt64) - (mw.toInt64))))])) _
    refine XS.lload X19.here hx rfl (hb hby own_d_sd_22) rfl ?_
    show Steps p.tables e below (T19.setTop (mkF m 24 #[.val (.ref a0), .val (.int p1), .val (.int p2), .val (.long ((p1.toInt64) - (mw.toInt64))), .second, .val (.long ((p2.toInt64) - (mh.toInt64))), .second] [(.long ((p2.toInt64) - (mh.toInt64))), (.long (((p1.toInt64) - (mw.toInt64)) * ((p1.toInt64) - (mw.toInt64))))])) _
    refine XS.lload X19.here hx rfl (hb hby own_d_sd_24) rfl ?_
    show Steps p.tables e below (T19.setTop (mkF m 26 #[.val (.ref a0), .val (.int p1), .val (.int p2), .val (.long ((p1.toInt64) - (mw.toInt64))), .second, .val (.long ((p2.toInt64) - (mh.toInt64))), .second] [(.long ((p2.toInt64) - (mh.toInt64))), (.long ((p2.toInt64) - (mh.toInt64))), (.long (((p1.toInt64) - (mw.toInt64)) * ((p1.toInt64) - (mw.toInt64))))])) _
    refine XS.lmul X19.here hx rfl (hb hby own_d_sd_26) rfl ?_
    show Steps p.tables e below (T19.setTop (mkF m 27 #[.val (.ref a0), .val (.int p1), .val (.int p2), .val (.long ((p1.toInt64) - (mw.toInt64))), .second, .val (.long ((p2.toInt64) - (mh.toInt64))), .second] [(.long (((p2.toInt64) - (mh.toInt64)) * ((p2.toInt64) - (mh.toInt64)))), (.long (((p1.toInt64) - (mw.toInt64)) * ((p1.toInt64) - (mw.toInt64))))])) _
    refine XS.ladd X19.here hx rfl (hb hby own_d_sd_27) rfl ?_
    show Steps p.tables e below (T19.setTop (mkF m 28 #[.val (.ref a0), .val (.int p1), .val (.int p2), .val (.long ((p1.toInt64) - (mw.toInt64))), .second, .val (.long ((p2.toInt64) - (mh.toInt64))), .second] [(.long ((((p1.toInt64) - (mw.toInt64)) * ((p1.toInt64) - (mw.toInt64))) + (((p2.toInt64) - (mh.toInt64)) * ((p2.toInt64) - (mh.toInt64)))))])) _
    exact own_retJ X19 hx Bd.returns (hb hby own_d_sd_28) hr
  · show Q_sd Z a0 p1 p2 mw mh h0 n0 _ T19.heap _
    refine ⟨?_, N0, e19⟩
    rw [F_sd]
theorem own_pd0 : parseMethodDescriptor "(Ljava/lang/String;IIIIIZ)V" = some ⟨[(.object "java/lang/String"), .int, .int, .int, .int, .int, .boolean], none⟩ := by decide +kernel
theorem own_pd1 : parseMethodDescriptor "(II)J" = some ⟨[.int, .int], some .long⟩ := by decide +kernel
def F_law (p0 : Int32) (p1 : Int32) (p2 : Int32) (p3 : Int32) (p5 : Int32) : Int32 := (if (p5 &&& (1 : Int32)) = (0 : Int32) then (if (lcmpW (F_sd (p2 &&& (2147483647 : Int32)) (p3 &&& (2147483647 : Int32)) (p0 &&& (2147483647 : Int32)) (p1 &&& (2147483647 : Int32))) ((F_sq (p2 &&& (2147483647 : Int32)) (p0 &&& (2147483647 : Int32))) + (F_sq (p3 &&& (2147483647 : Int32)) (p1 &&& (2147483647 : Int32))))) = (0 : Int32) then (1 : Int32) else (0 : Int32)) else (if (lcmpW (F_sd (p2 &&& (2147483647 : Int32)) (p3 &&& (2147483647 : Int32)) (p0 &&& (2147483647 : Int32)) (p1 &&& (2147483647 : Int32))) ((F_sq (p2 &&& (2147483647 : Int32)) (p0 &&& (2147483647 : Int32))) + (F_sq (p3 &&& (2147483647 : Int32)) (p1 &&& (2147483647 : Int32))))) = (0 : Int32) then (1 : Int32) else (0 : Int32)))
theorem own_ef_law (m : MethodId) (p0 : Int32) (p1 : Int32) (p2 : Int32) (p3 : Int32) (p4 : Int32) (p5 : Int32) : entryFrame m #[(.int p0), (.int p1), (.int p2), (.int p3), (.int p4), (.int p5)] maxLocals = mkF m 0 #[.val (.int p0), .val (.int p1), .val (.int p2), .val (.int p3), .val (.int p4), .val (.int p5), .unset, .unset, .unset, .unset, .unset, .unset, .unset, .unset] [] := by first | (simp [entryFrame, mkF, argsToLocals, Value.category, maxLocals]; done) | rfl
def Q_law (Z : State) (p0 : Int32) (p1 : Int32) (p2 : Int32) (p3 : Int32) (p4 : Int32) (p5 : Int32) (h0 : Heap) (n0 : Nat) (v : Option Value) (h : Heap) (L : List Loc) : Prop := v = some (.int (F_law p0 p1 p2 p3 p5)) ∧ Fr n0 L ∧ True
set_option maxRecDepth 65536 in
set_option maxHeartbeats 40000000 in
theorem rm_law (l : Launch) (Z : State) (a0' : Array Value) (hw : ∀ d ∈ tables_1, d.before a0' Z = true) (ws : List Jvm.Cond) (p0 : Int32) (p1 : Int32) (p2 : Int32) (p3 : Int32) (p4 : Int32) (p5 : Int32) (h0 : Heap) (n0 : Nat) (Z0 : n0 ≤ h0.size) :
    MetFree l x (head1 (Jvm.Cond.code x code maxLocals ret :: ws) room_1) (fun a U => a = #[(.int p0), (.int p1), (.int p2), (.int p3), (.int p4), (.int p5)] ∧ Z.Warmed39 U.vm ∧ U.heap = h0 ∧ U = Z) (fun _ _ _ _ _ => True) (fun _ U o U' => ∃ v L, o = .returned v ∧ Q_law Z p0 p1 p2 p3 p4 p5 h0 n0 v U'.heap L ∧ ReturnedEndW U o U' L room_1.cells room_1.slots) := by
  refine MetFree.of_bodySF (plainFor_of_name own_pn1) hisR ?_
  intro p e s m args below meth c s₁ Bd hml0 hP hK
  obtain ⟨rfl, hZ, hh, hUZ⟩ := hP
  have hx := Bd.exec
  have hby := Bd.bytes
  have hml : c.maxLocals = 14 := hml0
  have hown : s.vm.findClass "com/example/entry_to_apps/entrytoapps/GridProfileSquaredDistancePinLaw" = some m.cls := findClass_of_methodNamed Bd.named
  have hnm := (name_of_methodNamed Bd.named Bd.method).1
  have X0 : Stand p l e room_1 s m #[(.int p0), (.int p1), (.int p2), (.int p3), (.int p4), (.int p5)] below meth c s₁ [] 0 0 := Stand.of_body Bd
  have e0 : s₁.heap = h0 := by rw [← hh, Bd.state]; rfl
  have N0 := Fr.nil n0
  have pre0 : ∀ t, Steps p.tables e below (s₁.setTop (mkF m 0 #[.val (.int p0), .val (.int p1), .val (.int p2), .val (.int p3), .val (.int p4), .val (.int p5), .unset, .unset, .unset, .unset, .unset, .unset, .unset, .unset] [])) t → Steps p.tables e below (s₁.setTop (entryFrame m #[(.int p0), (.int p1), (.int p2), (.int p3), (.int p4), (.int p5)] maxLocals)) t := fun t k => castTop (own_ef_law m p0 p1 p2 p3 p4 p5) k
  have pre21 : ∀ t, Steps p.tables e below (s₁.setTop (mkF m 28 #[.val (.int p0), .val (.int p1), .val (.int p2), .val (.int p3), .val (.int p4), .val (.int p5), .val (.int (p0 &&& (2147483647 : Int32))), .val (.int (p1 &&& (2147483647 : Int32))), .val (.int (p2 &&& (2147483647 : Int32))), .val (.int (p3 &&& (2147483647 : Int32))), .unset, .unset, .unset, .unset] [(.int (p5 &&& (1 : Int32)))])) t → Steps p.tables e below (s₁.setTop (entryFrame m #[(.int p0), (.int p1), (.int p2), (.int p3), (.int p4), (.int p5)] maxLocals)) t := fun t k => pre0 t (by
    show Steps p.tables e below (s₁.setTop (mkF m 0 #[.val (.int p0), .val (.int p1), .val (.int p2), .val (.int p3), .val (.int p4), .val (.int p5), .unset, .unset, .unset, .unset, .unset, .unset, .unset, .unset] [])) _
    refine XS.iloadN X0.here hx rfl (hb hby at_0) rfl ?_
    show Steps p.tables e below (s₁.setTop (mkF m 1 #[.val (.int p0), .val (.int p1), .val (.int p2), .val (.int p3), .val (.int p4), .val (.int p5), .unset, .unset, .unset, .unset, .unset, .unset, .unset, .unset] [(.int p0)])) _
    refine X0.ldcInt hx hown (mvT hZ (hw _ (List.mem_of_getElem? (i := 0) rfl))) (g := (mkF m 1 #[.val (.int p0), .val (.int p1), .val (.int p2), .val (.int p3), .val (.int p4), .val (.int p5), .unset, .unset, .unset, .unset, .unset, .unset, .unset, .unset] [(.int p0)])) rfl (hb hby at_1) _ ?_
    show Steps p.tables e below (s₁.setTop (mkF m 3 #[.val (.int p0), .val (.int p1), .val (.int p2), .val (.int p3), .val (.int p4), .val (.int p5), .unset, .unset, .unset, .unset, .unset, .unset, .unset, .unset] [(.int (2147483647 : Int32)), (.int p0)])) _
    refine XS.iand X0.here hx rfl (hb hby at_3) rfl ?_
    show Steps p.tables e below (s₁.setTop (mkF m 4 #[.val (.int p0), .val (.int p1), .val (.int p2), .val (.int p3), .val (.int p4), .val (.int p5), .unset, .unset, .unset, .unset, .unset, .unset, .unset, .unset] [(.int (p0 &&& (2147483647 : Int32)))])) _
    refine XS.istore X0.here hx rfl (hb hby at_4) rfl (l' := #[.val (.int p0), .val (.int p1), .val (.int p2), .val (.int p3), .val (.int p4), .val (.int p5), .val (.int (p0 &&& (2147483647 : Int32))), .unset, .unset, .unset, .unset, .unset, .unset, .unset]) rfl ?_
    show Steps p.tables e below (s₁.setTop (mkF m 6 #[.val (.int p0), .val (.int p1), .val (.int p2), .val (.int p3), .val (.int p4), .val (.int p5), .val (.int (p0 &&& (2147483647 : Int32))), .unset, .unset, .unset, .unset, .unset, .unset, .unset] [])) _
    refine XS.iloadN X0.here hx rfl (hb hby at_6) rfl ?_
    show Steps p.tables e below (s₁.setTop (mkF m 7 #[.val (.int p0), .val (.int p1), .val (.int p2), .val (.int p3), .val (.int p4), .val (.int p5), .val (.int (p0 &&& (2147483647 : Int32))), .unset, .unset, .unset, .unset, .unset, .unset, .unset] [(.int p1)])) _
    refine X0.ldcInt hx hown (mvT hZ (hw _ (List.mem_of_getElem? (i := 0) rfl))) (g := (mkF m 7 #[.val (.int p0), .val (.int p1), .val (.int p2), .val (.int p3), .val (.int p4), .val (.int p5), .val (.int (p0 &&& (2147483647 : Int32))), .unset, .unset, .unset, .unset, .unset, .unset, .unset] [(.int p1)])) rfl (hb hby at_7) _ ?_
    show Steps p.tables e below (s₁.setTop (mkF m 9 #[.val (.int p0), .val (.int p1), .val (.int p2), .val (.int p3), .val (.int p4), .val (.int p5), .val (.int (p0 &&& (2147483647 : Int32))), .unset, .unset, .unset, .unset, .unset, .unset, .unset] [(.int (2147483647 : Int32)), (.int p1)])) _
    refine XS.iand X0.here hx rfl (hb hby at_9) rfl ?_
    show Steps p.tables e below (s₁.setTop (mkF m 10 #[.val (.int p0), .val (.int p1), .val (.int p2), .val (.int p3), .val (.int p4), .val (.int p5), .val (.int (p0 &&& (2147483647 : Int32))), .unset, .unset, .unset, .unset, .unset, .unset, .unset] [(.int (p1 &&& (2147483647 : Int32)))])) _
    refine XS.istore X0.here hx rfl (hb hby at_10) rfl (l' := #[.val (.int p0), .val (.int p1), .val (.int p2), .val (.int p3), .val (.int p4), .val (.int p5), .val (.int (p0 &&& (2147483647 : Int32))), .val (.int (p1 &&& (2147483647 : Int32))), .unset, .unset, .unset, .unset, .unset, .unset]) rfl ?_
    show Steps p.tables e below (s₁.setTop (mkF m 12 #[.val (.int p0), .val (.int p1), .val (.int p2), .val (.int p3), .val (.int p4), .val (.int p5), .val (.int (p0 &&& (2147483647 : Int32))), .val (.int (p1 &&& (2147483647 : Int32))), .unset, .unset, .unset, .unset, .unset, .unset] [])) _
    refine XS.iloadN X0.here hx rfl (hb hby at_12) rfl ?_
    show Steps p.tables e below (s₁.setTop (mkF m 13 #[.val (.int p0), .val (.int p1), .val (.int p2), .val (.int p3), .val (.int p4), .val (.int p5), .val (.int (p0 &&& (2147483647 : Int32))), .val (.int (p1 &&& (2147483647 : Int32))), .unset, .unset, .unset, .unset, .unset, .unset] [(.int p2)])) _
    refine X0.ldcInt hx hown (mvT hZ (hw _ (List.mem_of_getElem? (i := 0) rfl))) (g := (mkF m 13 #[.val (.int p0), .val (.int p1), .val (.int p2), .val (.int p3), .val (.int p4), .val (.int p5), .val (.int (p0 &&& (2147483647 : Int32))), .val (.int (p1 &&& (2147483647 : Int32))), .unset, .unset, .unset, .unset, .unset, .unset] [(.int p2)])) rfl (hb hby at_13) _ ?_
    show Steps p.tables e below (s₁.setTop (mkF m 15 #[.val (.int p0), .val (.int p1), .val (.int p2), .val (.int p3), .val (.int p4), .val (.int p5), .val (.int (p0 &&& (2147483647 : Int32))), .val (.int (p1 &&& (2147483647 : Int32))), .unset, .unset, .unset, .unset, .unset, .unset] [(.int (2147483647 : Int32)), (.int p2)])) _
    refine XS.iand X0.here hx rfl (hb hby at_15) rfl ?_
    show Steps p.tables e below (s₁.setTop (mkF m 16 #[.val (.int p0), .val (.int p1), .val (.int p2), .val (.int p3), .val (.int p4), .val (.int p5), .val (.int (p0 &&& (2147483647 : Int32))), .val (.int (p1 &&& (2147483647 : Int32))), .unset, .unset, .unset, .unset, .unset, .unset] [(.int (p2 &&& (2147483647 : Int32)))])) _
    refine XS.istore X0.here hx rfl (hb hby at_16) rfl (l' := #[.val (.int p0), .val (.int p1), .val (.int p2), .val (.int p3), .val (.int p4), .val (.int p5), .val (.int (p0 &&& (2147483647 : Int32))), .val (.int (p1 &&& (2147483647 : Int32))), .val (.int (p2 &&& (2147483647 : Int32))), .unset, .unset, .unset, .unset, .unset]) rfl ?_
    show Steps p.tables e below (s₁.setTop (mkF m 18 #[.val (.int p0), .val (.int p1), .val (.int p2), .val (.int p3), .val (.int p4), .val (.int p5), .val (.int (p0 &&& (2147483647 : Int32))), .val (.int (p1 &&& (2147483647 : Int32))), .val (.int (p2 &&& (2147483647 : Int32))), .unset, .unset, .unset, .unset, .unset] [])) _
    refine XS.iloadN X0.here hx rfl (hb hby at_18) rfl ?_
    show Steps p.tables e below (s₁.setTop (mkF m 19 #[.val (.int p0), .val (.int p1), .val (.int p2), .val (.int p3), .val (.int p4), .val (.int p5), .val (.int (p0 &&& (2147483647 : Int32))), .val (.int (p1 &&& (2147483647 : Int32))), .val (.int (p2 &&& (2147483647 : Int32))), .unset, .unset, .unset, .unset, .unset] [(.int p3)])) _
    refine X0.ldcInt hx hown (mvT hZ (hw _ (List.mem_of_getElem? (i := 0) rfl))) (g := (mkF m 19 #[.val (.int p0), .val (.int p1), .val (.int p2), .val (.int p3), .val (.int p4), .val (.int p5), .val (.int (p0 &&& (2147483647 : Int32))), .val (.int (p1 &&& (2147483647 : Int32))), .val (.int (p2 &&& (2147483647 : Int32))), .unset, .unset, .unset, .unset, .unset] [(.int p3)])) rfl (hb hby at_19) _ ?_
    show Steps p.tables e below (s₁.setTop (mkF m 21 #[.val (.int p0), .val (.int p1), .val (.int p2), .val (.int p3), .val (.int p4), .val (.int p5), .val (.int (p0 &&& (2147483647 : Int32))), .val (.int (p1 &&& (2147483647 : Int32))), .val (.int (p2 &&& (2147483647 : Int32))), .unset, .unset, .unset, .unset, .unset] [(.int (2147483647 : Int32)), (.int p3)])) _
    refine XS.iand X0.here hx rfl (hb hby at_21) rfl ?_
    show Steps p.tables e below (s₁.setTop (mkF m 22 #[.val (.int p0), .val (.int p1), .val (.int p2), .val (.int p3), .val (.int p4), .val (.int p5), .val (.int (p0 &&& (2147483647 : Int32))), .val (.int (p1 &&& (2147483647 : Int32))), .val (.int (p2 &&& (2147483647 : Int32))), .unset, .unset, .unset, .unset, .unset] [(.int (p3 &&& (2147483647 : Int32)))])) _
    refine XS.istore X0.here hx rfl (hb hby at_22) rfl (l' := #[.val (.int p0), .val (.int p1), .val (.int p2), .val (.int p3), .val (.int p4), .val (.int p5), .val (.int (p0 &&& (2147483647 : Int32))), .val (.int (p1 &&& (2147483647 : Int32))), .val (.int (p2 &&& (2147483647 : Int32))), .val (.int (p3 &&& (2147483647 : Int32))), .unset, .unset, .unset, .unset]) rfl ?_
    show Steps p.tables e below (s₁.setTop (mkF m 24 #[.val (.int p0), .val (.int p1), .val (.int p2), .val (.int p3), .val (.int p4), .val (.int p5), .val (.int (p0 &&& (2147483647 : Int32))), .val (.int (p1 &&& (2147483647 : Int32))), .val (.int (p2 &&& (2147483647 : Int32))), .val (.int (p3 &&& (2147483647 : Int32))), .unset, .unset, .unset, .unset] [])) _
    refine XS.iload X0.here hx rfl (hb hby at_24) rfl ?_
    show Steps p.tables e below (s₁.setTop (mkF m 26 #[.val (.int p0), .val (.int p1), .val (.int p2), .val (.int p3), .val (.int p4), .val (.int p5), .val (.int (p0 &&& (2147483647 : Int32))), .val (.int (p1 &&& (2147483647 : Int32))), .val (.int (p2 &&& (2147483647 : Int32))), .val (.int (p3 &&& (2147483647 : Int32))), .unset, .unset, .unset, .unset] [(.int p5)])) _
    refine XS.iconst X0.here hx rfl (hb hby at_26) ?_
    show Steps p.tables e below (s₁.setTop (mkF m 27 #[.val (.int p0), .val (.int p1), .val (.int p2), .val (.int p3), .val (.int p4), .val (.int p5), .val (.int (p0 &&& (2147483647 : Int32))), .val (.int (p1 &&& (2147483647 : Int32))), .val (.int (p2 &&& (2147483647 : Int32))), .val (.int (p3 &&& (2147483647 : Int32))), .unset, .unset, .unset, .unset] [(.int (1 : Int32)), (.int p5)])) _
    refine XS.iand X0.here hx rfl (hb hby at_27) rfl ?_
    exact k)
  by_cases hc28_20 : (p5 &&& (1 : Int32)) = (0 : Int32)
  · obtain ⟨T22, h22, X22, e22, E22, A22, D22, -, st22⟩ := newO X0 hx hZ hown (hw _ (List.mem_of_getElem? (i := 1) rfl)) (hw _ (List.mem_of_getElem? (i := 2) rfl)) (hw _ (List.mem_of_getElem? (i := 3) rfl)) e0 (g := (mkF m 38 #[.val (.int p0), .val (.int p1), .val (.int p2), .val (.int p3), .val (.int p4), .val (.int p5), .val (.int (p0 &&& (2147483647 : Int32))), .val (.int (p1 &&& (2147483647 : Int32))), .val (.int (p2 &&& (2147483647 : Int32))), .val (.int (p3 &&& (2147483647 : Int32))), .val (.int (0 : Int32)), .unset, .unset, .unset] [])) rfl (hb hby at_38) (by decide) (by decide)
    obtain ⟨b22, g22⟩ : ∃ z, z = h0.size := ⟨_, rfl⟩
    rw [← g22] at A22 D22 st22
    have EX22 : Ext h0 h22 := E22
    have g_b22 : n0 ≤ b22 := Nat.le_trans Z0 (Nat.le_of_eq g22.symm)
    have sz_b22 : h0.size ≤ b22 := Nat.le_of_eq g22.symm
    have Z22 : n0 ≤ h22.size := Nat.le_trans Z0 EX22.1
    have wS23 : ∀ a ∈ Bundle.stringAtoms, a.before a0' Z = true := own_strAtoms (hw _ (List.mem_of_getElem? (i := 5) rfl)) (hw _ (List.mem_of_getElem? (i := 6) rfl)) (hw _ (List.mem_of_getElem? (i := 7) rfl)) (hw _ (List.mem_of_getElem? (i := 8) rfl)) (hw _ (List.mem_of_getElem? (i := 9) rfl)) (hw _ (List.mem_of_getElem? (i := 10) rfl)) (hw _ (List.mem_of_getElem? (i := 11) rfl))
    obtain ⟨s24, T24, h24, k24, X24, e24, E24, hS24, hk24, hZ, hown, st24⟩ := ldcS (s := s) (vm0 := s.vm) X22 hx hZ hown (hw _ (List.mem_of_getElem? (i := 4) rfl)) wS23 e22 (k0 := 0) ((State.WarmedH.refl s).since 0) (Nat.zero_le _) (g := (mkF m 42 #[.val (.int p0), .val (.int p1), .val (.int p2), .val (.int p3), .val (.int p4), .val (.int p5), .val (.int (p0 &&& (2147483647 : Int32))), .val (.int (p1 &&& (2147483647 : Int32))), .val (.int (p2 &&& (2147483647 : Int32))), .val (.int (p3 &&& (2147483647 : Int32))), .val (.int (0 : Int32)), .unset, .unset, .unset] [(.ref b22), (.ref b22)])) rfl (hb hby at_42) (n := 4) (by decide) (by decide) (by decide) (by decide)
    have EX24 : Ext h0 h24 := own_exttr EX22 E24
    have Z24 : n0 ≤ h24.size := Nat.le_trans Z0 EX24.1
    obtain ⟨_, _, ⟨T25, L25, k25, n25⟩, -, X25, ⟨Lc25, hQ25, l25, y25, z25⟩, st25⟩ := X24.specialBack hx (y := (⟨"com/example/entry_to_apps/entrytoapps/GridProfile", "<init>", "(Ljava/lang/String;IIIIIZ)V"⟩ : MethodName)) rfl hown (mvT hZ (hw _ (List.mem_of_getElem? (i := 12) rfl))) (mvT hZ (hw _ (List.mem_of_getElem? (i := 13) rfl))) (mvT hZ (hw _ (List.mem_of_getElem? (i := 14) rfl))) (by decide) (backOf (W := 1) (rm_ini l Z a0' hw [] b22 s24 p4 p5 (p0 &&& (2147483647 : Int32)) (p1 &&& (2147483647 : Int32)) p4 (0 : Int32) h24 n0 Z24 (A22.ext E24) ((D22 (Or.inr (hw _ (List.mem_of_getElem? (i := 21) rfl))) (ty := .int) (by decide)).ext E24) g_b22) hZ (hw _ (List.mem_of_getElem? (i := 14) rfl)) (hw _ (List.mem_of_getElem? (i := 3) rfl)) (by decide) (by decide)) (g := (mkF m 56 #[.val (.int p0), .val (.int p1), .val (.int p2), .val (.int p3), .val (.int p4), .val (.int p5), .val (.int (p0 &&& (2147483647 : Int32))), .val (.int (p1 &&& (2147483647 : Int32))), .val (.int (p2 &&& (2147483647 : Int32))), .val (.int (p3 &&& (2147483647 : Int32))), .val (.int (0 : Int32)), .unset, .unset, .unset] [(.int (0 : Int32)), (.int p4), (.int (p1 &&& (2147483647 : Int32))), (.int (p0 &&& (2147483647 : Int32))), (.int p5), (.int p4), (.ref s24), (.ref b22), (.ref b22)])) rfl (by rw [hml]; rfl) (Steps.refl _) (a := b22) (argsL := [(.ref s24), (.int p4), (.int p5), (.int (p0 &&& (2147483647 : Int32))), (.int (p1 &&& (2147483647 : Int32))), (.int p4), (.int (0 : Int32))]) (rest := [(.ref b22)]) (lenOf own_pd0 rfl) rfl (by show 2 * 0 + _ ≤ _; exact Nat.le_of_eq rfl) (hb hby at_56) (fun _ _ => ⟨rfl, e24, (by decide : 3 + 0 ≤ _), (by decide : 15 + 0 ≤ _)⟩)
    dsimp only [Pt.U, Pt.locs, Pt.cells, Pt.slots] at X25 l25 y25 z25 st25 hQ25
    subst l25 y25 z25
    obtain ⟨rfl, N25q, K25, Ex25, FminWidth_25, FminHeight_25⟩ := hQ25
    have N25 := Fr.app N0 N25q
    have EX25 : Ext h0 T25.heap := own_extkeep EX24 K25 sz_b22
    have Z25 : n0 ≤ T25.heap.size := Nat.le_trans Z0 EX25.1
    have hk25 := Nat.le_trans hk24 K25.1
    obtain ⟨_, _, ⟨T26, L26, k26, n26⟩, -, X26, ⟨Lc26, hQ26, l26, y26, z26⟩, st26⟩ := Jvm.LawKit.callS X25 hx (y := (⟨"com/example/entry_to_apps/entrytoapps/GridProfileSquaredDistancePinLaw", "sq", "(II)J"⟩ : MethodName)) hown (mvT hZ (hw _ (List.mem_of_getElem? (i := 32) rfl))) (mvT hZ (hw _ (List.mem_of_getElem? (i := 33) rfl))) (mvT hZ (hw _ (List.mem_of_getElem? (i := 34) rfl))) (mvT hZ (hw _ (List.mem_of_getElem? (i := 35) rfl))) (by decide) (backOf (W := 0) (rm_sq l Z a0' hw [] (p2 &&& (2147483647 : Int32)) (p0 &&& (2147483647 : Int32)) T25.heap n0 Z25) hZ (hw _ (List.mem_of_getElem? (i := 35) rfl)) (hw _ (List.mem_of_getElem? (i := 34) rfl)) (by decide) (by decide)) (g := (mkF m 65 #[.val (.int p0), .val (.int p1), .val (.int p2), .val (.int p3), .val (.int p4), .val (.int p5), .val (.int (p0 &&& (2147483647 : Int32))), .val (.int (p1 &&& (2147483647 : Int32))), .val (.int (p2 &&& (2147483647 : Int32))), .val (.int (p3 &&& (2147483647 : Int32))), .val (.int (0 : Int32)), .val (.ref b22), .unset, .unset] [(.int (p0 &&& (2147483647 : Int32))), (.int (p2 &&& (2147483647 : Int32)))])) rfl (by rw [hml]; rfl) (argsL := [(.int (p2 &&& (2147483647 : Int32))), (.int (p0 &&& (2147483647 : Int32)))]) (rest := []) (lenOf own_pd1 rfl) rfl (by show 2 * 0 + _ ≤ _; exact Nat.le_of_eq rfl) (hb hby at_65) (fun _ _ => ⟨rfl, rfl, (by decide : 3 + 0 ≤ _), (by decide : 15 + 0 ≤ _)⟩)
    dsimp only [Pt.U, Pt.locs, Pt.cells, Pt.slots] at X26 l26 y26 z26 st26 hQ26
    subst l26 y26 z26
    obtain ⟨rfl, N26q, e26⟩ := hQ26
    have N26 := Fr.app N25 N26q
    obtain ⟨_, _, ⟨T27, L27, k27, n27⟩, -, X27, ⟨Lc27, hQ27, l27, y27, z27⟩, st27⟩ := Jvm.LawKit.callS X26 hx (y := (⟨"com/example/entry_to_apps/entrytoapps/GridProfileSquaredDistancePinLaw", "sq", "(II)J"⟩ : MethodName)) hown (mvT hZ (hw _ (List.mem_of_getElem? (i := 32) rfl))) (mvT hZ (hw _ (List.mem_of_getElem? (i := 33) rfl))) (mvT hZ (hw _ (List.mem_of_getElem? (i := 34) rfl))) (mvT hZ (hw _ (List.mem_of_getElem? (i := 35) rfl))) (by decide) (backOf (W := 2) (rm_sq l Z a0' hw [] (p3 &&& (2147483647 : Int32)) (p1 &&& (2147483647 : Int32)) T25.heap n0 Z25) hZ (hw _ (List.mem_of_getElem? (i := 35) rfl)) (hw _ (List.mem_of_getElem? (i := 34) rfl)) (by decide) (by decide)) (g := (mkF m 72 #[.val (.int p0), .val (.int p1), .val (.int p2), .val (.int p3), .val (.int p4), .val (.int p5), .val (.int (p0 &&& (2147483647 : Int32))), .val (.int (p1 &&& (2147483647 : Int32))), .val (.int (p2 &&& (2147483647 : Int32))), .val (.int (p3 &&& (2147483647 : Int32))), .val (.int (0 : Int32)), .val (.ref b22), .unset, .unset] [(.int (p1 &&& (2147483647 : Int32))), (.int (p3 &&& (2147483647 : Int32))), (.long (F_sq (p2 &&& (2147483647 : Int32)) (p0 &&& (2147483647 : Int32))))])) rfl (by rw [hml]; rfl) (argsL := [(.int (p3 &&& (2147483647 : Int32))), (.int (p1 &&& (2147483647 : Int32)))]) (rest := [(.long (F_sq (p2 &&& (2147483647 : Int32)) (p0 &&& (2147483647 : Int32))))]) (lenOf own_pd1 rfl) rfl (by show 2 * 0 + _ ≤ _; exact Nat.le_of_eq rfl) (hb hby at_72) (fun _ _ => ⟨rfl, e26, (by decide : 3 + 0 ≤ _), (by decide : 15 + 0 ≤ _)⟩)
    dsimp only [Pt.U, Pt.locs, Pt.cells, Pt.slots] at X27 l27 y27 z27 st27 hQ27
    subst l27 y27 z27
    obtain ⟨rfl, N27q, e27⟩ := hQ27
    have N27 := Fr.app N26 N27q
    obtain ⟨cq28, kq28, q28a, q28b, q28c⟩ := isOf hZ e27 Ex25
    obtain ⟨_, _, ⟨T28, L28, k28, n28⟩, -, X28, ⟨Lc28, hQ28, l28, y28, z28⟩, st28⟩ := X27.virtualBack hx (y := (⟨"com/example/entry_to_apps/entrytoapps/GridProfile", "squaredDistance", "(II)J"⟩ : MethodName)) (z := (⟨"com/example/entry_to_apps/entrytoapps/GridProfile", "squaredDistance", "(II)J"⟩ : MethodName)) hown (mvT hZ (hw _ (List.mem_of_getElem? (i := 36) rfl))) (mvT hZ (hw _ (List.mem_of_getElem? (i := 37) rfl))) (notFace_of_selects (args := #[]) (mvT hZ (hw _ (List.mem_of_getElem? (i := 39) rfl)))) (mvT hZ (hw _ (List.mem_of_getElem? (i := 39) rfl))) (mvT hZ (hw _ (List.mem_of_getElem? (i := 38) rfl))) (by decide) (backOf (W := 0) (rm_sd l Z a0' hw [] b22 (p2 &&& (2147483647 : Int32)) (p3 &&& (2147483647 : Int32)) (p0 &&& (2147483647 : Int32)) (p1 &&& (2147483647 : Int32)) T25.heap n0 Z25 FminWidth_25 FminHeight_25) hZ (hw _ (List.mem_of_getElem? (i := 40) rfl)) (hw _ (List.mem_of_getElem? (i := 3) rfl)) (by decide) (by decide)) q28a q28c (g := (mkF m 84 #[.val (.int p0), .val (.int p1), .val (.int p2), .val (.int p3), .val (.int p4), .val (.int p5), .val (.int (p0 &&& (2147483647 : Int32))), .val (.int (p1 &&& (2147483647 : Int32))), .val (.int (p2 &&& (2147483647 : Int32))), .val (.int (p3 &&& (2147483647 : Int32))), .val (.int (0 : Int32)), .val (.ref b22), .val (.long ((F_sq (p2 &&& (2147483647 : Int32)) (p0 &&& (2147483647 : Int32))) + (F_sq (p3 &&& (2147483647 : Int32)) (p1 &&& (2147483647 : Int32))))), .second] [(.int (p3 &&& (2147483647 : Int32))), (.int (p2 &&& (2147483647 : Int32))), (.ref b22)])) rfl (by rw [hml]; rfl) (Steps.refl _) (argsL := [(.int (p2 &&& (2147483647 : Int32))), (.int (p3 &&& (2147483647 : Int32)))]) (rest := []) (lenOf own_pd1 rfl) rfl (by show 2 * 0 + _ ≤ _; exact Nat.le_of_eq rfl) (hb hby at_84) (fun _ _ => ⟨rfl, e27, (by decide : 3 + 0 ≤ _), (by decide : 15 + 0 ≤ _)⟩)
    dsimp only [Pt.U, Pt.locs, Pt.cells, Pt.slots] at X28 l28 y28 z28 st28 hQ28
    subst l28 y28 z28
    obtain ⟨rfl, N28q, e28⟩ := hQ28
    have N28 := Fr.app N27 N28q
    have pre30 : ∀ t, Steps p.tables e below (T28.setTop (mkF m 90 #[.val (.int p0), .val (.int p1), .val (.int p2), .val (.int p3), .val (.int p4), .val (.int p5), .val (.int (p0 &&& (2147483647 : Int32))), .val (.int (p1 &&& (2147483647 : Int32))), .val (.int (p2 &&& (2147483647 : Int32))), .val (.int (p3 &&& (2147483647 : Int32))), .val (.int (0 : Int32)), .val (.ref b22), .val (.long ((F_sq (p2 &&& (2147483647 : Int32)) (p0 &&& (2147483647 : Int32))) + (F_sq (p3 &&& (2147483647 : Int32)) (p1 &&& (2147483647 : Int32))))), .second] [(.int (lcmpW (F_sd (p2 &&& (2147483647 : Int32)) (p3 &&& (2147483647 : Int32)) (p0 &&& (2147483647 : Int32)) (p1 &&& (2147483647 : Int32))) ((F_sq (p2 &&& (2147483647 : Int32)) (p0 &&& (2147483647 : Int32))) + (F_sq (p3 &&& (2147483647 : Int32)) (p1 &&& (2147483647 : Int32))))))])) t → Steps p.tables e below (s₁.setTop (entryFrame m #[(.int p0), (.int p1), (.int p2), (.int p3), (.int p4), (.int p5)] maxLocals)) t := fun t k => pre21 t (by
      show Steps p.tables e below (s₁.setTop (mkF m 28 #[.val (.int p0), .val (.int p1), .val (.int p2), .val (.int p3), .val (.int p4), .val (.int p5), .val (.int (p0 &&& (2147483647 : Int32))), .val (.int (p1 &&& (2147483647 : Int32))), .val (.int (p2 &&& (2147483647 : Int32))), .val (.int (p3 &&& (2147483647 : Int32))), .unset, .unset, .unset, .unset] [(.int (p5 &&& (1 : Int32)))])) _
      refine XS.ifYes X0.here hx rfl (pc0 := 28) (pc' := 35) rfl (hb hby at_28) rfl ((if0 _ _).trans (teq hc28_20).1) (by decide) (by decide) ?_
      show Steps p.tables e below (s₁.setTop (mkF m 35 #[.val (.int p0), .val (.int p1), .val (.int p2), .val (.int p3), .val (.int p4), .val (.int p5), .val (.int (p0 &&& (2147483647 : Int32))), .val (.int (p1 &&& (2147483647 : Int32))), .val (.int (p2 &&& (2147483647 : Int32))), .val (.int (p3 &&& (2147483647 : Int32))), .unset, .unset, .unset, .unset] [])) _
      refine XS.iconst X0.here hx rfl (hb hby at_35) ?_
      show Steps p.tables e below (s₁.setTop (mkF m 36 #[.val (.int p0), .val (.int p1), .val (.int p2), .val (.int p3), .val (.int p4), .val (.int p5), .val (.int (p0 &&& (2147483647 : Int32))), .val (.int (p1 &&& (2147483647 : Int32))), .val (.int (p2 &&& (2147483647 : Int32))), .val (.int (p3 &&& (2147483647 : Int32))), .unset, .unset, .unset, .unset] [(.int (0 : Int32))])) _
      refine XS.istore X0.here hx rfl (hb hby at_36) rfl (l' := #[.val (.int p0), .val (.int p1), .val (.int p2), .val (.int p3), .val (.int p4), .val (.int p5), .val (.int (p0 &&& (2147483647 : Int32))), .val (.int (p1 &&& (2147483647 : Int32))), .val (.int (p2 &&& (2147483647 : Int32))), .val (.int (p3 &&& (2147483647 : Int32))), .val (.int (0 : Int32)), .unset, .unset, .unset]) rfl ?_
      show Steps p.tables e below (s₁.setTop (mkF m 38 #[.val (.int p0), .val (.int p1), .val (.int p2), .val (.int p3), .val (.int p4), .val (.int p5), .val (.int (p0 &&& (2147483647 : Int32))), .val (.int (p1 &&& (2147483647 : Int32))), .val (.int (p2 &&& (2147483647 : Int32))), .val (.int (p3 &&& (2147483647 : Int32))), .val (.int (0 : Int32)), .unset, .unset, .unset] [])) _
      refine st22 _ ?_
      show Steps p.tables e below (T22.setTop (mkF m 41 #[.val (.int p0), .val (.int p1), .val (.int p2), .val (.int p3), .val (.int p4), .val (.int p5), .val (.int (p0 &&& (2147483647 : Int32))), .val (.int (p1 &&& (2147483647 : Int32))), .val (.int (p2 &&& (2147483647 : Int32))), .val (.int (p3 &&& (2147483647 : Int32))), .val (.int (0 : Int32)), .unset, .unset, .unset] [(.ref b22)])) _
      refine XS.dup X22.here hx rfl (hb hby at_41) rfl rfl ?_
      show Steps p.tables e below (T22.setTop (mkF m 42 #[.val (.int p0), .val (.int p1), .val (.int p2), .val (.int p3), .val (.int p4), .val (.int p5), .val (.int (p0 &&& (2147483647 : Int32))), .val (.int (p1 &&& (2147483647 : Int32))), .val (.int (p2 &&& (2147483647 : Int32))), .val (.int (p3 &&& (2147483647 : Int32))), .val (.int (0 : Int32)), .unset, .unset, .unset] [(.ref b22), (.ref b22)])) _
      refine st24 _ ?_
      show Steps p.tables e below (T24.setTop (mkF m 44 #[.val (.int p0), .val (.int p1), .val (.int p2), .val (.int p3), .val (.int p4), .val (.int p5), .val (.int (p0 &&& (2147483647 : Int32))), .val (.int (p1 &&& (2147483647 : Int32))), .val (.int (p2 &&& (2147483647 : Int32))), .val (.int (p3 &&& (2147483647 : Int32))), .val (.int (0 : Int32)), .unset, .unset, .unset] [(.ref s24), (.ref b22), (.ref b22)])) _
      refine XS.iload X24.here hx rfl (hb hby at_44) rfl ?_
      show Steps p.tables e below (T24.setTop (mkF m 46 #[.val (.int p0), .val (.int p1), .val (.int p2), .val (.int p3), .val (.int p4), .val (.int p5), .val (.int (p0 &&& (2147483647 : Int32))), .val (.int (p1 &&& (2147483647 : Int32))), .val (.int (p2 &&& (2147483647 : Int32))), .val (.int (p3 &&& (2147483647 : Int32))), .val (.int (0 : Int32)), .unset, .unset, .unset] [(.int p4), (.ref s24), (.ref b22), (.ref b22)])) _
      refine XS.iload X24.here hx rfl (hb hby at_46) rfl ?_
      show Steps p.tables e below (T24.setTop (mkF m 48 #[.val (.int p0), .val (.int p1), .val (.int p2), .val (.int p3), .val (.int p4), .val (.int p5), .val (.int (p0 &&& (2147483647 : Int32))), .val (.int (p1 &&& (2147483647 : Int32))), .val (.int (p2 &&& (2147483647 : Int32))), .val (.int (p3 &&& (2147483647 : Int32))), .val (.int (0 : Int32)), .unset, .unset, .unset] [(.int p5), (.int p4), (.ref s24), (.ref b22), (.ref b22)])) _
      refine XS.iload X24.here hx rfl (hb hby at_48) rfl ?_
      show Steps p.tables e below (T24.setTop (mkF m 50 #[.val (.int p0), .val (.int p1), .val (.int p2), .val (.int p3), .val (.int p4), .val (.int p5), .val (.int (p0 &&& (2147483647 : Int32))), .val (.int (p1 &&& (2147483647 : Int32))), .val (.int (p2 &&& (2147483647 : Int32))), .val (.int (p3 &&& (2147483647 : Int32))), .val (.int (0 : Int32)), .unset, .unset, .unset] [(.int (p0 &&& (2147483647 : Int32))), (.int p5), (.int p4), (.ref s24), (.ref b22), (.ref b22)])) _
      refine XS.iload X24.here hx rfl (hb hby at_50) rfl ?_
      show Steps p.tables e below (T24.setTop (mkF m 52 #[.val (.int p0), .val (.int p1), .val (.int p2), .val (.int p3), .val (.int p4), .val (.int p5), .val (.int (p0 &&& (2147483647 : Int32))), .val (.int (p1 &&& (2147483647 : Int32))), .val (.int (p2 &&& (2147483647 : Int32))), .val (.int (p3 &&& (2147483647 : Int32))), .val (.int (0 : Int32)), .unset, .unset, .unset] [(.int (p1 &&& (2147483647 : Int32))), (.int (p0 &&& (2147483647 : Int32))), (.int p5), (.int p4), (.ref s24), (.ref b22), (.ref b22)])) _
      refine XS.iload X24.here hx rfl (hb hby at_52) rfl ?_
      show Steps p.tables e below (T24.setTop (mkF m 54 #[.val (.int p0), .val (.int p1), .val (.int p2), .val (.int p3), .val (.int p4), .val (.int p5), .val (.int (p0 &&& (2147483647 : Int32))), .val (.int (p1 &&& (2147483647 : Int32))), .val (.int (p2 &&& (2147483647 : Int32))), .val (.int (p3 &&& (2147483647 : Int32))), .val (.int (0 : Int32)), .unset, .unset, .unset] [(.int p4), (.int (p1 &&& (2147483647 : Int32))), (.int (p0 &&& (2147483647 : Int32))), (.int p5), (.int p4), (.ref s24), (.ref b22), (.ref b22)])) _
      refine XS.iload X24.here hx rfl (hb hby at_54) rfl ?_
      show Steps p.tables e below (T24.setTop (mkF m 56 #[.val (.int p0), .val (.int p1), .val (.int p2), .val (.int p3), .val (.int p4), .val (.int p5), .val (.int (p0 &&& (2147483647 : Int32))), .val (.int (p1 &&& (2147483647 : Int32))), .val (.int (p2 &&& (2147483647 : Int32))), .val (.int (p3 &&& (2147483647 : Int32))), .val (.int (0 : Int32)), .unset, .unset, .unset] [(.int (0 : Int32)), (.int p4), (.int (p1 &&& (2147483647 : Int32))), (.int (p0 &&& (2147483647 : Int32))), (.int p5), (.int p4), (.ref s24), (.ref b22), (.ref b22)])) _
      refine st25.trans ?_
      show Steps p.tables e below (T25.setTop (mkF m 59 #[.val (.int p0), .val (.int p1), .val (.int p2), .val (.int p3), .val (.int p4), .val (.int p5), .val (.int (p0 &&& (2147483647 : Int32))), .val (.int (p1 &&& (2147483647 : Int32))), .val (.int (p2 &&& (2147483647 : Int32))), .val (.int (p3 &&& (2147483647 : Int32))), .val (.int (0 : Int32)), .unset, .unset, .unset] [(.ref b22)])) _
      refine XS.astore X25.here hx rfl (hb hby at_59) rfl rfl (l' := #[.val (.int p0), .val (.int p1), .val (.int p2), .val (.int p3), .val (.int p4), .val (.int p5), .val (.int (p0 &&& (2147483647 : Int32))), .val (.int (p1 &&& (2147483647 : Int32))), .val (.int (p2 &&& (2147483647 : Int32))), .val (.int (p3 &&& (2147483647 : Int32))), .val (.int (0 : Int32)), .val (.ref b22), .unset, .unset]) rfl ?_
      show Steps p.tables e below (T25.setTop (mkF m 61 #[.val (.int p0), .val (.int p1), .val (.int p2), .val (.int p3), .val (.int p4), .val (.int p5), .val (.int (p0 &&& (2147483647 : Int32))), .val (.int (p1 &&& (2147483647 : Int32))), .val (.int (p2 &&& (2147483647 : Int32))), .val (.int (p3 &&& (2147483647 : Int32))), .val (.int (0 : Int32)), .val (.ref b22), .unset, .unset] [])) _
      refine XS.iload X25.here hx rfl (hb hby at_61) rfl ?_
      show Steps p.tables e below (T25.setTop (mkF m 63 #[.val (.int p0), .val (.int p1), .val (.int p2), .val (.int p3), .val (.int p4), .val (.int p5), .val (.int (p0 &&& (2147483647 : Int32))), .val (.int (p1 &&& (2147483647 : Int32))), .val (.int (p2 &&& (2147483647 : Int32))), .val (.int (p3 &&& (2147483647 : Int32))), .val (.int (0 : Int32)), .val (.ref b22), .unset, .unset] [(.int (p2 &&& (2147483647 : Int32)))])) _
      refine XS.iload X25.here hx rfl (hb hby at_63) rfl ?_
      show Steps p.tables e below (T25.setTop (mkF m 65 #[.val (.int p0), .val (.int p1), .val (.int p2), .val (.int p3), .val (.int p4), .val (.int p5), .val (.int (p0 &&& (2147483647 : Int32))), .val (.int (p1 &&& (2147483647 : Int32))), .val (.int (p2 &&& (2147483647 : Int32))), .val (.int (p3 &&& (2147483647 : Int32))), .val (.int (0 : Int32)), .val (.ref b22), .unset, .unset] [(.int (p0 &&& (2147483647 : Int32))), (.int (p2 &&& (2147483647 : Int32)))])) _
      refine st26 _ ?_
      show Steps p.tables e below (T26.setTop (mkF m 68 #[.val (.int p0), .val (.int p1), .val (.int p2), .val (.int p3), .val (.int p4), .val (.int p5), .val (.int (p0 &&& (2147483647 : Int32))), .val (.int (p1 &&& (2147483647 : Int32))), .val (.int (p2 &&& (2147483647 : Int32))), .val (.int (p3 &&& (2147483647 : Int32))), .val (.int (0 : Int32)), .val (.ref b22), .unset, .unset] [(.long (F_sq (p2 &&& (2147483647 : Int32)) (p0 &&& (2147483647 : Int32))))])) _
      refine XS.iload X26.here hx rfl (hb hby at_68) rfl ?_
      show Steps p.tables e below (T26.setTop (mkF m 70 #[.val (.int p0), .val (.int p1), .val (.int p2), .val (.int p3), .val (.int p4), .val (.int p5), .val (.int (p0 &&& (2147483647 : Int32))), .val (.int (p1 &&& (2147483647 : Int32))), .val (.int (p2 &&& (2147483647 : Int32))), .val (.int (p3 &&& (2147483647 : Int32))), .val (.int (0 : Int32)), .val (.ref b22), .unset, .unset] [(.int (p3 &&& (2147483647 : Int32))), (.long (F_sq (p2 &&& (2147483647 : Int32)) (p0 &&& (2147483647 : Int32))))])) _
      refine XS.iload X26.here hx rfl (hb hby at_70) rfl ?_
      show Steps p.tables e below (T26.setTop (mkF m 72 #[.val (.int p0), .val (.int p1), .val (.int p2), .val (.int p3), .val (.int p4), .val (.int p5), .val (.int (p0 &&& (2147483647 : Int32))), .val (.int (p1 &&& (2147483647 : Int32))), .val (.int (p2 &&& (2147483647 : Int32))), .val (.int (p3 &&& (2147483647 : Int32))), .val (.int (0 : Int32)), .val (.ref b22), .unset, .unset] [(.int (p1 &&& (2147483647 : Int32))), (.int (p3 &&& (2147483647 : Int32))), (.long (F_sq (p2 &&& (2147483647 : Int32)) (p0 &&& (2147483647 : Int32))))])) _
      refine st27 _ ?_
      show Steps p.tables e below (T27.setTop (mkF m 75 #[.val (.int p0), .val (.int p1), .val (.int p2), .val (.int p3), .val (.int p4), .val (.int p5), .val (.int (p0 &&& (2147483647 : Int32))), .val (.int (p1 &&& (2147483647 : Int32))), .val (.int (p2 &&& (2147483647 : Int32))), .val (.int (p3 &&& (2147483647 : Int32))), .val (.int (0 : Int32)), .val (.ref b22), .unset, .unset] [(.long (F_sq (p3 &&& (2147483647 : Int32)) (p1 &&& (2147483647 : Int32)))), (.long (F_sq (p2 &&& (2147483647 : Int32)) (p0 &&& (2147483647 : Int32))))])) _
      refine XS.ladd X27.here hx rfl (hb hby at_75) rfl ?_
      show Steps p.tables e below (T27.setTop (mkF m 76 #[.val (.int p0), .val (.int p1), .val (.int p2), .val (.int p3), .val (.int p4), .val (.int p5), .val (.int (p0 &&& (2147483647 : Int32))), .val (.int (p1 &&& (2147483647 : Int32))), .val (.int (p2 &&& (2147483647 : Int32))), .val (.int (p3 &&& (2147483647 : Int32))), .val (.int (0 : Int32)), .val (.ref b22), .unset, .unset] [(.long ((F_sq (p2 &&& (2147483647 : Int32)) (p0 &&& (2147483647 : Int32))) + (F_sq (p3 &&& (2147483647 : Int32)) (p1 &&& (2147483647 : Int32)))))])) _
      refine XS.lstore X27.here hx rfl (hb hby at_76) rfl (l' := #[.val (.int p0), .val (.int p1), .val (.int p2), .val (.int p3), .val (.int p4), .val (.int p5), .val (.int (p0 &&& (2147483647 : Int32))), .val (.int (p1 &&& (2147483647 : Int32))), .val (.int (p2 &&& (2147483647 : Int32))), .val (.int (p3 &&& (2147483647 : Int32))), .val (.int (0 : Int32)), .val (.ref b22), .val (.long ((F_sq (p2 &&& (2147483647 : Int32)) (p0 &&& (2147483647 : Int32))) + (F_sq (p3 &&& (2147483647 : Int32)) (p1 &&& (2147483647 : Int32))))), .second]) rfl ?_
      show Steps p.tables e below (T27.setTop (mkF m 78 #[.val (.int p0), .val (.int p1), .val (.int p2), .val (.int p3), .val (.int p4), .val (.int p5), .val (.int (p0 &&& (2147483647 : Int32))), .val (.int (p1 &&& (2147483647 : Int32))), .val (.int (p2 &&& (2147483647 : Int32))), .val (.int (p3 &&& (2147483647 : Int32))), .val (.int (0 : Int32)), .val (.ref b22), .val (.long ((F_sq (p2 &&& (2147483647 : Int32)) (p0 &&& (2147483647 : Int32))) + (F_sq (p3 &&& (2147483647 : Int32)) (p1 &&& (2147483647 : Int32))))), .second] [])) _
      refine XS.aload X27.here hx rfl (hb hby at_78) rfl rfl ?_
      show Steps p.tables e below (T27.setTop (mkF m 80 #[.val (.int p0), .val (.int p1), .val (.int p2), .val (.int p3), .val (.int p4), .val (.int p5), .val (.int (p0 &&& (2147483647 : Int32))), .val (.int (p1 &&& (2147483647 : Int32))), .val (.int (p2 &&& (2147483647 : Int32))), .val (.int (p3 &&& (2147483647 : Int32))), .val (.int (0 : Int32)), .val (.ref b22), .val (.long ((F_sq (p2 &&& (2147483647 : Int32)) (p0 &&& (2147483647 : Int32))) + (F_sq (p3 &&& (2147483647 : Int32)) (p1 &&& (2147483647 : Int32))))), .second] [(.ref b22)])) _
      refine XS.iload X27.here hx rfl (hb hby at_80) rfl ?_
      show Steps p.tables e below (T27.setTop (mkF m 82 #[.val (.int p0), .val (.int p1), .val (.int p2), .val (.int p3), .val (.int p4), .val (.int p5), .val (.int (p0 &&& (2147483647 : Int32))), .val (.int (p1 &&& (2147483647 : Int32))), .val (.int (p2 &&& (2147483647 : Int32))), .val (.int (p3 &&& (2147483647 : Int32))), .val (.int (0 : Int32)), .val (.ref b22), .val (.long ((F_sq (p2 &&& (2147483647 : Int32)) (p0 &&& (2147483647 : Int32))) + (F_sq (p3 &&& (2147483647 : Int32)) (p1 &&& (2147483647 : Int32))))), .second] [(.int (p2 &&& (2147483647 : Int32))), (.ref b22)])) _
      refine XS.iload X27.here hx rfl (hb hby at_82) rfl ?_
      show Steps p.tables e below (T27.setTop (mkF m 84 #[.val (.int p0), .val (.int p1), .val (.int p2), .val (.int p3), .val (.int p4), .val (.int p5), .val (.int (p0 &&& (2147483647 : Int32))), .val (.int (p1 &&& (2147483647 : Int32))), .val (.int (p2 &&& (2147483647 : Int32))), .val (.int (p3 &&& (2147483647 : Int32))), .val (.int (0 : Int32)), .val (.ref b22), .val (.long ((F_sq (p2 &&& (2147483647 : Int32)) (p0 &&& (2147483647 : Int32))) + (F_sq (p3 &&& (2147483647 : Int32)) (p1 &&& (2147483647 : Int32))))), .second] [(.int (p3 &&& (2147483647 : Int32))), (.int (p2 &&& (2147483647 : Int32))), (.ref b22)])) _
      refine st28.trans ?_
      show Steps p.tables e below (T28.setTop (mkF m 87 #[.val (.int p0), .val (.int p1), .val (.int p2), .val (.int p3), .val (.int p4), .val (.int p5), .val (.int (p0 &&& (2147483647 : Int32))), .val (.int (p1 &&& (2147483647 : Int32))), .val (.int (p2 &&& (2147483647 : Int32))), .val (.int (p3 &&& (2147483647 : Int32))), .val (.int (0 : Int32)), .val (.ref b22), .val (.long ((F_sq (p2 &&& (2147483647 : Int32)) (p0 &&& (2147483647 : Int32))) + (F_sq (p3 &&& (2147483647 : Int32)) (p1 &&& (2147483647 : Int32))))), .second] [(.long (F_sd (p2 &&& (2147483647 : Int32)) (p3 &&& (2147483647 : Int32)) (p0 &&& (2147483647 : Int32)) (p1 &&& (2147483647 : Int32))))])) _
      refine XS.lload X28.here hx rfl (hb hby at_87) rfl ?_
      show Steps p.tables e below (T28.setTop (mkF m 89 #[.val (.int p0), .val (.int p1), .val (.int p2), .val (.int p3), .val (.int p4), .val (.int p5), .val (.int (p0 &&& (2147483647 : Int32))), .val (.int (p1 &&& (2147483647 : Int32))), .val (.int (p2 &&& (2147483647 : Int32))), .val (.int (p3 &&& (2147483647 : Int32))), .val (.int (0 : Int32)), .val (.ref b22), .val (.long ((F_sq (p2 &&& (2147483647 : Int32)) (p0 &&& (2147483647 : Int32))) + (F_sq (p3 &&& (2147483647 : Int32)) (p1 &&& (2147483647 : Int32))))), .second] [(.long ((F_sq (p2 &&& (2147483647 : Int32)) (p0 &&& (2147483647 : Int32))) + (F_sq (p3 &&& (2147483647 : Int32)) (p1 &&& (2147483647 : Int32))))), (.long (F_sd (p2 &&& (2147483647 : Int32)) (p3 &&& (2147483647 : Int32)) (p0 &&& (2147483647 : Int32)) (p1 &&& (2147483647 : Int32))))])) _
      refine XS.lcmp X28.here hx rfl (hb hby at_89) rfl ?_
      exact k)
    by_cases hc90_29 : (lcmpW (F_sd (p2 &&& (2147483647 : Int32)) (p3 &&& (2147483647 : Int32)) (p0 &&& (2147483647 : Int32)) (p1 &&& (2147483647 : Int32))) ((F_sq (p2 &&& (2147483647 : Int32)) (p0 &&& (2147483647 : Int32))) + (F_sq (p3 &&& (2147483647 : Int32)) (p1 &&& (2147483647 : Int32))))) = (0 : Int32)
    · obtain ⟨fs, hr, hrun, hended, hE⟩ := X28.leaveW hS24 (by rw [e28]; exact hk25) (v := some (.int (1 : Int32))) (fun h => by rw [Bd.returns] at h; cases h)
      refine ⟨_, _, pre30 _ ?_, hrun, hended, _, _, rfl, ?_, own_wmono hE (by decide) (by decide)⟩
      · show Steps p.tables e below (T28.setTop (mkF m 90 #[.val (.int p0), .val (.int p1), .val (.int p2), .val (.int p3), .val (.int p4), .val (.int p5), .val (.int (p0 &&& (2147483647 : Int32))), .val (.int (p1 &&& (2147483647 : Int32))), .val (.int (p2 &&& (2147483647 : Int32))), .val (.int (p3 &&& (2147483647 : Int32))), .val (.int (0 : Int32)), .val (.ref b22), .val (.long ((F_sq (p2 &&& (2147483647 : Int32)) (p0 &&& (2147483647 : Int32))) + (F_sq (p3 &&& (2147483647 : Int32)) (p1 &&& (2147483647 : Int32))))), .second] [(.int (lcmpW (F_sd (p2 &&& (2147483647 : Int32)) (p3 &&& (2147483647 : Int32)) (p0 &&& (2147483647 : Int32)) (p1 &&& (2147483647 : Int32))) ((F_sq (p2 &&& (2147483647 : Int32)) (p0 &&& (2147483647 : Int32))) + (F_sq (p3 &&& (2147483647 : Int32)) (p1 &&& (2147483647 : Int32))))))])) _
        refine XS.ifNo X28.here hx rfl (hb hby at_90) rfl ((if0 _ _).trans (teq hc90_29).2) ?_
        show Steps p.tables e below (T28.setTop (mkF m 93 #[.val (.int p0), .val (.int p1), .val (.int p2), .val (.int p3), .val (.int p4), .val (.int p5), .val (.int (p0 &&& (2147483647 : Int32))), .val (.int (p1 &&& (2147483647 : Int32))), .val (.int (p2 &&& (2147483647 : Int32))), .val (.int (p3 &&& (2147483647 : Int32))), .val (.int (0 : Int32)), .val (.ref b22), .val (.long ((F_sq (p2 &&& (2147483647 : Int32)) (p0 &&& (2147483647 : Int32))) + (F_sq (p3 &&& (2147483647 : Int32)) (p1 &&& (2147483647 : Int32))))), .second] [])) _
        refine XS.iconst X28.here hx rfl (hb hby at_93) ?_
        show Steps p.tables e below (T28.setTop (mkF m 94 #[.val (.int p0), .val (.int p1), .val (.int p2), .val (.int p3), .val (.int p4), .val (.int p5), .val (.int (p0 &&& (2147483647 : Int32))), .val (.int (p1 &&& (2147483647 : Int32))), .val (.int (p2 &&& (2147483647 : Int32))), .val (.int (p3 &&& (2147483647 : Int32))), .val (.int (0 : Int32)), .val (.ref b22), .val (.long ((F_sq (p2 &&& (2147483647 : Int32)) (p0 &&& (2147483647 : Int32))) + (F_sq (p3 &&& (2147483647 : Int32)) (p1 &&& (2147483647 : Int32))))), .second] [(.int (1 : Int32))])) _
        refine XS.goto X28.here hx rfl (pc0 := 94) (pc' := 98) rfl (hb hby at_94) (by decide) (by decide) ?_
        show Steps p.tables e below (T28.setTop (mkF m 98 #[.val (.int p0), .val (.int p1), .val (.int p2), .val (.int p3), .val (.int p4), .val (.int p5), .val (.int (p0 &&& (2147483647 : Int32))), .val (.int (p1 &&& (2147483647 : Int32))), .val (.int (p2 &&& (2147483647 : Int32))), .val (.int (p3 &&& (2147483647 : Int32))), .val (.int (0 : Int32)), .val (.ref b22), .val (.long ((F_sq (p2 &&& (2147483647 : Int32)) (p0 &&& (2147483647 : Int32))) + (F_sq (p3 &&& (2147483647 : Int32)) (p1 &&& (2147483647 : Int32))))), .second] [(.int (1 : Int32))])) _
        exact retN X28 hx (t := .boolean) Bd.returns (by simp) (hb hby at_98) hr
      · show Q_law Z p0 p1 p2 p3 p4 p5 h0 n0 _ T28.heap _
        refine ⟨?_, N28, trivial⟩
        rw [F_law, if_pos hc28_20, if_pos hc90_29]
    · obtain ⟨fs, hr, hrun, hended, hE⟩ := X28.leaveW hS24 (by rw [e28]; exact hk25) (v := some (.int (0 : Int32))) (fun h => by rw [Bd.returns] at h; cases h)
      refine ⟨_, _, pre30 _ ?_, hrun, hended, _, _, rfl, ?_, own_wmono hE (by decide) (by decide)⟩
      · show Steps p.tables e below (T28.setTop (mkF m 90 #[.val (.int p0), .val (.int p1), .val (.int p2), .val (.int p3), .val (.int p4), .val (.int p5), .val (.int (p0 &&& (2147483647 : Int32))), .val (.int (p1 &&& (2147483647 : Int32))), .val (.int (p2 &&& (2147483647 : Int32))), .val (.int (p3 &&& (2147483647 : Int32))), .val (.int (0 : Int32)), .val (.ref b22), .val (.long ((F_sq (p2 &&& (2147483647 : Int32)) (p0 &&& (2147483647 : Int32))) + (F_sq (p3 &&& (2147483647 : Int32)) (p1 &&& (2147483647 : Int32))))), .second] [(.int (lcmpW (F_sd (p2 &&& (2147483647 : Int32)) (p3 &&& (2147483647 : Int32)) (p0 &&& (2147483647 : Int32)) (p1 &&& (2147483647 : Int32))) ((F_sq (p2 &&& (2147483647 : Int32)) (p0 &&& (2147483647 : Int32))) + (F_sq (p3 &&& (2147483647 : Int32)) (p1 &&& (2147483647 : Int32))))))])) _
        refine XS.ifYes X28.here hx rfl (pc0 := 90) (pc' := 97) rfl (hb hby at_90) rfl ((if0 _ _).trans (feq hc90_29).2) (by decide) (by decide) ?_
        show Steps p.tables e below (T28.setTop (mkF m 97 #[.val (.int p0), .val (.int p1), .val (.int p2), .val (.int p3), .val (.int p4), .val (.int p5), .val (.int (p0 &&& (2147483647 : Int32))), .val (.int (p1 &&& (2147483647 : Int32))), .val (.int (p2 &&& (2147483647 : Int32))), .val (.int (p3 &&& (2147483647 : Int32))), .val (.int (0 : Int32)), .val (.ref b22), .val (.long ((F_sq (p2 &&& (2147483647 : Int32)) (p0 &&& (2147483647 : Int32))) + (F_sq (p3 &&& (2147483647 : Int32)) (p1 &&& (2147483647 : Int32))))), .second] [])) _
        refine XS.iconst X28.here hx rfl (hb hby at_97) ?_
        show Steps p.tables e below (T28.setTop (mkF m 98 #[.val (.int p0), .val (.int p1), .val (.int p2), .val (.int p3), .val (.int p4), .val (.int p5), .val (.int (p0 &&& (2147483647 : Int32))), .val (.int (p1 &&& (2147483647 : Int32))), .val (.int (p2 &&& (2147483647 : Int32))), .val (.int (p3 &&& (2147483647 : Int32))), .val (.int (0 : Int32)), .val (.ref b22), .val (.long ((F_sq (p2 &&& (2147483647 : Int32)) (p0 &&& (2147483647 : Int32))) + (F_sq (p3 &&& (2147483647 : Int32)) (p1 &&& (2147483647 : Int32))))), .second] [(.int (0 : Int32))])) _
        exact retN X28 hx (t := .boolean) Bd.returns (by simp) (hb hby at_98) hr
      · show Q_law Z p0 p1 p2 p3 p4 p5 h0 n0 _ T28.heap _
        refine ⟨?_, N28, trivial⟩
        rw [F_law, if_pos hc28_20, if_neg hc90_29]
  · obtain ⟨T31, h31, X31, e31, E31, A31, D31, -, st31⟩ := newO X0 hx hZ hown (hw _ (List.mem_of_getElem? (i := 1) rfl)) (hw _ (List.mem_of_getElem? (i := 2) rfl)) (hw _ (List.mem_of_getElem? (i := 3) rfl)) e0 (g := (mkF m 38 #[.val (.int p0), .val (.int p1), .val (.int p2), .val (.int p3), .val (.int p4), .val (.int p5), .val (.int (p0 &&& (2147483647 : Int32))), .val (.int (p1 &&& (2147483647 : Int32))), .val (.int (p2 &&& (2147483647 : Int32))), .val (.int (p3 &&& (2147483647 : Int32))), .val (.int (1 : Int32)), .unset, .unset, .unset] [])) rfl (hb hby at_38) (by decide) (by decide)
    obtain ⟨b31, g31⟩ : ∃ z, z = h0.size := ⟨_, rfl⟩
    rw [← g31] at A31 D31 st31
    have EX31 : Ext h0 h31 := E31
    have g_b31 : n0 ≤ b31 := Nat.le_trans Z0 (Nat.le_of_eq g31.symm)
    have sz_b31 : h0.size ≤ b31 := Nat.le_of_eq g31.symm
    have Z31 : n0 ≤ h31.size := Nat.le_trans Z0 EX31.1
    have wS32 : ∀ a ∈ Bundle.stringAtoms, a.before a0' Z = true := own_strAtoms (hw _ (List.mem_of_getElem? (i := 5) rfl)) (hw _ (List.mem_of_getElem? (i := 6) rfl)) (hw _ (List.mem_of_getElem? (i := 7) rfl)) (hw _ (List.mem_of_getElem? (i := 8) rfl)) (hw _ (List.mem_of_getElem? (i := 9) rfl)) (hw _ (List.mem_of_getElem? (i := 10) rfl)) (hw _ (List.mem_of_getElem? (i := 11) rfl))
    obtain ⟨s33, T33, h33, k33, X33, e33, E33, hS33, hk33, hZ, hown, st33⟩ := ldcS (s := s) (vm0 := s.vm) X31 hx hZ hown (hw _ (List.mem_of_getElem? (i := 4) rfl)) wS32 e31 (k0 := 0) ((State.WarmedH.refl s).since 0) (Nat.zero_le _) (g := (mkF m 42 #[.val (.int p0), .val (.int p1), .val (.int p2), .val (.int p3), .val (.int p4), .val (.int p5), .val (.int (p0 &&& (2147483647 : Int32))), .val (.int (p1 &&& (2147483647 : Int32))), .val (.int (p2 &&& (2147483647 : Int32))), .val (.int (p3 &&& (2147483647 : Int32))), .val (.int (1 : Int32)), .unset, .unset, .unset] [(.ref b31), (.ref b31)])) rfl (hb hby at_42) (n := 4) (by decide) (by decide) (by decide) (by decide)
    have EX33 : Ext h0 h33 := own_exttr EX31 E33
    have Z33 : n0 ≤ h33.size := Nat.le_trans Z0 EX33.1
    obtain ⟨_, _, ⟨T34, L34, k34, n34⟩, -, X34, ⟨Lc34, hQ34, l34, y34, z34⟩, st34⟩ := X33.specialBack hx (y := (⟨"com/example/entry_to_apps/entrytoapps/GridProfile", "<init>", "(Ljava/lang/String;IIIIIZ)V"⟩ : MethodName)) rfl hown (mvT hZ (hw _ (List.mem_of_getElem? (i := 12) rfl))) (mvT hZ (hw _ (List.mem_of_getElem? (i := 13) rfl))) (mvT hZ (hw _ (List.mem_of_getElem? (i := 14) rfl))) (by decide) (backOf (W := 1) (rm_ini l Z a0' hw [] b31 s33 p4 p5 (p0 &&& (2147483647 : Int32)) (p1 &&& (2147483647 : Int32)) p4 (1 : Int32) h33 n0 Z33 (A31.ext E33) ((D31 (Or.inr (hw _ (List.mem_of_getElem? (i := 21) rfl))) (ty := .int) (by decide)).ext E33) g_b31) hZ (hw _ (List.mem_of_getElem? (i := 14) rfl)) (hw _ (List.mem_of_getElem? (i := 3) rfl)) (by decide) (by decide)) (g := (mkF m 56 #[.val (.int p0), .val (.int p1), .val (.int p2), .val (.int p3), .val (.int p4), .val (.int p5), .val (.int (p0 &&& (2147483647 : Int32))), .val (.int (p1 &&& (2147483647 : Int32))), .val (.int (p2 &&& (2147483647 : Int32))), .val (.int (p3 &&& (2147483647 : Int32))), .val (.int (1 : Int32)), .unset, .unset, .unset] [(.int (1 : Int32)), (.int p4), (.int (p1 &&& (2147483647 : Int32))), (.int (p0 &&& (2147483647 : Int32))), (.int p5), (.int p4), (.ref s33), (.ref b31), (.ref b31)])) rfl (by rw [hml]; rfl) (Steps.refl _) (a := b31) (argsL := [(.ref s33), (.int p4), (.int p5), (.int (p0 &&& (2147483647 : Int32))), (.int (p1 &&& (2147483647 : Int32))), (.int p4), (.int (1 : Int32))]) (rest := [(.ref b31)]) (lenOf own_pd0 rfl) rfl (by show 2 * 0 + _ ≤ _; exact Nat.le_of_eq rfl) (hb hby at_56) (fun _ _ => ⟨rfl, e33, (by decide : 3 + 0 ≤ _), (by decide : 15 + 0 ≤ _)⟩)
    dsimp only [Pt.U, Pt.locs, Pt.cells, Pt.slots] at X34 l34 y34 z34 st34 hQ34
    subst l34 y34 z34
    obtain ⟨rfl, N34q, K34, Ex34, FminWidth_34, FminHeight_34⟩ := hQ34
    have N34 := Fr.app N0 N34q
    have EX34 : Ext h0 T34.heap := own_extkeep EX33 K34 sz_b31
    have Z34 : n0 ≤ T34.heap.size := Nat.le_trans Z0 EX34.1
    have hk34 := Nat.le_trans hk33 K34.1
    obtain ⟨_, _, ⟨T35, L35, k35, n35⟩, -, X35, ⟨Lc35, hQ35, l35, y35, z35⟩, st35⟩ := Jvm.LawKit.callS X34 hx (y := (⟨"com/example/entry_to_apps/entrytoapps/GridProfileSquaredDistancePinLaw", "sq", "(II)J"⟩ : MethodName)) hown (mvT hZ (hw _ (List.mem_of_getElem? (i := 32) rfl))) (mvT hZ (hw _ (List.mem_of_getElem? (i := 33) rfl))) (mvT hZ (hw _ (List.mem_of_getElem? (i := 34) rfl))) (mvT hZ (hw _ (List.mem_of_getElem? (i := 35) rfl))) (by decide) (backOf (W := 0) (rm_sq l Z a0' hw [] (p2 &&& (2147483647 : Int32)) (p0 &&& (2147483647 : Int32)) T34.heap n0 Z34) hZ (hw _ (List.mem_of_getElem? (i := 35) rfl)) (hw _ (List.mem_of_getElem? (i := 34) rfl)) (by decide) (by decide)) (g := (mkF m 65 #[.val (.int p0), .val (.int p1), .val (.int p2), .val (.int p3), .val (.int p4), .val (.int p5), .val (.int (p0 &&& (2147483647 : Int32))), .val (.int (p1 &&& (2147483647 : Int32))), .val (.int (p2 &&& (2147483647 : Int32))), .val (.int (p3 &&& (2147483647 : Int32))), .val (.int (1 : Int32)), .val (.ref b31), .unset, .unset] [(.int (p0 &&& (2147483647 : Int32))), (.int (p2 &&& (2147483647 : Int32)))])) rfl (by rw [hml]; rfl) (argsL := [(.int (p2 &&& (2147483647 : Int32))), (.int (p0 &&& (2147483647 : Int32)))]) (rest := []) (lenOf own_pd1 rfl) rfl (by show 2 * 0 + _ ≤ _; exact Nat.le_of_eq rfl) (hb hby at_65) (fun _ _ => ⟨rfl, rfl, (by decide : 3 + 0 ≤ _), (by decide : 15 + 0 ≤ _)⟩)
    dsimp only [Pt.U, Pt.locs, Pt.cells, Pt.slots] at X35 l35 y35 z35 st35 hQ35
    subst l35 y35 z35
    obtain ⟨rfl, N35q, e35⟩ := hQ35
    have N35 := Fr.app N34 N35q
    obtain ⟨_, _, ⟨T36, L36, k36, n36⟩, -, X36, ⟨Lc36, hQ36, l36, y36, z36⟩, st36⟩ := Jvm.LawKit.callS X35 hx (y := (⟨"com/example/entry_to_apps/entrytoapps/GridProfileSquaredDistancePinLaw", "sq", "(II)J"⟩ : MethodName)) hown (mvT hZ (hw _ (List.mem_of_getElem? (i := 32) rfl))) (mvT hZ (hw _ (List.mem_of_getElem? (i := 33) rfl))) (mvT hZ (hw _ (List.mem_of_getElem? (i := 34) rfl))) (mvT hZ (hw _ (List.mem_of_getElem? (i := 35) rfl))) (by decide) (backOf (W := 2) (rm_sq l Z a0' hw [] (p3 &&& (2147483647 : Int32)) (p1 &&& (2147483647 : Int32)) T34.heap n0 Z34) hZ (hw _ (List.mem_of_getElem? (i := 35) rfl)) (hw _ (List.mem_of_getElem? (i := 34) rfl)) (by decide) (by decide)) (g := (mkF m 72 #[.val (.int p0), .val (.int p1), .val (.int p2), .val (.int p3), .val (.int p4), .val (.int p5), .val (.int (p0 &&& (2147483647 : Int32))), .val (.int (p1 &&& (2147483647 : Int32))), .val (.int (p2 &&& (2147483647 : Int32))), .val (.int (p3 &&& (2147483647 : Int32))), .val (.int (1 : Int32)), .val (.ref b31), .unset, .unset] [(.int (p1 &&& (2147483647 : Int32))), (.int (p3 &&& (2147483647 : Int32))), (.long (F_sq (p2 &&& (2147483647 : Int32)) (p0 &&& (2147483647 : Int32))))])) rfl (by rw [hml]; rfl) (argsL := [(.int (p3 &&& (2147483647 : Int32))), (.int (p1 &&& (2147483647 : Int32)))]) (rest := [(.long (F_sq (p2 &&& (2147483647 : Int32)) (p0 &&& (2147483647 : Int32))))]) (lenOf own_pd1 rfl) rfl (by show 2 * 0 + _ ≤ _; exact Nat.le_of_eq rfl) (hb hby at_72) (fun _ _ => ⟨rfl, e35, (by decide : 3 + 0 ≤ _), (by decide : 15 + 0 ≤ _)⟩)
    dsimp only [Pt.U, Pt.locs, Pt.cells, Pt.slots] at X36 l36 y36 z36 st36 hQ36
    subst l36 y36 z36
    obtain ⟨rfl, N36q, e36⟩ := hQ36
    have N36 := Fr.app N35 N36q
    obtain ⟨cq37, kq37, q37a, q37b, q37c⟩ := isOf hZ e36 Ex34
    obtain ⟨_, _, ⟨T37, L37, k37, n37⟩, -, X37, ⟨Lc37, hQ37, l37, y37, z37⟩, st37⟩ := X36.virtualBack hx (y := (⟨"com/example/entry_to_apps/entrytoapps/GridProfile", "squaredDistance", "(II)J"⟩ : MethodName)) (z := (⟨"com/example/entry_to_apps/entrytoapps/GridProfile", "squaredDistance", "(II)J"⟩ : MethodName)) hown (mvT hZ (hw _ (List.mem_of_getElem? (i := 36) rfl))) (mvT hZ (hw _ (List.mem_of_getElem? (i := 37) rfl))) (notFace_of_selects (args := #[]) (mvT hZ (hw _ (List.mem_of_getElem? (i := 39) rfl)))) (mvT hZ (hw _ (List.mem_of_getElem? (i := 39) rfl))) (mvT hZ (hw _ (List.mem_of_getElem? (i := 38) rfl))) (by decide) (backOf (W := 0) (rm_sd l Z a0' hw [] b31 (p2 &&& (2147483647 : Int32)) (p3 &&& (2147483647 : Int32)) (p0 &&& (2147483647 : Int32)) (p1 &&& (2147483647 : Int32)) T34.heap n0 Z34 FminWidth_34 FminHeight_34) hZ (hw _ (List.mem_of_getElem? (i := 40) rfl)) (hw _ (List.mem_of_getElem? (i := 3) rfl)) (by decide) (by decide)) q37a q37c (g := (mkF m 84 #[.val (.int p0), .val (.int p1), .val (.int p2), .val (.int p3), .val (.int p4), .val (.int p5), .val (.int (p0 &&& (2147483647 : Int32))), .val (.int (p1 &&& (2147483647 : Int32))), .val (.int (p2 &&& (2147483647 : Int32))), .val (.int (p3 &&& (2147483647 : Int32))), .val (.int (1 : Int32)), .val (.ref b31), .val (.long ((F_sq (p2 &&& (2147483647 : Int32)) (p0 &&& (2147483647 : Int32))) + (F_sq (p3 &&& (2147483647 : Int32)) (p1 &&& (2147483647 : Int32))))), .second] [(.int (p3 &&& (2147483647 : Int32))), (.int (p2 &&& (2147483647 : Int32))), (.ref b31)])) rfl (by rw [hml]; rfl) (Steps.refl _) (argsL := [(.int (p2 &&& (2147483647 : Int32))), (.int (p3 &&& (2147483647 : Int32)))]) (rest := []) (lenOf own_pd1 rfl) rfl (by show 2 * 0 + _ ≤ _; exact Nat.le_of_eq rfl) (hb hby at_84) (fun _ _ => ⟨rfl, e36, (by decide : 3 + 0 ≤ _), (by decide : 15 + 0 ≤ _)⟩)
    dsimp only [Pt.U, Pt.locs, Pt.cells, Pt.slots] at X37 l37 y37 z37 st37 hQ37
    subst l37 y37 z37
    obtain ⟨rfl, N37q, e37⟩ := hQ37
    have N37 := Fr.app N36 N37q
    have pre39 : ∀ t, Steps p.tables e below (T37.setTop (mkF m 90 #[.val (.int p0), .val (.int p1), .val (.int p2), .val (.int p3), .val (.int p4), .val (.int p5), .val (.int (p0 &&& (2147483647 : Int32))), .val (.int (p1 &&& (2147483647 : Int32))), .val (.int (p2 &&& (2147483647 : Int32))), .val (.int (p3 &&& (2147483647 : Int32))), .val (.int (1 : Int32)), .val (.ref b31), .val (.long ((F_sq (p2 &&& (2147483647 : Int32)) (p0 &&& (2147483647 : Int32))) + (F_sq (p3 &&& (2147483647 : Int32)) (p1 &&& (2147483647 : Int32))))), .second] [(.int (lcmpW (F_sd (p2 &&& (2147483647 : Int32)) (p3 &&& (2147483647 : Int32)) (p0 &&& (2147483647 : Int32)) (p1 &&& (2147483647 : Int32))) ((F_sq (p2 &&& (2147483647 : Int32)) (p0 &&& (2147483647 : Int32))) + (F_sq (p3 &&& (2147483647 : Int32)) (p1 &&& (2147483647 : Int32))))))])) t → Steps p.tables e below (s₁.setTop (entryFrame m #[(.int p0), (.int p1), (.int p2), (.int p3), (.int p4), (.int p5)] maxLocals)) t := fun t k => pre21 t (by
      show Steps p.tables e below (s₁.setTop (mkF m 28 #[.val (.int p0), .val (.int p1), .val (.int p2), .val (.int p3), .val (.int p4), .val (.int p5), .val (.int (p0 &&& (2147483647 : Int32))), .val (.int (p1 &&& (2147483647 : Int32))), .val (.int (p2 &&& (2147483647 : Int32))), .val (.int (p3 &&& (2147483647 : Int32))), .unset, .unset, .unset, .unset] [(.int (p5 &&& (1 : Int32)))])) _
      refine XS.ifNo X0.here hx rfl (hb hby at_28) rfl ((if0 _ _).trans (feq hc28_20).1) ?_
      show Steps p.tables e below (s₁.setTop (mkF m 31 #[.val (.int p0), .val (.int p1), .val (.int p2), .val (.int p3), .val (.int p4), .val (.int p5), .val (.int (p0 &&& (2147483647 : Int32))), .val (.int (p1 &&& (2147483647 : Int32))), .val (.int (p2 &&& (2147483647 : Int32))), .val (.int (p3 &&& (2147483647 : Int32))), .unset, .unset, .unset, .unset] [])) _
      refine XS.iconst X0.here hx rfl (hb hby at_31) ?_
      show Steps p.tables e below (s₁.setTop (mkF m 32 #[.val (.int p0), .val (.int p1), .val (.int p2), .val (.int p3), .val (.int p4), .val (.int p5), .val (.int (p0 &&& (2147483647 : Int32))), .val (.int (p1 &&& (2147483647 : Int32))), .val (.int (p2 &&& (2147483647 : Int32))), .val (.int (p3 &&& (2147483647 : Int32))), .unset, .unset, .unset, .unset] [(.int (1 : Int32))])) _
      refine XS.goto X0.here hx rfl (pc0 := 32) (pc' := 36) rfl (hb hby at_32) (by decide) (by decide) ?_
      show Steps p.tables e below (s₁.setTop (mkF m 36 #[.val (.int p0), .val (.int p1), .val (.int p2), .val (.int p3), .val (.int p4), .val (.int p5), .val (.int (p0 &&& (2147483647 : Int32))), .val (.int (p1 &&& (2147483647 : Int32))), .val (.int (p2 &&& (2147483647 : Int32))), .val (.int (p3 &&& (2147483647 : Int32))), .unset, .unset, .unset, .unset] [(.int (1 : Int32))])) _
      refine XS.istore X0.here hx rfl (hb hby at_36) rfl (l' := #[.val (.int p0), .val (.int p1), .val (.int p2), .val (.int p3), .val (.int p4), .val (.int p5), .val (.int (p0 &&& (2147483647 : Int32))), .val (.int (p1 &&& (2147483647 : Int32))), .val (.int (p2 &&& (2147483647 : Int32))), .val (.int (p3 &&& (2147483647 : Int32))), .val (.int (1 : Int32)), .unset, .unset, .unset]) rfl ?_
      show Steps p.tables e below (s₁.setTop (mkF m 38 #[.val (.int p0), .val (.int p1), .val (.int p2), .val (.int p3), .val (.int p4), .val (.int p5), .val (.int (p0 &&& (2147483647 : Int32))), .val (.int (p1 &&& (2147483647 : Int32))), .val (.int (p2 &&& (2147483647 : Int32))), .val (.int (p3 &&& (2147483647 : Int32))), .val (.int (1 : Int32)), .unset, .unset, .unset] [])) _
      refine st31 _ ?_
      show Steps p.tables e below (T31.setTop (mkF m 41 #[.val (.int p0), .val (.int p1), .val (.int p2), .val (.int p3), .val (.int p4), .val (.int p5), .val (.int (p0 &&& (2147483647 : Int32))), .val (.int (p1 &&& (2147483647 : Int32))), .val (.int (p2 &&& (2147483647 : Int32))), .val (.int (p3 &&& (2147483647 : Int32))), .val (.int (1 : Int32)), .unset, .unset, .unset] [(.ref b31)])) _
      refine XS.dup X31.here hx rfl (hb hby at_41) rfl rfl ?_
      show Steps p.tables e below (T31.setTop (mkF m 42 #[.val (.int p0), .val (.int p1), .val (.int p2), .val (.int p3), .val (.int p4), .val (.int p5), .val (.int (p0 &&& (2147483647 : Int32))), .val (.int (p1 &&& (2147483647 : Int32))), .val (.int (p2 &&& (2147483647 : Int32))), .val (.int (p3 &&& (2147483647 : Int32))), .val (.int (1 : Int32)), .unset, .unset, .unset] [(.ref b31), (.ref b31)])) _
      refine st33 _ ?_
      show Steps p.tables e below (T33.setTop (mkF m 44 #[.val (.int p0), .val (.int p1), .val (.int p2), .val (.int p3), .val (.int p4), .val (.int p5), .val (.int (p0 &&& (2147483647 : Int32))), .val (.int (p1 &&& (2147483647 : Int32))), .val (.int (p2 &&& (2147483647 : Int32))), .val (.int (p3 &&& (2147483647 : Int32))), .val (.int (1 : Int32)), .unset, .unset, .unset] [(.ref s33), (.ref b31), (.ref b31)])) _
      refine XS.iload X33.here hx rfl (hb hby at_44) rfl ?_
      show Steps p.tables e below (T33.setTop (mkF m 46 #[.val (.int p0), .val (.int p1), .val (.int p2), .val (.int p3), .val (.int p4), .val (.int p5), .val (.int (p0 &&& (2147483647 : Int32))), .val (.int (p1 &&& (2147483647 : Int32))), .val (.int (p2 &&& (2147483647 : Int32))), .val (.int (p3 &&& (2147483647 : Int32))), .val (.int (1 : Int32)), .unset, .unset, .unset] [(.int p4), (.ref s33), (.ref b31), (.ref b31)])) _
      refine XS.iload X33.here hx rfl (hb hby at_46) rfl ?_
      show Steps p.tables e below (T33.setTop (mkF m 48 #[.val (.int p0), .val (.int p1), .val (.int p2), .val (.int p3), .val (.int p4), .val (.int p5), .val (.int (p0 &&& (2147483647 : Int32))), .val (.int (p1 &&& (2147483647 : Int32))), .val (.int (p2 &&& (2147483647 : Int32))), .val (.int (p3 &&& (2147483647 : Int32))), .val (.int (1 : Int32)), .unset, .unset, .unset] [(.int p5), (.int p4), (.ref s33), (.ref b31), (.ref b31)])) _
      refine XS.iload X33.here hx rfl (hb hby at_48) rfl ?_
      show Steps p.tables e below (T33.setTop (mkF m 50 #[.val (.int p0), .val (.int p1), .val (.int p2), .val (.int p3), .val (.int p4), .val (.int p5), .val (.int (p0 &&& (2147483647 : Int32))), .val (.int (p1 &&& (2147483647 : Int32))), .val (.int (p2 &&& (2147483647 : Int32))), .val (.int (p3 &&& (2147483647 : Int32))), .val (.int (1 : Int32)), .unset, .unset, .unset] [(.int (p0 &&& (2147483647 : Int32))), (.int p5), (.int p4), (.ref s33), (.ref b31), (.ref b31)])) _
      refine XS.iload X33.here hx rfl (hb hby at_50) rfl ?_
      show Steps p.tables e below (T33.setTop (mkF m 52 #[.val (.int p0), .val (.int p1), .val (.int p2), .val (.int p3), .val (.int p4), .val (.int p5), .val (.int (p0 &&& (2147483647 : Int32))), .val (.int (p1 &&& (2147483647 : Int32))), .val (.int (p2 &&& (2147483647 : Int32))), .val (.int (p3 &&& (2147483647 : Int32))), .val (.int (1 : Int32)), .unset, .unset, .unset] [(.int (p1 &&& (2147483647 : Int32))), (.int (p0 &&& (2147483647 : Int32))), (.int p5), (.int p4), (.ref s33), (.ref b31), (.ref b31)])) _
      refine XS.iload X33.here hx rfl (hb hby at_52) rfl ?_
      show Steps p.tables e below (T33.setTop (mkF m 54 #[.val (.int p0), .val (.int p1), .val (.int p2), .val (.int p3), .val (.int p4), .val (.int p5), .val (.int (p0 &&& (2147483647 : Int32))), .val (.int (p1 &&& (2147483647 : Int32))), .val (.int (p2 &&& (2147483647 : Int32))), .val (.int (p3 &&& (2147483647 : Int32))), .val (.int (1 : Int32)), .unset, .unset, .unset] [(.int p4), (.int (p1 &&& (2147483647 : Int32))), (.int (p0 &&& (2147483647 : Int32))), (.int p5), (.int p4), (.ref s33), (.ref b31), (.ref b31)])) _
      refine XS.iload X33.here hx rfl (hb hby at_54) rfl ?_
      show Steps p.tables e below (T33.setTop (mkF m 56 #[.val (.int p0), .val (.int p1), .val (.int p2), .val (.int p3), .val (.int p4), .val (.int p5), .val (.int (p0 &&& (2147483647 : Int32))), .val (.int (p1 &&& (2147483647 : Int32))), .val (.int (p2 &&& (2147483647 : Int32))), .val (.int (p3 &&& (2147483647 : Int32))), .val (.int (1 : Int32)), .unset, .unset, .unset] [(.int (1 : Int32)), (.int p4), (.int (p1 &&& (2147483647 : Int32))), (.int (p0 &&& (2147483647 : Int32))), (.int p5), (.int p4), (.ref s33), (.ref b31), (.ref b31)])) _
      refine st34.trans ?_
      show Steps p.tables e below (T34.setTop (mkF m 59 #[.val (.int p0), .val (.int p1), .val (.int p2), .val (.int p3), .val (.int p4), .val (.int p5), .val (.int (p0 &&& (2147483647 : Int32))), .val (.int (p1 &&& (2147483647 : Int32))), .val (.int (p2 &&& (2147483647 : Int32))), .val (.int (p3 &&& (2147483647 : Int32))), .val (.int (1 : Int32)), .unset, .unset, .unset] [(.ref b31)])) _
      refine XS.astore X34.here hx rfl (hb hby at_59) rfl rfl (l' := #[.val (.int p0), .val (.int p1), .val (.int p2), .val (.int p3), .val (.int p4), .val (.int p5), .val (.int (p0 &&& (2147483647 : Int32))), .val (.int (p1 &&& (2147483647 : Int32))), .val (.int (p2 &&& (2147483647 : Int32))), .val (.int (p3 &&& (2147483647 : Int32))), .val (.int (1 : Int32)), .val (.ref b31), .unset, .unset]) rfl ?_
      show Steps p.tables e below (T34.setTop (mkF m 61 #[.val (.int p0), .val (.int p1), .val (.int p2), .val (.int p3), .val (.int p4), .val (.int p5), .val (.int (p0 &&& (2147483647 : Int32))), .val (.int (p1 &&& (2147483647 : Int32))), .val (.int (p2 &&& (2147483647 : Int32))), .val (.int (p3 &&& (2147483647 : Int32))), .val (.int (1 : Int32)), .val (.ref b31), .unset, .unset] [])) _
      refine XS.iload X34.here hx rfl (hb hby at_61) rfl ?_
      show Steps p.tables e below (T34.setTop (mkF m 63 #[.val (.int p0), .val (.int p1), .val (.int p2), .val (.int p3), .val (.int p4), .val (.int p5), .val (.int (p0 &&& (2147483647 : Int32))), .val (.int (p1 &&& (2147483647 : Int32))), .val (.int (p2 &&& (2147483647 : Int32))), .val (.int (p3 &&& (2147483647 : Int32))), .val (.int (1 : Int32)), .val (.ref b31), .unset, .unset] [(.int (p2 &&& (2147483647 : Int32)))])) _
      refine XS.iload X34.here hx rfl (hb hby at_63) rfl ?_
      show Steps p.tables e below (T34.setTop (mkF m 65 #[.val (.int p0), .val (.int p1), .val (.int p2), .val (.int p3), .val (.int p4), .val (.int p5), .val (.int (p0 &&& (2147483647 : Int32))), .val (.int (p1 &&& (2147483647 : Int32))), .val (.int (p2 &&& (2147483647 : Int32))), .val (.int (p3 &&& (2147483647 : Int32))), .val (.int (1 : Int32)), .val (.ref b31), .unset, .unset] [(.int (p0 &&& (2147483647 : Int32))), (.int (p2 &&& (2147483647 : Int32)))])) _
      refine st35 _ ?_
      show Steps p.tables e below (T35.setTop (mkF m 68 #[.val (.int p0), .val (.int p1), .val (.int p2), .val (.int p3), .val (.int p4), .val (.int p5), .val (.int (p0 &&& (2147483647 : Int32))), .val (.int (p1 &&& (2147483647 : Int32))), .val (.int (p2 &&& (2147483647 : Int32))), .val (.int (p3 &&& (2147483647 : Int32))), .val (.int (1 : Int32)), .val (.ref b31), .unset, .unset] [(.long (F_sq (p2 &&& (2147483647 : Int32)) (p0 &&& (2147483647 : Int32))))])) _
      refine XS.iload X35.here hx rfl (hb hby at_68) rfl ?_
      show Steps p.tables e below (T35.setTop (mkF m 70 #[.val (.int p0), .val (.int p1), .val (.int p2), .val (.int p3), .val (.int p4), .val (.int p5), .val (.int (p0 &&& (2147483647 : Int32))), .val (.int (p1 &&& (2147483647 : Int32))), .val (.int (p2 &&& (2147483647 : Int32))), .val (.int (p3 &&& (2147483647 : Int32))), .val (.int (1 : Int32)), .val (.ref b31), .unset, .unset] [(.int (p3 &&& (2147483647 : Int32))), (.long (F_sq (p2 &&& (2147483647 : Int32)) (p0 &&& (2147483647 : Int32))))])) _
      refine XS.iload X35.here hx rfl (hb hby at_70) rfl ?_
      show Steps p.tables e below (T35.setTop (mkF m 72 #[.val (.int p0), .val (.int p1), .val (.int p2), .val (.int p3), .val (.int p4), .val (.int p5), .val (.int (p0 &&& (2147483647 : Int32))), .val (.int (p1 &&& (2147483647 : Int32))), .val (.int (p2 &&& (2147483647 : Int32))), .val (.int (p3 &&& (2147483647 : Int32))), .val (.int (1 : Int32)), .val (.ref b31), .unset, .unset] [(.int (p1 &&& (2147483647 : Int32))), (.int (p3 &&& (2147483647 : Int32))), (.long (F_sq (p2 &&& (2147483647 : Int32)) (p0 &&& (2147483647 : Int32))))])) _
      refine st36 _ ?_
      show Steps p.tables e below (T36.setTop (mkF m 75 #[.val (.int p0), .val (.int p1), .val (.int p2), .val (.int p3), .val (.int p4), .val (.int p5), .val (.int (p0 &&& (2147483647 : Int32))), .val (.int (p1 &&& (2147483647 : Int32))), .val (.int (p2 &&& (2147483647 : Int32))), .val (.int (p3 &&& (2147483647 : Int32))), .val (.int (1 : Int32)), .val (.ref b31), .unset, .unset] [(.long (F_sq (p3 &&& (2147483647 : Int32)) (p1 &&& (2147483647 : Int32)))), (.long (F_sq (p2 &&& (2147483647 : Int32)) (p0 &&& (2147483647 : Int32))))])) _
      refine XS.ladd X36.here hx rfl (hb hby at_75) rfl ?_
      show Steps p.tables e below (T36.setTop (mkF m 76 #[.val (.int p0), .val (.int p1), .val (.int p2), .val (.int p3), .val (.int p4), .val (.int p5), .val (.int (p0 &&& (2147483647 : Int32))), .val (.int (p1 &&& (2147483647 : Int32))), .val (.int (p2 &&& (2147483647 : Int32))), .val (.int (p3 &&& (2147483647 : Int32))), .val (.int (1 : Int32)), .val (.ref b31), .unset, .unset] [(.long ((F_sq (p2 &&& (2147483647 : Int32)) (p0 &&& (2147483647 : Int32))) + (F_sq (p3 &&& (2147483647 : Int32)) (p1 &&& (2147483647 : Int32)))))])) _
      refine XS.lstore X36.here hx rfl (hb hby at_76) rfl (l' := #[.val (.int p0), .val (.int p1), .val (.int p2), .val (.int p3), .val (.int p4), .val (.int p5), .val (.int (p0 &&& (2147483647 : Int32))), .val (.int (p1 &&& (2147483647 : Int32))), .val (.int (p2 &&& (2147483647 : Int32))), .val (.int (p3 &&& (2147483647 : Int32))), .val (.int (1 : Int32)), .val (.ref b31), .val (.long ((F_sq (p2 &&& (2147483647 : Int32)) (p0 &&& (2147483647 : Int32))) + (F_sq (p3 &&& (2147483647 : Int32)) (p1 &&& (2147483647 : Int32))))), .second]) rfl ?_
      show Steps p.tables e below (T36.setTop (mkF m 78 #[.val (.int p0), .val (.int p1), .val (.int p2), .val (.int p3), .val (.int p4), .val (.int p5), .val (.int (p0 &&& (2147483647 : Int32))), .val (.int (p1 &&& (2147483647 : Int32))), .val (.int (p2 &&& (2147483647 : Int32))), .val (.int (p3 &&& (2147483647 : Int32))), .val (.int (1 : Int32)), .val (.ref b31), .val (.long ((F_sq (p2 &&& (2147483647 : Int32)) (p0 &&& (2147483647 : Int32))) + (F_sq (p3 &&& (2147483647 : Int32)) (p1 &&& (2147483647 : Int32))))), .second] [])) _
      refine XS.aload X36.here hx rfl (hb hby at_78) rfl rfl ?_
      show Steps p.tables e below (T36.setTop (mkF m 80 #[.val (.int p0), .val (.int p1), .val (.int p2), .val (.int p3), .val (.int p4), .val (.int p5), .val (.int (p0 &&& (2147483647 : Int32))), .val (.int (p1 &&& (2147483647 : Int32))), .val (.int (p2 &&& (2147483647 : Int32))), .val (.int (p3 &&& (2147483647 : Int32))), .val (.int (1 : Int32)), .val (.ref b31), .val (.long ((F_sq (p2 &&& (2147483647 : Int32)) (p0 &&& (2147483647 : Int32))) + (F_sq (p3 &&& (2147483647 : Int32)) (p1 &&& (2147483647 : Int32))))), .second] [(.ref b31)])) _
      refine XS.iload X36.here hx rfl (hb hby at_80) rfl ?_
      show Steps p.tables e below (T36.setTop (mkF m 82 #[.val (.int p0), .val (.int p1), .val (.int p2), .val (.int p3), .val (.int p4), .val (.int p5), .val (.int (p0 &&& (2147483647 : Int32))), .val (.int (p1 &&& (2147483647 : Int32))), .val (.int (p2 &&& (2147483647 : Int32))), .val (.int (p3 &&& (2147483647 : Int32))), .val (.int (1 : Int32)), .val (.ref b31), .val (.long ((F_sq (p2 &&& (2147483647 : Int32)) (p0 &&& (2147483647 : Int32))) + (F_sq (p3 &&& (2147483647 : Int32)) (p1 &&& (2147483647 : Int32))))), .second] [(.int (p2 &&& (2147483647 : Int32))), (.ref b31)])) _
      refine XS.iload X36.here hx rfl (hb hby at_82) rfl ?_
      show Steps p.tables e below (T36.setTop (mkF m 84 #[.val (.int p0), .val (.int p1), .val (.int p2), .val (.int p3), .val (.int p4), .val (.int p5), .val (.int (p0 &&& (2147483647 : Int32))), .val (.int (p1 &&& (2147483647 : Int32))), .val (.int (p2 &&& (2147483647 : Int32))), .val (.int (p3 &&& (2147483647 : Int32))), .val (.int (1 : Int32)), .val (.ref b31), .val (.long ((F_sq (p2 &&& (2147483647 : Int32)) (p0 &&& (2147483647 : Int32))) + (F_sq (p3 &&& (2147483647 : Int32)) (p1 &&& (2147483647 : Int32))))), .second] [(.int (p3 &&& (2147483647 : Int32))), (.int (p2 &&& (2147483647 : Int32))), (.ref b31)])) _
      refine st37.trans ?_
      show Steps p.tables e below (T37.setTop (mkF m 87 #[.val (.int p0), .val (.int p1), .val (.int p2), .val (.int p3), .val (.int p4), .val (.int p5), .val (.int (p0 &&& (2147483647 : Int32))), .val (.int (p1 &&& (2147483647 : Int32))), .val (.int (p2 &&& (2147483647 : Int32))), .val (.int (p3 &&& (2147483647 : Int32))), .val (.int (1 : Int32)), .val (.ref b31), .val (.long ((F_sq (p2 &&& (2147483647 : Int32)) (p0 &&& (2147483647 : Int32))) + (F_sq (p3 &&& (2147483647 : Int32)) (p1 &&& (2147483647 : Int32))))), .second] [(.long (F_sd (p2 &&& (2147483647 : Int32)) (p3 &&& (2147483647 : Int32)) (p0 &&& (2147483647 : Int32)) (p1 &&& (2147483647 : Int32))))])) _
      refine XS.lload X37.here hx rfl (hb hby at_87) rfl ?_
      show Steps p.tables e below (T37.setTop (mkF m 89 #[.val (.int p0), .val (.int p1), .val (.int p2), .val (.int p3), .val (.int p4), .val (.int p5), .val (.int (p0 &&& (2147483647 : Int32))), .val (.int (p1 &&& (2147483647 : Int32))), .val (.int (p2 &&& (2147483647 : Int32))), .val (.int (p3 &&& (2147483647 : Int32))), .val (.int (1 : Int32)), .val (.ref b31), .val (.long ((F_sq (p2 &&& (2147483647 : Int32)) (p0 &&& (2147483647 : Int32))) + (F_sq (p3 &&& (2147483647 : Int32)) (p1 &&& (2147483647 : Int32))))), .second] [(.long ((F_sq (p2 &&& (2147483647 : Int32)) (p0 &&& (2147483647 : Int32))) + (F_sq (p3 &&& (2147483647 : Int32)) (p1 &&& (2147483647 : Int32))))), (.long (F_sd (p2 &&& (2147483647 : Int32)) (p3 &&& (2147483647 : Int32)) (p0 &&& (2147483647 : Int32)) (p1 &&& (2147483647 : Int32))))])) _
      refine XS.lcmp X37.here hx rfl (hb hby at_89) rfl ?_
      exact k)
    by_cases hc90_38 : (lcmpW (F_sd (p2 &&& (2147483647 : Int32)) (p3 &&& (2147483647 : Int32)) (p0 &&& (2147483647 : Int32)) (p1 &&& (2147483647 : Int32))) ((F_sq (p2 &&& (2147483647 : Int32)) (p0 &&& (2147483647 : Int32))) + (F_sq (p3 &&& (2147483647 : Int32)) (p1 &&& (2147483647 : Int32))))) = (0 : Int32)
    · obtain ⟨fs, hr, hrun, hended, hE⟩ := X37.leaveW hS33 (by rw [e37]; exact hk34) (v := some (.int (1 : Int32))) (fun h => by rw [Bd.returns] at h; cases h)
      refine ⟨_, _, pre39 _ ?_, hrun, hended, _, _, rfl, ?_, own_wmono hE (by decide) (by decide)⟩
      · show Steps p.tables e below (T37.setTop (mkF m 90 #[.val (.int p0), .val (.int p1), .val (.int p2), .val (.int p3), .val (.int p4), .val (.int p5), .val (.int (p0 &&& (2147483647 : Int32))), .val (.int (p1 &&& (2147483647 : Int32))), .val (.int (p2 &&& (2147483647 : Int32))), .val (.int (p3 &&& (2147483647 : Int32))), .val (.int (1 : Int32)), .val (.ref b31), .val (.long ((F_sq (p2 &&& (2147483647 : Int32)) (p0 &&& (2147483647 : Int32))) + (F_sq (p3 &&& (2147483647 : Int32)) (p1 &&& (2147483647 : Int32))))), .second] [(.int (lcmpW (F_sd (p2 &&& (2147483647 : Int32)) (p3 &&& (2147483647 : Int32)) (p0 &&& (2147483647 : Int32)) (p1 &&& (2147483647 : Int32))) ((F_sq (p2 &&& (2147483647 : Int32)) (p0 &&& (2147483647 : Int32))) + (F_sq (p3 &&& (2147483647 : Int32)) (p1 &&& (2147483647 : Int32))))))])) _
        refine XS.ifNo X37.here hx rfl (hb hby at_90) rfl ((if0 _ _).trans (teq hc90_38).2) ?_
        show Steps p.tables e below (T37.setTop (mkF m 93 #[.val (.int p0), .val (.int p1), .val (.int p2), .val (.int p3), .val (.int p4), .val (.int p5), .val (.int (p0 &&& (2147483647 : Int32))), .val (.int (p1 &&& (2147483647 : Int32))), .val (.int (p2 &&& (2147483647 : Int32))), .val (.int (p3 &&& (2147483647 : Int32))), .val (.int (1 : Int32)), .val (.ref b31), .val (.long ((F_sq (p2 &&& (2147483647 : Int32)) (p0 &&& (2147483647 : Int32))) + (F_sq (p3 &&& (2147483647 : Int32)) (p1 &&& (2147483647 : Int32))))), .second] [])) _
        refine XS.iconst X37.here hx rfl (hb hby at_93) ?_
        show Steps p.tables e below (T37.setTop (mkF m 94 #[.val (.int p0), .val (.int p1), .val (.int p2), .val (.int p3), .val (.int p4), .val (.int p5), .val (.int (p0 &&& (2147483647 : Int32))), .val (.int (p1 &&& (2147483647 : Int32))), .val (.int (p2 &&& (2147483647 : Int32))), .val (.int (p3 &&& (2147483647 : Int32))), .val (.int (1 : Int32)), .val (.ref b31), .val (.long ((F_sq (p2 &&& (2147483647 : Int32)) (p0 &&& (2147483647 : Int32))) + (F_sq (p3 &&& (2147483647 : Int32)) (p1 &&& (2147483647 : Int32))))), .second] [(.int (1 : Int32))])) _
        refine XS.goto X37.here hx rfl (pc0 := 94) (pc' := 98) rfl (hb hby at_94) (by decide) (by decide) ?_
        show Steps p.tables e below (T37.setTop (mkF m 98 #[.val (.int p0), .val (.int p1), .val (.int p2), .val (.int p3), .val (.int p4), .val (.int p5), .val (.int (p0 &&& (2147483647 : Int32))), .val (.int (p1 &&& (2147483647 : Int32))), .val (.int (p2 &&& (2147483647 : Int32))), .val (.int (p3 &&& (2147483647 : Int32))), .val (.int (1 : Int32)), .val (.ref b31), .val (.long ((F_sq (p2 &&& (2147483647 : Int32)) (p0 &&& (2147483647 : Int32))) + (F_sq (p3 &&& (2147483647 : Int32)) (p1 &&& (2147483647 : Int32))))), .second] [(.int (1 : Int32))])) _
        exact retN X37 hx (t := .boolean) Bd.returns (by simp) (hb hby at_98) hr
      · show Q_law Z p0 p1 p2 p3 p4 p5 h0 n0 _ T37.heap _
        refine ⟨?_, N37, trivial⟩
        rw [F_law, if_neg hc28_20, if_pos hc90_38]
    · obtain ⟨fs, hr, hrun, hended, hE⟩ := X37.leaveW hS33 (by rw [e37]; exact hk34) (v := some (.int (0 : Int32))) (fun h => by rw [Bd.returns] at h; cases h)
      refine ⟨_, _, pre39 _ ?_, hrun, hended, _, _, rfl, ?_, own_wmono hE (by decide) (by decide)⟩
      · show Steps p.tables e below (T37.setTop (mkF m 90 #[.val (.int p0), .val (.int p1), .val (.int p2), .val (.int p3), .val (.int p4), .val (.int p5), .val (.int (p0 &&& (2147483647 : Int32))), .val (.int (p1 &&& (2147483647 : Int32))), .val (.int (p2 &&& (2147483647 : Int32))), .val (.int (p3 &&& (2147483647 : Int32))), .val (.int (1 : Int32)), .val (.ref b31), .val (.long ((F_sq (p2 &&& (2147483647 : Int32)) (p0 &&& (2147483647 : Int32))) + (F_sq (p3 &&& (2147483647 : Int32)) (p1 &&& (2147483647 : Int32))))), .second] [(.int (lcmpW (F_sd (p2 &&& (2147483647 : Int32)) (p3 &&& (2147483647 : Int32)) (p0 &&& (2147483647 : Int32)) (p1 &&& (2147483647 : Int32))) ((F_sq (p2 &&& (2147483647 : Int32)) (p0 &&& (2147483647 : Int32))) + (F_sq (p3 &&& (2147483647 : Int32)) (p1 &&& (2147483647 : Int32))))))])) _
        refine XS.ifYes X37.here hx rfl (pc0 := 90) (pc' := 97) rfl (hb hby at_90) rfl ((if0 _ _).trans (feq hc90_38).2) (by decide) (by decide) ?_
        show Steps p.tables e below (T37.setTop (mkF m 97 #[.val (.int p0), .val (.int p1), .val (.int p2), .val (.int p3), .val (.int p4), .val (.int p5), .val (.int (p0 &&& (2147483647 : Int32))), .val (.int (p1 &&& (2147483647 : Int32))), .val (.int (p2 &&& (2147483647 : Int32))), .val (.int (p3 &&& (2147483647 : Int32))), .val (.int (1 : Int32)), .val (.ref b31), .val (.long ((F_sq (p2 &&& (2147483647 : Int32)) (p0 &&& (2147483647 : Int32))) + (F_sq (p3 &&& (2147483647 : Int32)) (p1 &&& (2147483647 : Int32))))), .second] [])) _
        refine XS.iconst X37.here hx rfl (hb hby at_97) ?_
        show Steps p.tables e below (T37.setTop (mkF m 98 #[.val (.int p0), .val (.int p1), .val (.int p2), .val (.int p3), .val (.int p4), .val (.int p5), .val (.int (p0 &&& (2147483647 : Int32))), .val (.int (p1 &&& (2147483647 : Int32))), .val (.int (p2 &&& (2147483647 : Int32))), .val (.int (p3 &&& (2147483647 : Int32))), .val (.int (1 : Int32)), .val (.ref b31), .val (.long ((F_sq (p2 &&& (2147483647 : Int32)) (p0 &&& (2147483647 : Int32))) + (F_sq (p3 &&& (2147483647 : Int32)) (p1 &&& (2147483647 : Int32))))), .second] [(.int (0 : Int32))])) _
        exact retN X37 hx (t := .boolean) Bd.returns (by simp) (hb hby at_98) hr
      · show Q_law Z p0 p1 p2 p3 p4 p5 h0 n0 _ T37.heap _
        refine ⟨?_, N37, trivial⟩
        rw [F_law, if_neg hc28_20, if_neg hc90_38]
theorem own_nn (x : Int32) : 0 ≤ (x &&& (2147483647 : Int32)).toInt := by
  have e1 : (x &&& (2147483647 : Int32)).toInt = x.toInt % 2 ^ 31 := Jvm.Kit.i32_mask x 2147483647 (k := 31) (by decide) (by decide)
  rw [e1]; omega
theorem own_sq (x m : Int32) (hx : 0 ≤ x.toInt) (hm : 0 ≤ m.toInt) : (x.toInt64 - m.toInt64) * (x.toInt64 - m.toInt64) = F_sq x m := by
  have a1 := x.toInt_lt; have a2 := m.toInt_lt
  have b1 := Jvm.Kit.i64_of_i32 x; have b2 := Jvm.Kit.i64_of_i32 m
  have c1 : (x.toInt64 - m.toInt64).toInt = x.toInt - m.toInt := by rw [Jvm.Kit.i64_sub (by omega) (by omega), b1, b2]
  unfold F_sq
  split
  · have d1 : (m - x).toInt = m.toInt - x.toInt := Jvm.Kit.i32_sub (by omega) (by omega)
    have d2 : (m - x).toInt64.toInt = m.toInt - x.toInt := by rw [Jvm.Kit.i64_of_i32, d1]
    rw [← Int64.toInt_inj, Int64.toInt_mul, Int64.toInt_mul, c1, d2]
    congr 1
    rw [← Int.neg_sub m.toInt x.toInt, Int.neg_mul_neg]
  · have d1 : (x - m).toInt = x.toInt - m.toInt := Jvm.Kit.i32_sub (by omega) (by omega)
    have d2 : (x - m).toInt64.toInt = x.toInt - m.toInt := by rw [Jvm.Kit.i64_of_i32, d1]
    rw [← Int64.toInt_inj, Int64.toInt_mul, Int64.toInt_mul, c1, d2]
theorem own_lc (x : Int64) : lcmpW x x = 0 := by simp [lcmpW]
theorem own_law (p0 : Int32) (p1 : Int32) (p2 : Int32) (p3 : Int32) (p5 : Int32) : F_law p0 p1 p2 p3 p5 = 1 := by
  unfold F_law F_sd
  rw [own_sq _ _ (own_nn _) (own_nn _), own_sq _ _ (own_nn _) (own_nn _), own_lc]
  simp
set_option maxRecDepth 65536 in
set_option maxHeartbeats 40000000 in
theorem own_comes {Post : Tables → Env → Array Value → State → Outcome → State → Prop} (hpost : ∀ tb e args s v u, (limb_1_1.after args s (.returned v) u = true ∧ limb_1_2.after args s (.returned v) u = true ∧ True) → ReturnedEndW s (.returned v) u (Jvm.fieldLocs frame_1_writes args s ++ Jvm.arrayLocs frame_1_arrays args s ++ Jvm.staticLocs frame_1_statics s) 16 1152 → Post tb e args s (.returned v) u) :
    ArmFor flags0 classFile x code maxLocals ret World_1 tables_1 room_1 Calls_1 rest_1 Pre_1 Post := by
  intro l hfl _ _ p e ha hc hk s m args below hf hA hF happ hP
  obtain ⟨hcalls, hrest, hpre⟩ := hP
  obtain ⟨-, -, -, hnamed, -, -, -, hat⟩ := (Spec.applies_iff hf).mp happ
  obtain ⟨hg, hn⟩ := and_e (Cond.before_iff.mp (show (Jvm.Cond.and given_1 narrow_1).before args s = true from hpre))
  obtain ⟨g1, g1'⟩ := and_e hg
  obtain ⟨g2, g2'⟩ := and_e g1'
  obtain ⟨g3, g3'⟩ := and_e g2'
  obtain ⟨g4, g4'⟩ := and_e g3'
  obtain ⟨g5, g5'⟩ := and_e g4'
  obtain ⟨g6, g6'⟩ := and_e g5'
  obtain ⟨u0, u1, u2, u3, u4, u5, rfl⟩ : ∃ u0 u1 u2 u3 u4 u5 : Value, args = #[u0, u1, u2, u3, u4, u5] := by
    have hs : args.size = 6 := by simpa [Cond.value, given_1] using g1
    obtain ⟨L⟩ := args
    match L, hs with
    | [u0, u1, u2, u3, u4, u5], _ => exact ⟨u0, u1, u2, u3, u4, u5, rfl⟩
  have hw := fun d (hd : d ∈ tables_1) => atoms_spec (ws := Jvm.Cond.code x code maxLocals ret :: tables_1) hat d (List.mem_cons_of_mem _ hd)
  obtain ⟨i0, ei0⟩ := is_v g2
  obtain rfl : u0 = (.int i0) := Option.some.inj ei0
  obtain ⟨i1, ei1⟩ := is_v g3
  obtain rfl : u1 = (.int i1) := Option.some.inj ei1
  obtain ⟨i2, ei2⟩ := is_v g4
  obtain rfl : u2 = (.int i2) := Option.some.inj ei2
  obtain ⟨i3, ei3⟩ := is_v g5
  obtain rfl : u3 = (.int i3) := Option.some.inj ei3
  obtain ⟨i4, ei4⟩ := is_v g6
  obtain rfl : u4 = (.int i4) := Option.some.inj ei4
  obtain ⟨i5, ei5⟩ := is_v g6'
  obtain rfl : u5 = (.int i5) := Option.some.inj ei5
  have hlaw := own_law i0 i1 i2 i3 i5
  obtain ⟨n, o, h1, h2, h3, v, L, rfl, ⟨hv, N, -⟩, hq⟩ := rm_law l s _ hw tables_1 i0 i1 i2 i3 i4 i5 s.heap s.heap.size (Nat.le_refl _) p e ha hc hk s m _ below hf ((Spec.applies_iff_loose hf).mp happ).1 ⟨rfl, State.Warmed39.refl s, rfl, rfl⟩ trivial
  rw [hlaw] at hv
  subst hv
  refine ⟨n, _, h1, h2, h3, hpost _ _ _ _ _ _ ⟨Cond.after_iff.mpr rfl, Cond.after_iff.mpr (eq_i res_at (Term.int_eval (1)) rfl), trivial⟩ ⟨hq.1, hq.2.1, hq.2.2.1, (hq.2.2.2.sift fun y hy => Or.inr (N y hy)).mono (by decide) (by decide)⟩⟩
theorem main_1_1 : Claimed_1_1 := own_comes fun _ _ _ _ _ _ h hF => ⟨h.1, hF⟩
theorem main_1_2 : Claimed_1_2 := own_comes fun _ _ _ _ _ _ h hF => ⟨h.2.1, hF⟩
end Jvm.Pilot.@@N@@
namespace Jvm.Pilot.@@N@@
open Jvm Jvm.ClassFile Sem Op Lib Jvm.Free Jvm.Stand Jvm.Pilot.@@N@@.Jvm.D
/-! MADE BY PROGRAM (witnessworld.py) out of the Statement's table words and the real class files: 14 classes; the members and pool entries that the words name. The judged class is class 1, her method 2. -/
namespace start1
open Jvm.ClassFile
def u (s : String) : CpInfo := .utf8 (stringToUtf16 s)
/-- a pool by its gaps: so many unusable entries, then the entry; so many at the end -/
def gap : Nat → List CpInfo → List CpInfo
  | 0, r => r
  | n + 1, r => .unusable :: gap n r
def poolList (es : List (Nat × CpInfo)) (last : Nat) : List CpInfo := es.foldr (fun e r => gap e.1 (e.2 :: r)) (gap last [])
def pool (es : List (Nat × CpInfo)) (last : Nat) : Array CpInfo := ⟨poolList es last⟩
def fileOf (pool : Array CpInfo) (this : Nat) (attrs : Array Attribute := #[]) (ms : Array MethodInfo := #[]) (fl : Nat := 33) (sup : Nat := 0) (ifs : Array Nat := #[]) (fds : Array FieldInfo := #[]) : ClassFile where
  minorVersion := 0
  majorVersion := 65
  constantPool := pool
  accessFlags := fl
  thisClass := this
  superClass := sup
  interfaces := ifs
  fields := fds
  methods := ms
  attributes := attrs
def plain (name : String) (sup : Option ClassId) : Class where
  name := name
  kind := .ordinary
  loader := none
  accessFlags := 33
  super := sup
  interfaces := #[]
  cf := none
  fields := #[]
  methods := #[]
  instanceTypes := #[]
  staticTypes := #[]
  resolved := #[]
  callSites := []
  init := .initialized
  statics := none
  mirror := none

def pool0 : Array CpInfo := pool [(5, u "<init>"), (0, u "()V"), (1, .class_ 10), (1, u "java/lang/Object")] 113

def k0c0 : Code := { maxStack := 0, maxLocals := 1, code := object_method_1_code, exceptionTable := #[], attributes := #[] }
def k0m0 : Method := { name := "<init>", desc := "()V", sig := { parameters := [], returnType := none }, accessFlags := 1, code := some k0c0 }
/-- java/lang/Object -/
def k0 : Class := { plain "java/lang/Object" none with
  accessFlags := 33
  interfaces := #[]
  cf := some (fileOf pool0 8 #[] #[{ accessFlags := 1, nameIndex := 5, descriptorIndex := 6, attributes := #[] }] 33 0 #[] #[])
  fields := #[]
  methods := #[k0m0]
  instanceTypes := #[]
  staticTypes := #[]
  resolved := Array.replicate 124 none
  statics := none }

def pool1 : Array CpInfo := pool [(2, .class_ 4), (1, u "java/lang/Object"), (0, u "<init>"), (0, u "()V"), (0, .integer 2147483647), (0, .class_ 9), (0, u "com/example/entry_to_apps/entrytoapps/GridProfile"), (0, .string 11), (0, u "p"), (0, .methodref 8 13), (0, .nameAndType 5 14), (0, u "(Ljava/lang/String;IIIIIZ)V"), (0, .methodref 16 17), (0, .class_ 18), (0, .nameAndType 19 20), (0, u "com/example/entry_to_apps/entrytoapps/GridProfileSquaredDistancePinLaw"), (0, u "sq"), (0, u "(II)J"), (0, .methodref 8 22), (0, .nameAndType 23 20), (0, u "squaredDistance"), (3, u "law"), (0, u "(IIIIII)Z")] 2

def k1m0 : Method := { name := "<init>", desc := "()V", sig := { parameters := [], returnType := none }, accessFlags := 1, code := none }
def k1c1 : Code := { maxStack := 4, maxLocals := 5, code := method_2_code, exceptionTable := #[], attributes := #[] }
def k1m1 : Method := { name := "sq", desc := "(II)J", sig := { parameters := [.int, .int], returnType := some .long }, accessFlags := 10, code := some k1c1 }
def k1c2 : Code := { maxStack := 9, maxLocals := 14, code := code, exceptionTable := #[], attributes := #[] }
def k1m2 : Method := { name := "law", desc := "(IIIIII)Z", sig := { parameters := [.int, .int, .int, .int, .int, .int], returnType := some .boolean }, accessFlags := 9, code := some k1c2 }
/-- com/example/entry_to_apps/entrytoapps/GridProfileSquaredDistancePinLaw -/
def k1 : Class := { plain "com/example/entry_to_apps/entrytoapps/GridProfileSquaredDistancePinLaw" (some 0) with
  accessFlags := 49
  interfaces := #[]
  cf := some (fileOf pool1 16 #[] #[{ accessFlags := 1, nameIndex := 5, descriptorIndex := 6, attributes := #[] }, { accessFlags := 10, nameIndex := 19, descriptorIndex := 20, attributes := #[] }, { accessFlags := 9, nameIndex := 27, descriptorIndex := 28, attributes := #[] }] 49 2 #[] #[])
  fields := #[]
  methods := #[k1m0, k1m1, k1m2]
  instanceTypes := #[]
  staticTypes := #[]
  resolved := Array.replicate 31 none
  statics := none }

def pool2 : Array CpInfo := pool [(1, .methodref 2 3), (0, .class_ 4), (0, .nameAndType 5 6), (0, u "java/lang/Object"), (0, u "<init>"), (0, u "()V"), (0, .fieldref 8 9), (0, .class_ 10), (0, .nameAndType 11 12), (0, u "com/example/entry_to_apps/entrytoapps/GridProfile"), (0, u "name"), (0, u "Ljava/lang/String;"), (0, .fieldref 8 14), (0, .nameAndType 15 16), (0, u "rows"), (0, u "I"), (0, .fieldref 8 18), (0, .nameAndType 19 16), (0, u "columns"), (0, .fieldref 8 21), (0, .nameAndType 22 16), (0, u "minWidth"), (0, .fieldref 8 24), (0, .nameAndType 25 16), (0, u "minHeight"), (0, .fieldref 8 27), (0, .nameAndType 28 16), (0, u "iconSize"), (0, .fieldref 8 30), (0, .nameAndType 31 32), (0, u "isDefault"), (0, u "Z"), (23, u "(Ljava/lang/String;IIIIIZ)V"), (7, u "squaredDistance"), (0, u "(II)J")] 2

def k2c0 : Code := { maxStack := 2, maxLocals := 8, code := prog_24_method_1_code, exceptionTable := #[], attributes := #[] }
def k2m0 : Method := { name := "<init>", desc := "(Ljava/lang/String;IIIIIZ)V", sig := { parameters := [(.object "java/lang/String"), .int, .int, .int, .int, .int, .boolean], returnType := none }, accessFlags := 0, code := some k2c0 }
def k2c1 : Code := { maxStack := 6, maxLocals := 7, code := prog_24_method_9_code, exceptionTable := #[], attributes := #[] }
def k2m1 : Method := { name := "squaredDistance", desc := "(II)J", sig := { parameters := [.int, .int], returnType := some .long }, accessFlags := 0, code := some k2c1 }
/-- com/example/entry_to_apps/entrytoapps/GridProfile -/
def k2 : Class := { plain "com/example/entry_to_apps/entrytoapps/GridProfile" (some 0) with
  accessFlags := 48
  interfaces := #[]
  cf := some (fileOf pool2 8 #[] #[{ accessFlags := 0, nameIndex := 5, descriptorIndex := 56, attributes := #[] }, { accessFlags := 0, nameIndex := 64, descriptorIndex := 65, attributes := #[] }] 48 2 #[] #[{ accessFlags := 18, nameIndex := 11, descriptorIndex := 12, attributes := #[] }, { accessFlags := 18, nameIndex := 15, descriptorIndex := 16, attributes := #[] }, { accessFlags := 18, nameIndex := 19, descriptorIndex := 16, attributes := #[] }, { accessFlags := 18, nameIndex := 22, descriptorIndex := 16, attributes := #[] }, { accessFlags := 18, nameIndex := 25, descriptorIndex := 16, attributes := #[] }, { accessFlags := 18, nameIndex := 28, descriptorIndex := 16, attributes := #[] }, { accessFlags := 18, nameIndex := 31, descriptorIndex := 32, attributes := #[] }])
  fields := #[{ name := "name", type := (.object "java/lang/String"), accessFlags := 18, slot := 0, constantValue := 0 }, { name := "rows", type := .int, accessFlags := 18, slot := 1, constantValue := 0 }, { name := "columns", type := .int, accessFlags := 18, slot := 2, constantValue := 0 }, { name := "minWidth", type := .int, accessFlags := 18, slot := 3, constantValue := 0 }, { name := "minHeight", type := .int, accessFlags := 18, slot := 4, constantValue := 0 }, { name := "iconSize", type := .int, accessFlags := 18, slot := 5, constantValue := 0 }, { name := "isDefault", type := .boolean, accessFlags := 18, slot := 6, constantValue := 0 }]
  methods := #[k2m0, k2m1]
  instanceTypes := #[(.object "java/lang/String"), .int, .int, .int, .int, .int, .boolean]
  staticTypes := #[]
  resolved := Array.replicate 68 none
  statics := none }

def pool3 : Array CpInfo := pool [(1, .class_ 2), (0, u "java/io/Serializable"), (0, .class_ 4), (0, u "java/lang/Object")] 2

/-- java/io/Serializable -/
def k3 : Class := { plain "java/io/Serializable" (some 0) with
  accessFlags := 1537
  interfaces := #[]
  cf := some (fileOf pool3 1 #[] #[] 1537 3 #[] #[])
  fields := #[]
  methods := #[]
  instanceTypes := #[]
  staticTypes := #[]
  resolved := Array.replicate 7 none
  statics := none }

def pool4 : Array CpInfo := pool [(1, .class_ 2), (0, u "java/lang/Comparable"), (0, .class_ 4), (0, u "java/lang/Object")] 7

/-- java/lang/Comparable -/
def k4 : Class := { plain "java/lang/Comparable" (some 0) with
  accessFlags := 1537
  interfaces := #[]
  cf := some (fileOf pool4 1 #[] #[] 1537 3 #[] #[])
  fields := #[]
  methods := #[]
  instanceTypes := #[]
  staticTypes := #[]
  resolved := Array.replicate 12 none
  statics := none }

def pool5 : Array CpInfo := pool [(2, .class_ 4), (1, u "java/lang/CharSequence"), (42, .class_ 48), (0, u "java/lang/CharSequence$1CodePointIterator"), (10, .class_ 60), (0, u "java/lang/CharSequence$1CharIterator"), (5, .class_ 67), (0, u "java/lang/Object")] 63

/-- java/lang/CharSequence -/
def k5 : Class := { plain "java/lang/CharSequence" (some 0) with
  accessFlags := 1537
  interfaces := #[]
  cf := some (fileOf pool5 2 #[.nestMembers #[47, 59]] #[] 1537 66 #[] #[])
  fields := #[]
  methods := #[]
  instanceTypes := #[]
  staticTypes := #[]
  resolved := Array.replicate 131 none
  statics := none }

def pool6 : Array CpInfo := pool [(1, .class_ 2), (0, u "java/lang/constant/Constable"), (0, .class_ 4), (0, u "java/lang/Object")] 6

/-- java/lang/constant/Constable -/
def k6 : Class := { plain "java/lang/constant/Constable" (some 0) with
  accessFlags := 1537
  interfaces := #[]
  cf := some (fileOf pool6 1 #[] #[] 1537 3 #[] #[])
  fields := #[]
  methods := #[]
  instanceTypes := #[]
  staticTypes := #[]
  resolved := Array.replicate 11 none
  statics := none }

def pool7 : Array CpInfo := pool [(1, .class_ 2), (0, u "java/lang/constant/ConstantDesc"), (0, .class_ 4), (0, u "java/lang/Object")] 32

/-- java/lang/constant/ConstantDesc -/
def k7 : Class := { plain "java/lang/constant/ConstantDesc" (some 0) with
  accessFlags := 1537
  interfaces := #[]
  cf := some (fileOf pool7 1 #[] #[] 1537 3 #[] #[])
  fields := #[]
  methods := #[]
  instanceTypes := #[]
  staticTypes := #[]
  resolved := Array.replicate 37 none
  statics := none }

def pool8 : Array CpInfo := pool [(2, .class_ 4), (1, u "java/lang/Object"), (0, u "<init>"), (0, u "()V"), (3, .class_ 12), (1, u "java/lang/String"), (0, u "value"), (0, u "[B"), (2, u "coder"), (0, u "B"), (2, u "hash"), (0, u "I"), (2, u "hashIsZero"), (0, u "Z"), (13, u "COMPACT_STRINGS"), (534, .class_ 576), (0, u "java/lang/CharSequence"), (22, u "CASE_INSENSITIVE_ORDER"), (0, u "Ljava/util/Comparator;"), (500, u "serialPersistentFields"), (0, u "[Ljava/io/ObjectStreamField;"), (0, .class_ 1104), (0, u "java/lang/String$CaseInsensitiveComparator"), (1, .class_ 1107), (0, u "java/io/Serializable"), (0, .class_ 1109), (0, u "java/lang/Comparable"), (0, .class_ 1111), (0, u "java/lang/constant/Constable"), (0, .class_ 1113), (0, u "java/lang/constant/ConstantDesc"), (2, u "serialVersionUID"), (0, u "J"), (3, u "REPL"), (0, u "C"), (2, u "LATIN1"), (1, u "UTF16")] 323

def k8m0 : Method := { name := "<init>", desc := "()V", sig := { parameters := [], returnType := none }, accessFlags := 1, code := none }
/-- java/lang/String -/
def k8 : Class := { plain "java/lang/String" (some 0) with
  accessFlags := 49
  interfaces := #[3, 4, 5, 6, 7]
  cf := some (fileOf pool8 10 #[.nestMembers #[1103]] #[{ accessFlags := 1, nameIndex := 5, descriptorIndex := 6, attributes := #[] }] 49 2 #[1106, 1108, 575, 1110, 1112] #[{ accessFlags := 18, nameIndex := 13, descriptorIndex := 14, attributes := #[] }, { accessFlags := 18, nameIndex := 17, descriptorIndex := 18, attributes := #[] }, { accessFlags := 2, nameIndex := 21, descriptorIndex := 22, attributes := #[] }, { accessFlags := 2, nameIndex := 25, descriptorIndex := 26, attributes := #[] }, { accessFlags := 26, nameIndex := 1116, descriptorIndex := 1117, attributes := #[] }, { accessFlags := 24, nameIndex := 40, descriptorIndex := 26, attributes := #[] }, { accessFlags := 26, nameIndex := 1101, descriptorIndex := 1102, attributes := #[] }, { accessFlags := 26, nameIndex := 1121, descriptorIndex := 1122, attributes := #[] }, { accessFlags := 25, nameIndex := 599, descriptorIndex := 600, attributes := #[] }, { accessFlags := 24, nameIndex := 1125, descriptorIndex := 18, attributes := #[] }, { accessFlags := 24, nameIndex := 1127, descriptorIndex := 18, attributes := #[] }])
  fields := #[{ name := "value", type := (.array .byte), accessFlags := 18, slot := 0, constantValue := 0 }, { name := "coder", type := .byte, accessFlags := 18, slot := 1, constantValue := 0 }, { name := "hash", type := .int, accessFlags := 2, slot := 2, constantValue := 0 }, { name := "hashIsZero", type := .boolean, accessFlags := 2, slot := 3, constantValue := 0 }, { name := "serialVersionUID", type := .long, accessFlags := 26, slot := 0, constantValue := 0 }, { name := "COMPACT_STRINGS", type := .boolean, accessFlags := 24, slot := 1, constantValue := 0 }, { name := "serialPersistentFields", type := (.array (.object "java/io/ObjectStreamField")), accessFlags := 26, slot := 2, constantValue := 0 }, { name := "REPL", type := .char, accessFlags := 26, slot := 3, constantValue := 0 }, { name := "CASE_INSENSITIVE_ORDER", type := (.object "java/util/Comparator"), accessFlags := 25, slot := 4, constantValue := 0 }, { name := "LATIN1", type := .byte, accessFlags := 24, slot := 5, constantValue := 0 }, { name := "UTF16", type := .byte, accessFlags := 24, slot := 6, constantValue := 0 }]
  methods := #[k8m0]
  instanceTypes := #[(.array .byte), .byte, .int, .boolean]
  staticTypes := #[.long, .boolean, (.array (.object "java/io/ObjectStreamField")), .char, (.object "java/util/Comparator"), .byte, .byte]
  resolved := Array.replicate 1451 none
  statics := none }

def pool9 : Array CpInfo := pool [(1, u "java/lang/Cloneable"), (0, .class_ 1), (0, u "java/lang/Object"), (0, .class_ 3)] 3

/-- java/lang/Cloneable -/
def k9 : Class := { plain "java/lang/Cloneable" (some 0) with
  accessFlags := 1537
  interfaces := #[]
  cf := some (fileOf pool9 2 #[] #[] 1537 4 #[] #[])
  fields := #[]
  methods := #[]
  instanceTypes := #[]
  staticTypes := #[]
  resolved := Array.replicate 8 none
  statics := none }

/-- the primitive byte -/
def k10 : Class := { plain "byte" none with kind := .primitive 'B', accessFlags := 0x411 }
/-- [B -/
def k11 : Class := { plain "[B" (some 0) with kind := .array 10 .byte, interfaces := #[9, 3], accessFlags := 1041 }

/-- the primitive int -/
def k12 : Class := { plain "int" none with kind := .primitive 'I', accessFlags := 0x411 }
/-- [I -/
def k13 : Class := { plain "[I" (some 0) with kind := .array 12 .int, interfaces := #[9, 3], accessFlags := 1041 }

def heap : Heap := #[]
def classes : Array Class := #[k0, k1, k2, k3, k4, k5, k6, k7, k8, k9, k10, k11, k12, k13]
def interned : List (Array UInt16 × Addr) := []
def slotsUsed : Nat := 0
def theMethod : MethodId := ⟨1, 2⟩
def args0 : Array Value := #[.int 1, .int 2, .int 3, .int 4, .int 5, .int 6]
def aboutOver (below : List Frame) : State where
  vm := { classes := classes, interned := interned.toArray }
  heap := heap
  slotsUsed := slotsUsed
  threads := #[{ frames := .invoking theMethod args0 :: below }]
def below0 : List Frame := [.native { method := ⟨0, 0⟩, args := #[] }]
def about1 : State := aboutOver below0
def p0 : Program := .bare "" "" ""
def e0 : Env := launch0.env 0 0 0
theorem w_frames : about1.frames = Frame.invoking theMethod args0 :: below0 := rfl
set_option maxRecDepth 65536 in
theorem w_args : argsFit about1.vm theMethod args0 = true := by decide +kernel
set_option maxRecDepth 65536 in
theorem w_heap : heapFits about1 = true := by decide +kernel
set_option maxRecDepth 65536 in
theorem w_runnable : about1.curStatus? = some .runnable := by decide +kernel
set_option maxRecDepth 65536 in
theorem w_alone : about1.alone = true := by decide +kernel
set_option maxRecDepth 65536 in
theorem w_named : about1.methodNamed? x = some theMethod := by decide +kernel
set_option maxRecDepth 65536 in
theorem w_hears : about1.hears theMethod below0 = true := by decide +kernel
set_option maxRecDepth 65536 in
theorem w_ripe : about1.ripe theMethod args0 below0 = true := by decide +kernel
theorem w_running : about1.status = .running := rfl
set_option maxRecDepth 65536 in
theorem w_room : about1.hasRoom e0.platform room_1 = true :=
  launch0.hasRoom_least _ room_1 (by decide +kernel) (by decide +kernel) (by decide +kernel) (by decide +kernel) (by decide +kernel) (by decide +kernel)
theorem allAtoms_all (ts : List Jvm.Cond) (a : Array Jvm.Value) (st : Jvm.State) : (allAtoms ts).before a st = ts.all (fun c => c.before a st) := by
  induction ts with
  | nil => rfl
  | cons c t ih =>
    show (Jvm.Cond.and c (allAtoms t)).before a st = _
    rw [Jvm.Cond.before_and, ih, List.all_cons]
def words1 : List Jvm.Cond := Jvm.Cond.code x code maxLocals ret :: tables_1
/-- a 'code' word, met by the world's own term for the bytes: nothing is compared byte by byte -/
theorem code_word {y : MethodName} {bytes : ByteArray} {mx : Nat} {rt : Option FieldType} {a : Array Value} {s : State} {m : MethodId} {meth : Method} {c : Code} (h1 : s.methodNamed? y = some m) (h2 : s.vm.method? m = some meth) (h3 : meth.code = some c) (h4 : c.code = bytes)
    (h5 : (c.maxLocals == mx && c.exceptionTable.isEmpty && decide (c.maxStack ≤ mostOperands) && decide (meth.sig.returnType = rt) && !meth.locks && decide (parseMethodDescriptor y.desc = some meth.sig)) = true) : (Jvm.Cond.code y bytes mx rt).before a s = true := by
  simp only [Bool.and_eq_true, beq_iff_eq, Bool.not_eq_true', decide_eq_true_eq] at h5
  obtain ⟨⟨⟨⟨⟨g1, g2⟩, g3⟩, g4⟩, g5⟩, g6⟩ := h5
  simp [Cond.before, Cond.holds, Cond.value, h1, h2, h3, h4, g1, g2, g3, g4, g5, g6]
def isCode : Jvm.Cond → Bool
  | .code _ _ _ _ => true
  | _ => false
theorem all_split {L : List Jvm.Cond} {P : Jvm.Cond → Bool} (h1 : L.all (fun c => isCode c || P c) = true) (h2 : ∀ c ∈ L.filter isCode, P c = true) : L.all P = true := by
  refine List.all_eq_true.mpr fun c hc => ?_
  have h := List.all_eq_true.mp h1 c hc
  rcases Bool.eq_false_or_eq_true (isCode c) with hi | hi
  · exact h2 c (List.mem_filter.mpr ⟨hc, hi⟩)
  · simpa [hi] using h
set_option maxRecDepth 65536 in
theorem w_c0 : (Jvm.Cond.code x code maxLocals ret).before args0 about1 = true := code_word (m := ⟨1, 2⟩) (meth := k1m2) (c := k1c2) (by decide +kernel) rfl rfl rfl (by decide +kernel)
set_option maxRecDepth 65536 in
theorem w_c1 : (Jvm.Cond.code ({ cls := "com/example/entry_to_apps/entrytoapps/GridProfile", name := "<init>", desc := "(Ljava/lang/String;IIIIIZ)V" } : Jvm.MethodName) prog_24_method_1_code (8 : Nat) (Option.none : Option Jvm.ClassFile.FieldType)).before args0 about1 = true := code_word (m := ⟨2, 0⟩) (meth := k2m0) (c := k2c0) (by decide +kernel) rfl rfl rfl (by decide +kernel)
set_option maxRecDepth 65536 in
theorem w_c2 : (Jvm.Cond.code ({ cls := "java/lang/Object", name := "<init>", desc := "()V" } : Jvm.MethodName) object_method_1_code (1 : Nat) (Option.none : Option Jvm.ClassFile.FieldType)).before args0 about1 = true := code_word (m := ⟨0, 0⟩) (meth := k0m0) (c := k0c0) (by decide +kernel) rfl rfl rfl (by decide +kernel)
set_option maxRecDepth 65536 in
theorem w_c3 : (Jvm.Cond.code ({ cls := "com/example/entry_to_apps/entrytoapps/GridProfileSquaredDistancePinLaw", name := "sq", desc := "(II)J" } : Jvm.MethodName) method_2_code (5 : Nat) (Option.some Jvm.ClassFile.FieldType.long)).before args0 about1 = true := code_word (m := ⟨1, 1⟩) (meth := k1m1) (c := k1c1) (by decide +kernel) rfl rfl rfl (by decide +kernel)
set_option maxRecDepth 65536 in
theorem w_c4 : (Jvm.Cond.code ({ cls := "com/example/entry_to_apps/entrytoapps/GridProfile", name := "squaredDistance", desc := "(II)J" } : Jvm.MethodName) prog_24_method_9_code (7 : Nat) (Option.some Jvm.ClassFile.FieldType.long)).before args0 about1 = true := code_word (m := ⟨2, 1⟩) (meth := k2m1) (c := k2c1) (by decide +kernel) rfl rfl rfl (by decide +kernel)
def codes1 : List Jvm.Cond := [Jvm.Cond.code x code maxLocals ret, Jvm.Cond.code ({ cls := "com/example/entry_to_apps/entrytoapps/GridProfile", name := "<init>", desc := "(Ljava/lang/String;IIIIIZ)V" } : Jvm.MethodName) prog_24_method_1_code (8 : Nat) (Option.none : Option Jvm.ClassFile.FieldType), Jvm.Cond.code ({ cls := "java/lang/Object", name := "<init>", desc := "()V" } : Jvm.MethodName) object_method_1_code (1 : Nat) (Option.none : Option Jvm.ClassFile.FieldType), Jvm.Cond.code ({ cls := "com/example/entry_to_apps/entrytoapps/GridProfileSquaredDistancePinLaw", name := "sq", desc := "(II)J" } : Jvm.MethodName) method_2_code (5 : Nat) (Option.some Jvm.ClassFile.FieldType.long), Jvm.Cond.code ({ cls := "com/example/entry_to_apps/entrytoapps/GridProfile", name := "squaredDistance", desc := "(II)J" } : Jvm.MethodName) prog_24_method_9_code (7 : Nat) (Option.some Jvm.ClassFile.FieldType.long)]
set_option maxRecDepth 65536 in
theorem codes_eq : words1.filter isCode = codes1 := rfl
theorem w_codes : ∀ c ∈ words1.filter isCode, c.before args0 about1 = true := by
  rw [codes_eq]
  intro c hc
  simp only [codes1, List.mem_cons, List.not_mem_nil, or_false] at hc
  rcases hc with rfl | rfl | rfl | rfl | rfl
  · exact w_c0
  · exact w_c1
  · exact w_c2
  · exact w_c3
  · exact w_c4
set_option maxRecDepth 65536 in
theorem w_t1 : (words1.take 24).all (fun c => isCode c || c.before args0 about1) = true := by decide +kernel
set_option maxRecDepth 65536 in
theorem w_t2 : (words1.drop 24).all (fun c => isCode c || c.before args0 about1) = true := by decide +kernel
theorem w_tables : (allAtoms (Jvm.Cond.code x code maxLocals ret :: tables_1)).before args0 about1 = true := by
  rw [allAtoms_all]
  show words1.all (fun c => c.before args0 about1) = true
  refine all_split ?_ w_codes
  rw [← List.take_append_drop 24 words1, List.all_append, w_t1, w_t2]
  rfl
set_option maxRecDepth 65536 in
theorem w_case : (Jvm.Cond.and given_1 narrow_1).before args0 about1 = true := by decide +kernel
theorem w_applies : (headSpec (Jvm.Cond.code x code maxLocals ret :: tables_1) room_1).applies x e0.platform about1 = true :=
  (Spec.applies_iff w_frames).mpr ⟨w_running, w_runnable, w_alone, w_named, w_hears, w_ripe, w_room, w_tables⟩
theorem atStart : AtStart classFile x code maxLocals ret World_1 tables_1 room_1 Calls_1 rest_1 Pre_1 launch0 p0 e0 about1 theMethod args0 below0 :=
  ⟨lists_1, trivial, launch0.admits_env _ _ _, launch0.least_env, fairChoices_fair.cas, fairChoices_fair.clock, w_frames, w_args, w_heap, w_applies, trivial, trivial, w_case⟩
end start1
theorem witness_1 : WitnessClaimed_1 := ⟨start1.p0, start1.e0, start1.about1, start1.theMethod, start1.args0, start1.below0, start1.atStart⟩
end Jvm.Pilot.@@N@@
