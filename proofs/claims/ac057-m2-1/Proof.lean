import JvmDerived
import JvmDerived.Pilot.@@N@@Statement
import JvmDerived.Pilot.@@N@@Code
set_option linter.unusedVariables false
set_option linter.unusedSimpArgs false
@@BLOCK:NumsL.lean.txt@@
namespace Jvm.Pilot.@@N@@
open Jvm Jvm.ClassFile Sem Op Lib Jvm.Free Jvm.Stand Jvm.LawKit Jvm.RoadKit Bundle Jvm.Pilot.@@N@@.Jvm.D
theorem own_retI {p : Program} {l : Launch} {e : Env} {R : Room} {s : State} {m : MethodId} {args : Array Value} {below : List Frame} {meth : Method} {c : Code} {T : State} {locs : List Loc} {cells slots : Nat} (X : Stand p l e R s m args below meth c T locs cells slots) (hx : p.tables.exec = Jvm.exec) {pc : Nat} {Ls : Array Slot} {z : Int32} {rest : List Value} (hret : meth.sig.returnType = some .int) (hd : decode c.code pc = .ok (.ireturn, 1)) {fs : List Frame}
    (hl : ∀ (f : JFrame) (acts : List Action), f.method = m → f.locked = none → f.entered = [] → (doReturn e (T.setTop f) acts (some (.int z))).1 = T.setFrames fs) : Steps p.tables e below (T.setTop (mkF m pc Ls (.int z :: rest))) (T.setFrames fs) :=
  retOut X hx hret rfl (Or.inl ⟨rfl, Or.inl rfl, z, rfl⟩) hd hl
theorem own_retA {p : Program} {l : Launch} {e : Env} {R : Room} {s : State} {m : MethodId} {args : Array Value} {below : List Frame} {meth : Method} {c : Code} {T : State} {locs : List Loc} {cells slots : Nat} (X : Stand p l e R s m args below meth c T locs cells slots) (hx : p.tables.exec = Jvm.exec) {pc : Nat} {Ls : Array Slot} {w : Value} {t : FieldType} {rest : List Value} (hret : meth.sig.returnType = some t) (ht : t.isReference = true) (hw : w.isRef = true) (hn : narrow t w = w) (hd : decode c.code pc = .ok (.areturn, 1)) {fs : List Frame}
    (hl : ∀ (f : JFrame) (acts : List Action), f.method = m → f.locked = none → f.entered = [] → (doReturn e (T.setTop f) acts (some w)).1 = T.setFrames fs) : Steps p.tables e below (T.setTop (mkF m pc Ls (w :: rest))) (T.setFrames fs) :=
  retOut X hx hret hn (Or.inr (Or.inr (Or.inr (Or.inr ⟨rfl, ht, hw⟩)))) hd hl
theorem own_retJ {p : Program} {l : Launch} {e : Env} {R : Room} {s : State} {m : MethodId} {args : Array Value} {below : List Frame} {meth : Method} {c : Code} {T : State} {locs : List Loc} {cells slots : Nat} (X : Stand p l e R s m args below meth c T locs cells slots) (hx : p.tables.exec = Jvm.exec) {pc : Nat} {Ls : Array Slot} {z : Int64} {rest : List Value} (hret : meth.sig.returnType = some .long) (hd : decode c.code pc = .ok (.lreturn, 1)) {fs : List Frame}
    (hl : ∀ (f : JFrame) (acts : List Action), f.method = m → f.locked = none → f.entered = [] → (doReturn e (T.setTop f) acts (some (.long z))).1 = T.setFrames fs) : Steps p.tables e below (T.setTop (mkF m pc Ls (.long z :: rest))) (T.setFrames fs) :=
  retOut X hx hret rfl (Or.inr (Or.inl ⟨rfl, rfl, z, rfl⟩)) hd hl
theorem own_exttr {h0 h h' : Heap} (E : Ext h0 h) (E' : Ext h h') : Ext h0 h' := ⟨Nat.le_trans E.1 E'.1, fun a c q => E'.2 _ _ (E.2 _ _ q)⟩
theorem own_extwr {h0 h h' : Heap} {a : Addr} {sl : Nat} {v : Value} (E : Ext h0 h) (W : Wr h h' a sl v) (q : h0.size ≤ a) : Ext h0 h' := by
  refine ⟨Nat.le_trans E.1 (Nat.le_of_eq W.size.symm), fun x c hc => ?_⟩
  obtain ⟨c', e1, -, -, -, e5, -⟩ := wr_at W (E.2 x c hc)
  have hx : x < h0.size := (Array.getElem?_eq_some_iff.mp hc).1
  rw [e5 (Nat.ne_of_lt (Nat.lt_of_lt_of_le hx q))] at e1
  exact e1
theorem own_wmono {s t : State} {o : Outcome} {L : List Loc} {k n k' n' : Nat} (h : ReturnedEndW s o t L k n) (hk : k ≤ k') (hn : n ≤ n') : ReturnedEndW s o t L k' n' := ⟨h.1, h.2.1, h.2.2.1, h.2.2.2.mono hk hn⟩
theorem own_strAtoms {Z : State} {a0 : Array Value} (w1 : (Jvm.Cond.initialized "java/lang/String").before a0 Z = true) (w2 : (Jvm.Cond.instantiable "java/lang/String" 4).before a0 Z = true) (w3 : (Jvm.Cond.arrayClass .byte).before a0 Z = true) (w4 : (Jvm.Cond.laysFinal "java/lang/String" "java/lang/String" "value" "[B").before a0 Z = true) (w5 : (Jvm.Cond.laysFinal "java/lang/String" "java/lang/String" "coder" "B").before a0 Z = true) (w6 : (Jvm.Cond.soleField "java/lang/String" "value").before a0 Z = true) (w7 : (Jvm.Cond.soleField "java/lang/String" "coder").before a0 Z = true) : ∀ a ∈ Bundle.stringAtoms, a.before a0 Z = true := by
  intro a ha
  simp only [Bundle.stringAtoms, List.mem_cons, List.not_mem_nil, or_false] at ha
  rcases ha with rfl | rfl | rfl | rfl | rfl | rfl | rfl <;> assumption
theorem own_extkeep {h0 h h' : Heap} {a : Addr} (E : Ext h0 h) (K : Keep h h' [a]) (q : h0.size ≤ a) : Ext h0 h' := ⟨Nat.le_trans E.1 K.1, fun x c hc => K.2.1 x c (E.2 x c hc) (fun hm => absurd (List.mem_singleton.mp hm) (Nat.ne_of_lt (Nat.lt_of_lt_of_le (Array.getElem?_eq_some_iff.mp hc).1 q)))⟩
theorem own_fld2 {Z : State} {h : Heap} {a : Addr} {C O n d O1 n1 d1 : String} {v1 : Value} {a0 : Array Value} {k : Nat} (E : Exa Z h a C) (F : Fld Z h a O1 n1 d1 v1) (L : Laid Z a0 C O n d) (wi : (Jvm.Cond.instantiable C k).before a0 Z = true) : ∃ v, Fld Z h a O n d v := by
  obtain ⟨cell, kc, h1, h2, h3, h4, h5⟩ := E
  obtain ⟨cell', cf', k', i', f', g1, -, -, g4, g5, -, -⟩ := F
  cases h1.symm.trans g1
  obtain ⟨c, k2, cf, kf, i, f, a1, a2, a3, a4, a5, a6, -⟩ := L.spec
  cases h2.symm.trans a1
  cases h3.symm.trans a2
  obtain ⟨c2, k3, i1, i2, i3, -⟩ := Cond.instantiable_spec wi
  cases h2.symm.trans i1
  cases h3.symm.trans i2
  have hs := h5 i3
  have hlt : f.slot < cell.slots.size := by rw [hs]; exact (Array.getElem?_eq_some_iff.mp a6).1
  exact ⟨cell.slots[f.slot], cell, cf, kf, i, f, h1, a3, a4, g4, g5, a5, Array.getElem?_eq_getElem hlt⟩
theorem own_retD {p : Program} {l : Launch} {e : Env} {R : Room} {s : State} {m : MethodId} {args : Array Value} {below : List Frame} {meth : Method} {c : Code} {T : State} {locs : List Loc} {cells slots : Nat} (X : Stand p l e R s m args below meth c T locs cells slots) (hx : p.tables.exec = Jvm.exec) {pc : Nat} {Ls : Array Slot} {z : UInt64} {rest : List Value} (hret : meth.sig.returnType = some .double) (hd : decode c.code pc = .ok (.dreturn, 1)) {fs : List Frame}
    (hl : ∀ (f : JFrame) (acts : List Action), f.method = m → f.locked = none → f.entered = [] → (doReturn e (T.setTop f) acts (some (.double z))).1 = T.setFrames fs) : Steps p.tables e below (T.setTop (mkF m pc Ls (.double z :: rest))) (T.setFrames fs) :=
  retOut X hx hret rfl (Or.inr (Or.inr (Or.inl ⟨rfl, rfl, z, rfl⟩))) hd hl
theorem own_eqk {args : Array Value} {first s : State} {o : Option Outcome} {idx : List Nat} {t : Term} {k : Int32} (h : (Jvm.Cond.eq t (.int k)).value args first o s idx = some true) : t.eval args first o idx s = some (.int k) := by
  have hk : (Term.int k).eval args first o idx s = some (.int k) := Term.int_eval k
  cases ht : t.eval args first o idx s with
  | none => simp [Cond.value, ht] at h
  | some x => cases x <;> simp [Cond.value, ht, hk] at h ⊢ <;> exact h
theorem own_pn0 : plainName "com/example/ferrule/ferrule/learn/Pair" = true := by first | (simp [plainName, overriddenIn]; done) | decide +kernel
theorem own_d_ini_0 : decode prog_16_method_1_code 0 = .ok (.aload_n 0, 1) := by decide +kernel
theorem own_d_ini_1 : decode prog_16_method_1_code 1 = .ok (.invokespecial 1, 3) := by decide +kernel
theorem own_d_ini_4 : decode prog_16_method_1_code 4 = .ok (.aload_n 0, 1) := by decide +kernel
theorem own_d_ini_5 : decode prog_16_method_1_code 5 = .ok (.iconst 2, 1) := by decide +kernel
theorem own_d_ini_6 : decode prog_16_method_1_code 6 = .ok (.newarray .int, 2) := by decide +kernel
theorem own_d_ini_8 : decode prog_16_method_1_code 8 = .ok (.putfield 7, 3) := by decide +kernel
theorem own_d_ini_11 : decode prog_16_method_1_code 11 = .ok (.aload_n 0, 1) := by decide +kernel
theorem own_d_ini_12 : decode prog_16_method_1_code 12 = .ok (.iconst 2, 1) := by decide +kernel
theorem own_d_ini_13 : decode prog_16_method_1_code 13 = .ok (.newarray .double, 2) := by decide +kernel
theorem own_d_ini_15 : decode prog_16_method_1_code 15 = .ok (.putfield 13, 3) := by decide +kernel
theorem own_d_ini_18 : decode prog_16_method_1_code 18 = .ok (.aload_n 0, 1) := by decide +kernel
theorem own_d_ini_19 : decode prog_16_method_1_code 19 = .ok (.iconst 2, 1) := by decide +kernel
theorem own_d_ini_20 : decode prog_16_method_1_code 20 = .ok (.newarray .double, 2) := by decide +kernel
theorem own_d_ini_22 : decode prog_16_method_1_code 22 = .ok (.putfield 17, 3) := by decide +kernel
theorem own_d_ini_25 : decode prog_16_method_1_code 25 = .ok (.aload_n 0, 1) := by decide +kernel
theorem own_d_ini_26 : decode prog_16_method_1_code 26 = .ok (.iconst 2, 1) := by decide +kernel
theorem own_d_ini_27 : decode prog_16_method_1_code 27 = .ok (.newarray .long, 2) := by decide +kernel
theorem own_d_ini_29 : decode prog_16_method_1_code 29 = .ok (.putfield 20, 3) := by decide +kernel
theorem own_d_ini_32 : decode prog_16_method_1_code 32 = .ok (.aload_n 0, 1) := by decide +kernel
theorem own_d_ini_33 : decode prog_16_method_1_code 33 = .ok (.iconst 0, 1) := by decide +kernel
theorem own_d_ini_34 : decode prog_16_method_1_code 34 = .ok (.newarray .double, 2) := by decide +kernel
theorem own_d_ini_36 : decode prog_16_method_1_code 36 = .ok (.putfield 24, 3) := by decide +kernel
theorem own_d_ini_39 : decode prog_16_method_1_code 39 = .ok (.aload_n 0, 1) := by decide +kernel
theorem own_d_ini_40 : decode prog_16_method_1_code 40 = .ok (.ldc2_w 29, 3) := by decide +kernel
theorem own_d_ini_43 : decode prog_16_method_1_code 43 = .ok (.putfield 31, 3) := by decide +kernel
theorem own_d_ini_46 : decode prog_16_method_1_code 46 = .ok (.aload_n 0, 1) := by decide +kernel
theorem own_d_ini_47 : decode prog_16_method_1_code 47 = .ok (.lconst 1, 1) := by decide +kernel
theorem own_d_ini_48 : decode prog_16_method_1_code 48 = .ok (.putfield 35, 3) := by decide +kernel
theorem own_d_ini_51 : decode prog_16_method_1_code 51 = .ok (.aload_n 0, 1) := by decide +kernel
theorem own_d_ini_52 : decode prog_16_method_1_code 52 = .ok (.iload_n 1, 1) := by decide +kernel
theorem own_d_ini_53 : decode prog_16_method_1_code 53 = .ok (.putfield 39, 3) := by decide +kernel
theorem own_d_ini_56 : decode prog_16_method_1_code 56 = .ok (.aload_n 0, 1) := by decide +kernel
theorem own_d_ini_57 : decode prog_16_method_1_code 57 = .ok (.iload_n 2, 1) := by decide +kernel
theorem own_d_ini_58 : decode prog_16_method_1_code 58 = .ok (.putfield 43, 3) := by decide +kernel
theorem own_d_ini_61 : decode prog_16_method_1_code 61 = .ok (.aload_n 0, 1) := by decide +kernel
theorem own_d_ini_62 : decode prog_16_method_1_code 62 = .ok (.iload_n 3, 1) := by decide +kernel
theorem own_d_ini_63 : decode prog_16_method_1_code 63 = .ok (.putfield 46, 3) := by decide +kernel
theorem own_d_ini_66 : decode prog_16_method_1_code 66 = .ok (.aload_n 0, 1) := by decide +kernel
theorem own_d_ini_67 : decode prog_16_method_1_code 67 = .ok (.lload 4, 2) := by decide +kernel
theorem own_d_ini_69 : decode prog_16_method_1_code 69 = .ok (.putfield 49, 3) := by decide +kernel
theorem own_d_ini_72 : decode prog_16_method_1_code 72 = .ok (.aload_n 0, 1) := by decide +kernel
theorem own_d_ini_73 : decode prog_16_method_1_code 73 = .ok (.iload 6, 2) := by decide +kernel
theorem own_d_ini_75 : decode prog_16_method_1_code 75 = .ok (.putfield 52, 3) := by decide +kernel
theorem own_d_ini_78 : decode prog_16_method_1_code 78 = .ok (.return_, 1) := by decide +kernel
theorem own_ef_ini (m : MethodId) (a0 : Addr) (p1 : Int32) (p2 : Int32) (p3 : Int32) (q4 : Int64) (p5 : Int32) : entryFrame m #[(.ref a0), (.int p1), (.int p2), (.int p3), (.long q4), (.int p5)] 7 = mkF m 0 #[.val (.ref a0), .val (.int p1), .val (.int p2), .val (.int p3), .val (.long q4), .second, .val (.int p5)] [] := by first | (simp [entryFrame, mkF, argsToLocals, Value.category]; done) | rfl
def Q_ini (Z : State) (a0 : Addr) (p1 : Int32) (p2 : Int32) (p3 : Int32) (q4 : Int64) (p5 : Int32) (h0 : Heap) (n0 : Nat) (v : Option Value) (h : Heap) (L : List Loc) : Prop := v = none ∧ Fr n0 L ∧ Keep h0 h [a0] ∧ Exa Z h a0 "com/example/ferrule/ferrule/learn/Pair" ∧ Fld Z h a0 "com/example/ferrule/ferrule/learn/Pair" "successorCount" "I" (.int p5) ∧ Fld Z h a0 "com/example/ferrule/ferrule/learn/Pair" "size" "I" (.int (0 : Int32))
set_option maxRecDepth 65536 in
set_option maxHeartbeats 40000000 in
theorem rm_ini (l : Launch) (Z : State) (a0' : Array Value) (hw : ∀ d ∈ tables_1, d.before a0' Z = true) (ws : List Jvm.Cond) (a0 : Addr) (p1 : Int32) (p2 : Int32) (p3 : Int32) (q4 : Int64) (p5 : Int32) (h0 : Heap) (n0 : Nat) (Z0 : n0 ≤ h0.size) (E_t : Exa Z h0 a0 "com/example/ferrule/ferrule/learn/Pair") (F0_size : Fld Z h0 a0 "com/example/ferrule/ferrule/learn/Pair" "size" "I" (.int (0 : Int32))) (g_t : n0 ≤ a0) :
    MetFree l (⟨"com/example/ferrule/ferrule/learn/Pair", "<init>", "(IIIJI)V"⟩ : MethodName) (head1 (Jvm.Cond.code (⟨"com/example/ferrule/ferrule/learn/Pair", "<init>", "(IIIJI)V"⟩ : MethodName) prog_16_method_1_code 7 none :: ws) ({ frames := 1, cells := 5, slots := 8, locals := 12 } : Room)) (fun a U => a = #[(.ref a0), (.int p1), (.int p2), (.int p3), (.long q4), (.int p5)] ∧ Z.Warmed39 U.vm ∧ U.heap = h0) (fun _ _ _ _ _ => True) (fun _ U o U' => ∃ v L, o = .returned v ∧ Q_ini Z a0 p1 p2 p3 q4 p5 h0 n0 v U'.heap L ∧ FrameEnd U o U' L ({ frames := 1, cells := 5, slots := 8, locals := 12 } : Room).cells ({ frames := 1, cells := 5, slots := 8, locals := 12 } : Room).slots) := by
  refine MetFree.of_bodySF (plainFor_of_name own_pn0) hisR ?_
  intro p e s m args below meth c s₁ Bd hml0 hP hK
  obtain ⟨rfl, hZ, hh⟩ := hP
  have hx := Bd.exec
  have hby := Bd.bytes
  have hml : c.maxLocals = 7 := hml0
  have hown : s.vm.findClass "com/example/ferrule/ferrule/learn/Pair" = some m.cls := findClass_of_methodNamed Bd.named
  have hnm := (name_of_methodNamed Bd.named Bd.method).1
  have X0 : Stand p l e ({ frames := 1, cells := 5, slots := 8, locals := 12 } : Room) s m #[(.ref a0), (.int p1), (.int p2), (.int p3), (.long q4), (.int p5)] below meth c s₁ [] 0 0 := Stand.of_body Bd
  have e0 : s₁.heap = h0 := by rw [← hh, Bd.state]; rfl
  have N0 := Fr.nil n0
  have pre0 : ∀ t, Steps p.tables e below (s₁.setTop (mkF m 0 #[.val (.ref a0), .val (.int p1), .val (.int p2), .val (.int p3), .val (.long q4), .second, .val (.int p5)] [])) t → Steps p.tables e below (s₁.setTop (entryFrame m #[(.ref a0), (.int p1), (.int p2), (.int p3), (.long q4), (.int p5)] 7)) t := fun t k => castTop (own_ef_ini m a0 p1 p2 p3 q4 p5) k
  obtain ⟨T1, X1, e1, st1⟩ := initO X0 hx hZ hown (hw _ (List.mem_of_getElem? (i := 6) rfl)) (hw _ (List.mem_of_getElem? (i := 7) rfl)) (hw _ (List.mem_of_getElem? (i := 8) rfl)) e0 (g := (mkF m 1 #[.val (.ref a0), .val (.int p1), .val (.int p2), .val (.int p3), .val (.long q4), .second, .val (.int p5)] [(.ref a0)])) rfl (by rw [hml]; rfl) rfl (hb hby own_d_ini_1) (by decide) (W := 0) (by show 2 * 0 + _ ≤ _; exact Nat.le_of_eq rfl) (by decide)
  obtain ⟨T2, h2, k2, X2, e2, E2, A2, st2⟩ := newP X1 hx hZ (hw _ (List.mem_of_getElem? (i := 9) rfl)) e1 (g := (mkF m 6 #[.val (.ref a0), .val (.int p1), .val (.int p2), .val (.int p3), .val (.long q4), .second, .val (.int p5)] [(.int (2 : Int32)), (.ref a0)])) rfl (hb hby own_d_ini_6) rfl (by decide) (cap := 2) (by decide) (by decide) (by decide) (by decide)
  obtain ⟨b2, g2⟩ : ∃ z, z = h0.size := ⟨_, rfl⟩
  rw [← g2] at A2 st2
  have V_b2 : Arv Z h2 b2 k2 .int (2 : Int32) [(.int (0 : Int32)), (.int (0 : Int32))] (.int (0 : Int32)) := (Arv.new A2 (by decide)).pad (pad_rep [] (.int (0 : Int32)) 2)
  have ne_b2 : b2 ≠ a0 := Nat.ne_of_gt (Nat.lt_of_lt_of_le E_t.lt (Nat.le_of_eq g2.symm))
  have Ew2 := E_t.ext E2
  have Fy2 := F0_size.ext E2
  have Kp2 : Keep h0 h2 [a0] := (Keep.refl h0 [a0]).ext E2
  have Ftsize_2 := F0_size.ext E2
  obtain ⟨old3, Fo3⟩ := own_fld2 (O := "com/example/ferrule/ferrule/learn/Pair") (n := "successors") (d := "[I") (a0 := a0') Ew2 Fy2 (Or.inl (hw _ (List.mem_of_getElem? (i := 11) rfl))) (hw _ (List.mem_of_getElem? (i := 1) rfl))
  obtain ⟨T4, h4, X4, e4, W4, st4⟩ := putF X2 hx hZ hown (host := "") (Or.inl (hw _ (List.mem_of_getElem? (i := 10) rfl))) Via.refl e2 Fo3 Ew2 (Or.inl (hw _ (List.mem_of_getElem? (i := 11) rfl))) (hw _ (List.mem_of_getElem? (i := 1) rfl)) (ty := (.array .int)) (by decide) rfl rfl (g := (mkF m 8 #[.val (.ref a0), .val (.int p1), .val (.int p2), .val (.int p3), .val (.long q4), .second, .val (.int p5)] [(.ref b2), (.ref a0)])) rfl rfl (hb hby own_d_ini_8)
  have Fw4 : Fld Z h4 a0 "com/example/ferrule/ferrule/learn/Pair" "successors" "[I" (.ref b2) := Fo3.same W4
  have Ew4 := Ew2.wr W4
  have Kp4 : Keep h0 h4 [a0] := Kp2.wr W4 (Or.inl (List.mem_of_getElem? (i := 0) rfl))
  have N4 := Fr.snoc X4 N0 g_t
  have Ftsize_4 := Ftsize_2.other W4 (Or.inr (slot_ne (a0 := a0') (Or.inl (hw _ (List.mem_of_getElem? (i := 48) rfl))) (Or.inl (hw _ (List.mem_of_getElem? (i := 11) rfl))) (by decide) (t := .int) (t' := (.array .int)) (by decide) (by decide)))
  obtain ⟨T5, h5, k5, X5, e5, E5, A5, st5⟩ := newP X4 hx hZ (hw _ (List.mem_of_getElem? (i := 12) rfl)) e4 (g := (mkF m 13 #[.val (.ref a0), .val (.int p1), .val (.int p2), .val (.int p3), .val (.long q4), .second, .val (.int p5)] [(.int (2 : Int32)), (.ref a0)])) rfl (hb hby own_d_ini_13) rfl (by decide) (cap := 2) (by decide) (by decide) (by decide) (by decide)
  obtain ⟨b5, g5⟩ : ∃ z, z = h4.size := ⟨_, rfl⟩
  rw [← g5] at A5 st5
  have V_b5 : Arv Z h5 b5 k5 .double (2 : Int32) [(.double 0), (.double 0)] (.double 0) := (Arv.new A5 (by decide)).pad (pad_rep [] (.double 0) 2)
  have ne_b5 : b5 ≠ a0 := Nat.ne_of_gt (Nat.lt_of_lt_of_le Ew4.lt (Nat.le_of_eq g5.symm))
  have Ew5 := Ew4.ext E5
  have Fy5 := Fw4.ext E5
  have Kp5 : Keep h0 h5 [a0] := Kp4.ext E5
  have Ftsize_5 := Ftsize_4.ext E5
  obtain ⟨old6, Fo6⟩ := own_fld2 (O := "com/example/ferrule/ferrule/learn/Pair") (n := "rewards") (d := "[D") (a0 := a0') Ew5 Fy5 (Or.inl (hw _ (List.mem_of_getElem? (i := 14) rfl))) (hw _ (List.mem_of_getElem? (i := 1) rfl))
  obtain ⟨T7, h7, X7, e7, W7, st7⟩ := putF X5 hx hZ hown (host := "") (Or.inl (hw _ (List.mem_of_getElem? (i := 13) rfl))) Via.refl e5 Fo6 Ew5 (Or.inl (hw _ (List.mem_of_getElem? (i := 14) rfl))) (hw _ (List.mem_of_getElem? (i := 1) rfl)) (ty := (.array .double)) (by decide) rfl rfl (g := (mkF m 15 #[.val (.ref a0), .val (.int p1), .val (.int p2), .val (.int p3), .val (.long q4), .second, .val (.int p5)] [(.ref b5), (.ref a0)])) rfl rfl (hb hby own_d_ini_15)
  have Fw7 : Fld Z h7 a0 "com/example/ferrule/ferrule/learn/Pair" "rewards" "[D" (.ref b5) := Fo6.same W7
  have Ew7 := Ew5.wr W7
  have Kp7 : Keep h0 h7 [a0] := Kp5.wr W7 (Or.inl (List.mem_of_getElem? (i := 0) rfl))
  have N7 := Fr.snoc X7 N4 g_t
  have Ftsize_7 := Ftsize_5.other W7 (Or.inr (slot_ne (a0 := a0') (Or.inl (hw _ (List.mem_of_getElem? (i := 48) rfl))) (Or.inl (hw _ (List.mem_of_getElem? (i := 14) rfl))) (by decide) (t := .int) (t' := (.array .double)) (by decide) (by decide)))
  obtain ⟨T8, h8, k8, X8, e8, E8, A8, st8⟩ := newP X7 hx hZ (hw _ (List.mem_of_getElem? (i := 12) rfl)) e7 (g := (mkF m 20 #[.val (.ref a0), .val (.int p1), .val (.int p2), .val (.int p3), .val (.long q4), .second, .val (.int p5)] [(.int (2 : Int32)), (.ref a0)])) rfl (hb hby own_d_ini_20) rfl (by decide) (cap := 2) (by decide) (by decide) (by decide) (by decide)
  obtain ⟨b8, g8⟩ : ∃ z, z = h7.size := ⟨_, rfl⟩
  rw [← g8] at A8 st8
  have V_b8 : Arv Z h8 b8 k8 .double (2 : Int32) [(.double 0), (.double 0)] (.double 0) := (Arv.new A8 (by decide)).pad (pad_rep [] (.double 0) 2)
  have ne_b8 : b8 ≠ a0 := Nat.ne_of_gt (Nat.lt_of_lt_of_le Ew7.lt (Nat.le_of_eq g8.symm))
  have Ew8 := Ew7.ext E8
  have Fy8 := Fw7.ext E8
  have Kp8 : Keep h0 h8 [a0] := Kp7.ext E8
  have Ftsize_8 := Ftsize_7.ext E8
  obtain ⟨old9, Fo9⟩ := own_fld2 (O := "com/example/ferrule/ferrule/learn/Pair") (n := "jumpRewards") (d := "[D") (a0 := a0') Ew8 Fy8 (Or.inl (hw _ (List.mem_of_getElem? (i := 16) rfl))) (hw _ (List.mem_of_getElem? (i := 1) rfl))
  obtain ⟨T10, h10, X10, e10, W10, st10⟩ := putF X8 hx hZ hown (host := "") (Or.inl (hw _ (List.mem_of_getElem? (i := 15) rfl))) Via.refl e8 Fo9 Ew8 (Or.inl (hw _ (List.mem_of_getElem? (i := 16) rfl))) (hw _ (List.mem_of_getElem? (i := 1) rfl)) (ty := (.array .double)) (by decide) rfl rfl (g := (mkF m 22 #[.val (.ref a0), .val (.int p1), .val (.int p2), .val (.int p3), .val (.long q4), .second, .val (.int p5)] [(.ref b8), (.ref a0)])) rfl rfl (hb hby own_d_ini_22)
  have Fw10 : Fld Z h10 a0 "com/example/ferrule/ferrule/learn/Pair" "jumpRewards" "[D" (.ref b8) := Fo9.same W10
  have Ew10 := Ew8.wr W10
  have Kp10 : Keep h0 h10 [a0] := Kp8.wr W10 (Or.inl (List.mem_of_getElem? (i := 0) rfl))
  have N10 := Fr.snoc X10 N7 g_t
  have Ftsize_10 := Ftsize_8.other W10 (Or.inr (slot_ne (a0 := a0') (Or.inl (hw _ (List.mem_of_getElem? (i := 48) rfl))) (Or.inl (hw _ (List.mem_of_getElem? (i := 16) rfl))) (by decide) (t := .int) (t' := (.array .double)) (by decide) (by decide)))
  obtain ⟨T11, h11, k11, X11, e11, E11, A11, st11⟩ := newP X10 hx hZ (hw _ (List.mem_of_getElem? (i := 17) rfl)) e10 (g := (mkF m 27 #[.val (.ref a0), .val (.int p1), .val (.int p2), .val (.int p3), .val (.long q4), .second, .val (.int p5)] [(.int (2 : Int32)), (.ref a0)])) rfl (hb hby own_d_ini_27) rfl (by decide) (cap := 2) (by decide) (by decide) (by decide) (by decide)
  obtain ⟨b11, g11⟩ : ∃ z, z = h10.size := ⟨_, rfl⟩
  rw [← g11] at A11 st11
  have V_b11 : Arv Z h11 b11 k11 .long (2 : Int32) [(.long (0 : Int64)), (.long (0 : Int64))] (.long (0 : Int64)) := (Arv.new A11 (by decide)).pad (pad_rep [] (.long (0 : Int64)) 2)
  have ne_b11 : b11 ≠ a0 := Nat.ne_of_gt (Nat.lt_of_lt_of_le Ew10.lt (Nat.le_of_eq g11.symm))
  have Ew11 := Ew10.ext E11
  have Fy11 := Fw10.ext E11
  have Kp11 : Keep h0 h11 [a0] := Kp10.ext E11
  have Ftsize_11 := Ftsize_10.ext E11
  obtain ⟨old12, Fo12⟩ := own_fld2 (O := "com/example/ferrule/ferrule/learn/Pair") (n := "successorCounts") (d := "[J") (a0 := a0') Ew11 Fy11 (Or.inl (hw _ (List.mem_of_getElem? (i := 19) rfl))) (hw _ (List.mem_of_getElem? (i := 1) rfl))
  obtain ⟨T13, h13, X13, e13, W13, st13⟩ := putF X11 hx hZ hown (host := "") (Or.inl (hw _ (List.mem_of_getElem? (i := 18) rfl))) Via.refl e11 Fo12 Ew11 (Or.inl (hw _ (List.mem_of_getElem? (i := 19) rfl))) (hw _ (List.mem_of_getElem? (i := 1) rfl)) (ty := (.array .long)) (by decide) rfl rfl (g := (mkF m 29 #[.val (.ref a0), .val (.int p1), .val (.int p2), .val (.int p3), .val (.long q4), .second, .val (.int p5)] [(.ref b11), (.ref a0)])) rfl rfl (hb hby own_d_ini_29)
  have Fw13 : Fld Z h13 a0 "com/example/ferrule/ferrule/learn/Pair" "successorCounts" "[J" (.ref b11) := Fo12.same W13
  have Ew13 := Ew11.wr W13
  have Kp13 : Keep h0 h13 [a0] := Kp11.wr W13 (Or.inl (List.mem_of_getElem? (i := 0) rfl))
  have N13 := Fr.snoc X13 N10 g_t
  have Ftsize_13 := Ftsize_11.other W13 (Or.inr (slot_ne (a0 := a0') (Or.inl (hw _ (List.mem_of_getElem? (i := 48) rfl))) (Or.inl (hw _ (List.mem_of_getElem? (i := 19) rfl))) (by decide) (t := .int) (t' := (.array .long)) (by decide) (by decide)))
  obtain ⟨T14, h14, k14, X14, e14, E14, A14, st14⟩ := newP X13 hx hZ (hw _ (List.mem_of_getElem? (i := 12) rfl)) e13 (g := (mkF m 34 #[.val (.ref a0), .val (.int p1), .val (.int p2), .val (.int p3), .val (.long q4), .second, .val (.int p5)] [(.int (0 : Int32)), (.ref a0)])) rfl (hb hby own_d_ini_34) rfl (by decide) (cap := 0) (by decide) (by decide) (by decide) (by decide)
  obtain ⟨b14, g14⟩ : ∃ z, z = h13.size := ⟨_, rfl⟩
  rw [← g14] at A14 st14
  have V_b14 := Arv.new A14 (by decide)
  have ne_b14 : b14 ≠ a0 := Nat.ne_of_gt (Nat.lt_of_lt_of_le Ew13.lt (Nat.le_of_eq g14.symm))
  have Ew14 := Ew13.ext E14
  have Fy14 := Fw13.ext E14
  have Kp14 : Keep h0 h14 [a0] := Kp13.ext E14
  have Ftsize_14 := Ftsize_13.ext E14
  obtain ⟨old15, Fo15⟩ := own_fld2 (O := "com/example/ferrule/ferrule/learn/Pair") (n := "lower") (d := "[D") (a0 := a0') Ew14 Fy14 (Or.inl (hw _ (List.mem_of_getElem? (i := 21) rfl))) (hw _ (List.mem_of_getElem? (i := 1) rfl))
  obtain ⟨T16, h16, X16, e16, W16, st16⟩ := putF X14 hx hZ hown (host := "") (Or.inl (hw _ (List.mem_of_getElem? (i := 20) rfl))) Via.refl e14 Fo15 Ew14 (Or.inl (hw _ (List.mem_of_getElem? (i := 21) rfl))) (hw _ (List.mem_of_getElem? (i := 1) rfl)) (ty := (.array .double)) (by decide) rfl rfl (g := (mkF m 36 #[.val (.ref a0), .val (.int p1), .val (.int p2), .val (.int p3), .val (.long q4), .second, .val (.int p5)] [(.ref b14), (.ref a0)])) rfl rfl (hb hby own_d_ini_36)
  have Fw16 : Fld Z h16 a0 "com/example/ferrule/ferrule/learn/Pair" "lower" "[D" (.ref b14) := Fo15.same W16
  have Ew16 := Ew14.wr W16
  have Kp16 : Keep h0 h16 [a0] := Kp14.wr W16 (Or.inl (List.mem_of_getElem? (i := 0) rfl))
  have N16 := Fr.snoc X16 N13 g_t
  have Ftsize_16 := Ftsize_14.other W16 (Or.inr (slot_ne (a0 := a0') (Or.inl (hw _ (List.mem_of_getElem? (i := 48) rfl))) (Or.inl (hw _ (List.mem_of_getElem? (i := 21) rfl))) (by decide) (t := .int) (t' := (.array .double)) (by decide) (by decide)))
  obtain ⟨old17, Fo17⟩ := own_fld2 (O := "com/example/ferrule/ferrule/learn/Pair") (n := "fastest") (d := "D") (a0 := a0') Ew16 Fw16 (Or.inl (hw _ (List.mem_of_getElem? (i := 24) rfl))) (hw _ (List.mem_of_getElem? (i := 1) rfl))
  obtain ⟨T18, h18, X18, e18, W18, st18⟩ := putF X16 hx hZ hown (host := "") (Or.inl (hw _ (List.mem_of_getElem? (i := 23) rfl))) Via.refl e16 Fo17 Ew16 (Or.inl (hw _ (List.mem_of_getElem? (i := 24) rfl))) (hw _ (List.mem_of_getElem? (i := 1) rfl)) (ty := .double) (by decide) rfl rfl (g := (mkF m 43 #[.val (.ref a0), .val (.int p1), .val (.int p2), .val (.int p3), .val (.long q4), .second, .val (.int p5)] [(.double (9218868437227405312 : UInt64)), (.ref a0)])) rfl rfl (hb hby own_d_ini_43)
  have Fw18 : Fld Z h18 a0 "com/example/ferrule/ferrule/learn/Pair" "fastest" "D" (.double (9218868437227405312 : UInt64)) := Fo17.same W18
  have Ew18 := Ew16.wr W18
  have Kp18 : Keep h0 h18 [a0] := Kp16.wr W18 (Or.inl (List.mem_of_getElem? (i := 0) rfl))
  have N18 := Fr.snoc X18 N16 g_t
  have Ftsize_18 := Ftsize_16.other W18 (Or.inr (slot_ne (a0 := a0') (Or.inl (hw _ (List.mem_of_getElem? (i := 48) rfl))) (Or.inl (hw _ (List.mem_of_getElem? (i := 24) rfl))) (by decide) (t := .int) (t' := .double) (by decide) (by decide)))
  obtain ⟨old19, Fo19⟩ := own_fld2 (O := "com/example/ferrule/ferrule/learn/Pair") (n := "nextGridCount") (d := "J") (a0 := a0') Ew18 Fw18 (Or.inl (hw _ (List.mem_of_getElem? (i := 26) rfl))) (hw _ (List.mem_of_getElem? (i := 1) rfl))
  obtain ⟨T20, h20, X20, e20, W20, st20⟩ := putF X18 hx hZ hown (host := "") (Or.inl (hw _ (List.mem_of_getElem? (i := 25) rfl))) Via.refl e18 Fo19 Ew18 (Or.inl (hw _ (List.mem_of_getElem? (i := 26) rfl))) (hw _ (List.mem_of_getElem? (i := 1) rfl)) (ty := .long) (by decide) rfl rfl (g := (mkF m 48 #[.val (.ref a0), .val (.int p1), .val (.int p2), .val (.int p3), .val (.long q4), .second, .val (.int p5)] [(.long (1 : Int64)), (.ref a0)])) rfl rfl (hb hby own_d_ini_48)
  have Fw20 : Fld Z h20 a0 "com/example/ferrule/ferrule/learn/Pair" "nextGridCount" "J" (.long (1 : Int64)) := Fo19.same W20
  have Ew20 := Ew18.wr W20
  have Kp20 : Keep h0 h20 [a0] := Kp18.wr W20 (Or.inl (List.mem_of_getElem? (i := 0) rfl))
  have N20 := Fr.snoc X20 N18 g_t
  have Ftsize_20 := Ftsize_18.other W20 (Or.inr (slot_ne (a0 := a0') (Or.inl (hw _ (List.mem_of_getElem? (i := 48) rfl))) (Or.inl (hw _ (List.mem_of_getElem? (i := 26) rfl))) (by decide) (t := .int) (t' := .long) (by decide) (by decide)))
  obtain ⟨old21, Fo21⟩ := own_fld2 (O := "com/example/ferrule/ferrule/learn/Pair") (n := "number") (d := "I") (a0 := a0') Ew20 Fw20 (Or.inr (hw _ (List.mem_of_getElem? (i := 28) rfl))) (hw _ (List.mem_of_getElem? (i := 1) rfl))
  obtain ⟨T22, h22, X22, e22, W22, st22⟩ := putF X20 hx hZ hown (host := "") (Or.inl (hw _ (List.mem_of_getElem? (i := 27) rfl))) Via.refl e20 Fo21 Ew20 (Or.inr ⟨(hw _ (List.mem_of_getElem? (i := 28) rfl)), rfl, hnm⟩) (hw _ (List.mem_of_getElem? (i := 1) rfl)) (ty := .int) (by decide) rfl rfl (g := (mkF m 53 #[.val (.ref a0), .val (.int p1), .val (.int p2), .val (.int p3), .val (.long q4), .second, .val (.int p5)] [(.int p1), (.ref a0)])) rfl rfl (hb hby own_d_ini_53)
  have Fw22 : Fld Z h22 a0 "com/example/ferrule/ferrule/learn/Pair" "number" "I" (.int p1) := Fo21.same W22
  have Ew22 := Ew20.wr W22
  have Kp22 : Keep h0 h22 [a0] := Kp20.wr W22 (Or.inl (List.mem_of_getElem? (i := 0) rfl))
  have N22 := Fr.snoc X22 N20 g_t
  have Ftsize_22 := Ftsize_20.other W22 (Or.inr (slot_ne (a0 := a0') (Or.inl (hw _ (List.mem_of_getElem? (i := 48) rfl))) (Or.inr (hw _ (List.mem_of_getElem? (i := 28) rfl))) (by decide) (t := .int) (t' := .int) (by decide) (by decide)))
  obtain ⟨old23, Fo23⟩ := own_fld2 (O := "com/example/ferrule/ferrule/learn/Pair") (n := "state") (d := "I") (a0 := a0') Ew22 Fw22 (Or.inr (hw _ (List.mem_of_getElem? (i := 30) rfl))) (hw _ (List.mem_of_getElem? (i := 1) rfl))
  obtain ⟨T24, h24, X24, e24, W24, st24⟩ := putF X22 hx hZ hown (host := "") (Or.inl (hw _ (List.mem_of_getElem? (i := 29) rfl))) Via.refl e22 Fo23 Ew22 (Or.inr ⟨(hw _ (List.mem_of_getElem? (i := 30) rfl)), rfl, hnm⟩) (hw _ (List.mem_of_getElem? (i := 1) rfl)) (ty := .int) (by decide) rfl rfl (g := (mkF m 58 #[.val (.ref a0), .val (.int p1), .val (.int p2), .val (.int p3), .val (.long q4), .second, .val (.int p5)] [(.int p2), (.ref a0)])) rfl rfl (hb hby own_d_ini_58)
  have Fw24 : Fld Z h24 a0 "com/example/ferrule/ferrule/learn/Pair" "state" "I" (.int p2) := Fo23.same W24
  have Ew24 := Ew22.wr W24
  have Kp24 : Keep h0 h24 [a0] := Kp22.wr W24 (Or.inl (List.mem_of_getElem? (i := 0) rfl))
  have N24 := Fr.snoc X24 N22 g_t
  have Ftsize_24 := Ftsize_22.other W24 (Or.inr (slot_ne (a0 := a0') (Or.inl (hw _ (List.mem_of_getElem? (i := 48) rfl))) (Or.inr (hw _ (List.mem_of_getElem? (i := 30) rfl))) (by decide) (t := .int) (t' := .int) (by decide) (by decide)))
  obtain ⟨old25, Fo25⟩ := own_fld2 (O := "com/example/ferrule/ferrule/learn/Pair") (n := "action") (d := "I") (a0 := a0') Ew24 Fw24 (Or.inr (hw _ (List.mem_of_getElem? (i := 32) rfl))) (hw _ (List.mem_of_getElem? (i := 1) rfl))
  obtain ⟨T26, h26, X26, e26, W26, st26⟩ := putF X24 hx hZ hown (host := "") (Or.inl (hw _ (List.mem_of_getElem? (i := 31) rfl))) Via.refl e24 Fo25 Ew24 (Or.inr ⟨(hw _ (List.mem_of_getElem? (i := 32) rfl)), rfl, hnm⟩) (hw _ (List.mem_of_getElem? (i := 1) rfl)) (ty := .int) (by decide) rfl rfl (g := (mkF m 63 #[.val (.ref a0), .val (.int p1), .val (.int p2), .val (.int p3), .val (.long q4), .second, .val (.int p5)] [(.int p3), (.ref a0)])) rfl rfl (hb hby own_d_ini_63)
  have Fw26 : Fld Z h26 a0 "com/example/ferrule/ferrule/learn/Pair" "action" "I" (.int p3) := Fo25.same W26
  have Ew26 := Ew24.wr W26
  have Kp26 : Keep h0 h26 [a0] := Kp24.wr W26 (Or.inl (List.mem_of_getElem? (i := 0) rfl))
  have N26 := Fr.snoc X26 N24 g_t
  have Ftsize_26 := Ftsize_24.other W26 (Or.inr (slot_ne (a0 := a0') (Or.inl (hw _ (List.mem_of_getElem? (i := 48) rfl))) (Or.inr (hw _ (List.mem_of_getElem? (i := 32) rfl))) (by decide) (t := .int) (t' := .int) (by decide) (by decide)))
  obtain ⟨old27, Fo27⟩ := own_fld2 (O := "com/example/ferrule/ferrule/learn/Pair") (n := "sureCount") (d := "J") (a0 := a0') Ew26 Fw26 (Or.inr (hw _ (List.mem_of_getElem? (i := 34) rfl))) (hw _ (List.mem_of_getElem? (i := 1) rfl))
  obtain ⟨T28, h28, X28, e28, W28, st28⟩ := putF X26 hx hZ hown (host := "") (Or.inl (hw _ (List.mem_of_getElem? (i := 33) rfl))) Via.refl e26 Fo27 Ew26 (Or.inr ⟨(hw _ (List.mem_of_getElem? (i := 34) rfl)), rfl, hnm⟩) (hw _ (List.mem_of_getElem? (i := 1) rfl)) (ty := .long) (by decide) rfl rfl (g := (mkF m 69 #[.val (.ref a0), .val (.int p1), .val (.int p2), .val (.int p3), .val (.long q4), .second, .val (.int p5)] [(.long q4), (.ref a0)])) rfl rfl (hb hby own_d_ini_69)
  have Fw28 : Fld Z h28 a0 "com/example/ferrule/ferrule/learn/Pair" "sureCount" "J" (.long q4) := Fo27.same W28
  have Ew28 := Ew26.wr W28
  have Kp28 : Keep h0 h28 [a0] := Kp26.wr W28 (Or.inl (List.mem_of_getElem? (i := 0) rfl))
  have N28 := Fr.snoc X28 N26 g_t
  have Ftsize_28 := Ftsize_26.other W28 (Or.inr (slot_ne (a0 := a0') (Or.inl (hw _ (List.mem_of_getElem? (i := 48) rfl))) (Or.inr (hw _ (List.mem_of_getElem? (i := 34) rfl))) (by decide) (t := .int) (t' := .long) (by decide) (by decide)))
  obtain ⟨old29, Fo29⟩ := own_fld2 (O := "com/example/ferrule/ferrule/learn/Pair") (n := "successorCount") (d := "I") (a0 := a0') Ew28 Fw28 (Or.inr (hw _ (List.mem_of_getElem? (i := 36) rfl))) (hw _ (List.mem_of_getElem? (i := 1) rfl))
  obtain ⟨T30, h30, X30, e30, W30, st30⟩ := putF X28 hx hZ hown (host := "") (Or.inl (hw _ (List.mem_of_getElem? (i := 35) rfl))) Via.refl e28 Fo29 Ew28 (Or.inr ⟨(hw _ (List.mem_of_getElem? (i := 36) rfl)), rfl, hnm⟩) (hw _ (List.mem_of_getElem? (i := 1) rfl)) (ty := .int) (by decide) rfl rfl (g := (mkF m 75 #[.val (.ref a0), .val (.int p1), .val (.int p2), .val (.int p3), .val (.long q4), .second, .val (.int p5)] [(.int p5), (.ref a0)])) rfl rfl (hb hby own_d_ini_75)
  have Fw30 : Fld Z h30 a0 "com/example/ferrule/ferrule/learn/Pair" "successorCount" "I" (.int p5) := Fo29.same W30
  have Ew30 := Ew28.wr W30
  have Kp30 : Keep h0 h30 [a0] := Kp28.wr W30 (Or.inl (List.mem_of_getElem? (i := 0) rfl))
  have N30 := Fr.snoc X30 N28 g_t
  have Ftsize_30 := Ftsize_28.other W30 (Or.inr (slot_ne (a0 := a0') (Or.inl (hw _ (List.mem_of_getElem? (i := 48) rfl))) (Or.inr (hw _ (List.mem_of_getElem? (i := 36) rfl))) (by decide) (t := .int) (t' := .int) (by decide) (by decide)))
  obtain ⟨fs, hr, hrun, hended, hW, hsame⟩ := X30.leave (v := none) (fun _ => rfl)
  refine ⟨_, _, pre0 _ ?_, hrun, hended, _, _, rfl, ?_, ⟨_, rfl⟩, hW, hsame.mono (by decide) (by decide)⟩
  · show Steps p.tables e below (s₁.setTop (mkF m 0 #[.val (.ref a0), .val (.int p1), .val (.int p2), .val (.int p3), .val (.long q4), .second, .val (.int p5)] [])) _
    refine XS.aloadN X0.here hx rfl (hb hby own_d_ini_0) rfl rfl ?_
    show Steps p.tables e below (s₁.setTop (mkF m 1 #[.val (.ref a0), .val (.int p1), .val (.int p2), .val (.int p3), .val (.long q4), .second, .val (.int p5)] [(.ref a0)])) _
    refine st1 _ ?_
    show Steps p.tables e below (T1.setTop (mkF m 4 #[.val (.ref a0), .val (.int p1), .val (.int p2), .val (.int p3), .val (.long q4), .second, .val (.int p5)] [])) _
    refine XS.aloadN X1.here hx rfl (hb hby own_d_ini_4) rfl rfl ?_
    show Steps p.tables e below (T1.setTop (mkF m 5 #[.val (.ref a0), .val (.int p1), .val (.int p2), .val (.int p3), .val (.long q4), .second, .val (.int p5)] [(.ref a0)])) _
    refine XS.iconst X1.here hx rfl (hb hby own_d_ini_5) ?_
    show Steps p.tables e below (T1.setTop (mkF m 6 #[.val (.ref a0), .val (.int p1), .val (.int p2), .val (.int p3), .val (.long q4), .second, .val (.int p5)] [(.int (2 : Int32)), (.ref a0)])) _
    refine st2 _ ?_
    show Steps p.tables e below (T2.setTop (mkF m 8 #[.val (.ref a0), .val (.int p1), .val (.int p2), .val (.int p3), .val (.long q4), .second, .val (.int p5)] [(.ref b2), (.ref a0)])) _
    refine st4 _ ?_
    show Steps p.tables e below (T4.setTop (mkF m 11 #[.val (.ref a0), .val (.int p1), .val (.int p2), .val (.int p3), .val (.long q4), .second, .val (.int p5)] [])) _
    refine XS.aloadN X4.here hx rfl (hb hby own_d_ini_11) rfl rfl ?_
    show Steps p.tables e below (T4.setTop (mkF m 12 #[.val (.ref a0), .val (.int p1), .val (.int p2), .val (.int p3), .val (.long q4), .second, .val (.int p5)] [(.ref a0)])) _
    refine XS.iconst X4.here hx rfl (hb hby own_d_ini_12) ?_
    show Steps p.tables e below (T4.setTop (mkF m 13 #[.val (.ref a0), .val (.int p1), .val (.int p2), .val (.int p3), .val (.long q4), .second, .val (.int p5)] [(.int (2 : Int32)), (.ref a0)])) _
    refine st5 _ ?_
    show Steps p.tables e below (T5.setTop (mkF m 15 #[.val (.ref a0), .val (.int p1), .val (.int p2), .val (.int p3), .val (.long q4), .second, .val (.int p5)] [(.ref b5), (.ref a0)])) _
    refine st7 _ ?_
    show Steps p.tables e below (T7.setTop (mkF m 18 #[.val (.ref a0), .val (.int p1), .val (.int p2), .val (.int p3), .val (.long q4), .second, .val (.int p5)] [])) _
    refine XS.aloadN X7.here hx rfl (hb hby own_d_ini_18) rfl rfl ?_
    show Steps p.tables e below (T7.setTop (mkF m 19 #[.val (.ref a0), .val (.int p1), .val (.int p2), .val (.int p3), .val (.long q4), .second, .val (.int p5)] [(.ref a0)])) _
    refine XS.iconst X7.here hx rfl (hb hby own_d_ini_19) ?_
    show Steps p.tables e below (T7.setTop (mkF m 20 #[.val (.ref a0), .val (.int p1), .val (.int p2), .val (.int p3), .val (.long q4), .second, .val (.int p5)] [(.int (2 : Int32)), (.ref a0)])) _
    refine st8 _ ?_
    show Steps p.tables e below (T8.setTop (mkF m 22 #[.val (.ref a0), .val (.int p1), .val (.int p2), .val (.int p3), .val (.long q4), .second, .val (.int p5)] [(.ref b8), (.ref a0)])) _
    refine st10 _ ?_
    show Steps p.tables e below (T10.setTop (mkF m 25 #[.val (.ref a0), .val (.int p1), .val (.int p2), .val (.int p3), .val (.long q4), .second, .val (.int p5)] [])) _
    refine XS.aloadN X10.here hx rfl (hb hby own_d_ini_25) rfl rfl ?_
    show Steps p.tables e below (T10.setTop (mkF m 26 #[.val (.ref a0), .val (.int p1), .val (.int p2), .val (.int p3), .val (.long q4), .second, .val (.int p5)] [(.ref a0)])) _
    refine XS.iconst X10.here hx rfl (hb hby own_d_ini_26) ?_
    show Steps p.tables e below (T10.setTop (mkF m 27 #[.val (.ref a0), .val (.int p1), .val (.int p2), .val (.int p3), .val (.long q4), .second, .val (.int p5)] [(.int (2 : Int32)), (.ref a0)])) _
    refine st11 _ ?_
    show Steps p.tables e below (T11.setTop (mkF m 29 #[.val (.ref a0), .val (.int p1), .val (.int p2), .val (.int p3), .val (.long q4), .second, .val (.int p5)] [(.ref b11), (.ref a0)])) _
    refine st13 _ ?_
    show Steps p.tables e below (T13.setTop (mkF m 32 #[.val (.ref a0), .val (.int p1), .val (.int p2), .val (.int p3), .val (.long q4), .second, .val (.int p5)] [])) _
    refine XS.aloadN X13.here hx rfl (hb hby own_d_ini_32) rfl rfl ?_
    show Steps p.tables e below (T13.setTop (mkF m 33 #[.val (.ref a0), .val (.int p1), .val (.int p2), .val (.int p3), .val (.long q4), .second, .val (.int p5)] [(.ref a0)])) _
    refine XS.iconst X13.here hx rfl (hb hby own_d_ini_33) ?_
    show Steps p.tables e below (T13.setTop (mkF m 34 #[.val (.ref a0), .val (.int p1), .val (.int p2), .val (.int p3), .val (.long q4), .second, .val (.int p5)] [(.int (0 : Int32)), (.ref a0)])) _
    refine st14 _ ?_
    show Steps p.tables e below (T14.setTop (mkF m 36 #[.val (.ref a0), .val (.int p1), .val (.int p2), .val (.int p3), .val (.long q4), .second, .val (.int p5)] [(.ref b14), (.ref a0)])) _
    refine st16 _ ?_
    show Steps p.tables e below (T16.setTop (mkF m 39 #[.val (.ref a0), .val (.int p1), .val (.int p2), .val (.int p3), .val (.long q4), .second, .val (.int p5)] [])) _
    refine XS.aloadN X16.here hx rfl (hb hby own_d_ini_39) rfl rfl ?_
    show Steps p.tables e below (T16.setTop (mkF m 40 #[.val (.ref a0), .val (.int p1), .val (.int p2), .val (.int p3), .val (.long q4), .second, .val (.int p5)] [(.ref a0)])) _
    refine X16.ldc2DoubleC hx hown (mvT hZ (hw _ (List.mem_of_getElem? (i := 22) rfl))) (g := (mkF m 40 #[.val (.ref a0), .val (.int p1), .val (.int p2), .val (.int p3), .val (.long q4), .second, .val (.int p5)] [(.ref a0)])) rfl (hb hby own_d_ini_40) _ ?_
    show Steps p.tables e below (T16.setTop (mkF m 43 #[.val (.ref a0), .val (.int p1), .val (.int p2), .val (.int p3), .val (.long q4), .second, .val (.int p5)] [(.double (9218868437227405312 : UInt64)), (.ref a0)])) _
    refine st18 _ ?_
    show Steps p.tables e below (T18.setTop (mkF m 46 #[.val (.ref a0), .val (.int p1), .val (.int p2), .val (.int p3), .val (.long q4), .second, .val (.int p5)] [])) _
    refine XS.aloadN X18.here hx rfl (hb hby own_d_ini_46) rfl rfl ?_
    show Steps p.tables e below (T18.setTop (mkF m 47 #[.val (.ref a0), .val (.int p1), .val (.int p2), .val (.int p3), .val (.long q4), .second, .val (.int p5)] [(.ref a0)])) _
    refine XS.lconst X18.here hx rfl (hb hby own_d_ini_47) ?_
    show Steps p.tables e below (T18.setTop (mkF m 48 #[.val (.ref a0), .val (.int p1), .val (.int p2), .val (.int p3), .val (.long q4), .second, .val (.int p5)] [(.long (1 : Int64)), (.ref a0)])) _
    refine st20 _ ?_
    show Steps p.tables e below (T20.setTop (mkF m 51 #[.val (.ref a0), .val (.int p1), .val (.int p2), .val (.int p3), .val (.long q4), .second, .val (.int p5)] [])) _
    refine XS.aloadN X20.here hx rfl (hb hby own_d_ini_51) rfl rfl ?_
    show Steps p.tables e below (T20.setTop (mkF m 52 #[.val (.ref a0), .val (.int p1), .val (.int p2), .val (.int p3), .val (.long q4), .second, .val (.int p5)] [(.ref a0)])) _
    refine XS.iloadN X20.here hx rfl (hb hby own_d_ini_52) rfl ?_
    show Steps p.tables e below (T20.setTop (mkF m 53 #[.val (.ref a0), .val (.int p1), .val (.int p2), .val (.int p3), .val (.long q4), .second, .val (.int p5)] [(.int p1), (.ref a0)])) _
    refine st22 _ ?_
    show Steps p.tables e below (T22.setTop (mkF m 56 #[.val (.ref a0), .val (.int p1), .val (.int p2), .val (.int p3), .val (.long q4), .second, .val (.int p5)] [])) _
    refine XS.aloadN X22.here hx rfl (hb hby own_d_ini_56) rfl rfl ?_
    show Steps p.tables e below (T22.setTop (mkF m 57 #[.val (.ref a0), .val (.int p1), .val (.int p2), .val (.int p3), .val (.long q4), .second, .val (.int p5)] [(.ref a0)])) _
    refine XS.iloadN X22.here hx rfl (hb hby own_d_ini_57) rfl ?_
    show Steps p.tables e below (T22.setTop (mkF m 58 #[.val (.ref a0), .val (.int p1), .val (.int p2), .val (.int p3), .val (.long q4), .second, .val (.int p5)] [(.int p2), (.ref a0)])) _
    refine st24 _ ?_
    show Steps p.tables e below (T24.setTop (mkF m 61 #[.val (.ref a0), .val (.int p1), .val (.int p2), .val (.int p3), .val (.long q4), .second, .val (.int p5)] [])) _
    refine XS.aloadN X24.here hx rfl (hb hby own_d_ini_61) rfl rfl ?_
    show Steps p.tables e below (T24.setTop (mkF m 62 #[.val (.ref a0), .val (.int p1), .val (.int p2), .val (.int p3), .val (.long q4), .second, .val (.int p5)] [(.ref a0)])) _
    refine XS.iloadN X24.here hx rfl (hb hby own_d_ini_62) rfl ?_
    show Steps p.tables e below (T24.setTop (mkF m 63 #[.val (.ref a0), .val (.int p1), .val (.int p2), .val (.int p3), .val (.long q4), .second, .val (.int p5)] [(.int p3), (.ref a0)])) _
    refine st26 _ ?_
    show Steps p.tables e below (T26.setTop (mkF m 66 #[.val (.ref a0), .val (.int p1), .val (.int p2), .val (.int p3), .val (.long q4), .second, .val (.int p5)] [])) _
    refine XS.aloadN X26.here hx rfl (hb hby own_d_ini_66) rfl rfl ?_
    show Steps p.tables e below (T26.setTop (mkF m 67 #[.val (.ref a0), .val (.int p1), .val (.int p2), .val (.int p3), .val (.long q4), .second, .val (.int p5)] [(.ref a0)])) _
    refine XS.lload X26.here hx rfl (hb hby own_d_ini_67) rfl ?_
    show Steps p.tables e below (T26.setTop (mkF m 69 #[.val (.ref a0), .val (.int p1), .val (.int p2), .val (.int p3), .val (.long q4), .second, .val (.int p5)] [(.long q4), (.ref a0)])) _
    refine st28 _ ?_
    show Steps p.tables e below (T28.setTop (mkF m 72 #[.val (.ref a0), .val (.int p1), .val (.int p2), .val (.int p3), .val (.long q4), .second, .val (.int p5)] [])) _
    refine XS.aloadN X28.here hx rfl (hb hby own_d_ini_72) rfl rfl ?_
    show Steps p.tables e below (T28.setTop (mkF m 73 #[.val (.ref a0), .val (.int p1), .val (.int p2), .val (.int p3), .val (.long q4), .second, .val (.int p5)] [(.ref a0)])) _
    refine XS.iload X28.here hx rfl (hb hby own_d_ini_73) rfl ?_
    show Steps p.tables e below (T28.setTop (mkF m 75 #[.val (.ref a0), .val (.int p1), .val (.int p2), .val (.int p3), .val (.long q4), .second, .val (.int p5)] [(.int p5), (.ref a0)])) _
    refine st30 _ ?_
    show Steps p.tables e below (T30.setTop (mkF m 78 #[.val (.ref a0), .val (.int p1), .val (.int p2), .val (.int p3), .val (.long q4), .second, .val (.int p5)] [])) _
    exact X30.returnOut hx Bd.returns (hb hby own_d_ini_78) hr
  · show Q_ini Z a0 p1 p2 p3 q4 p5 h0 n0 _ T30.heap _
    rw [e30]
    exact ⟨rfl, N30, Kp30, Ew30, Fw30, Ftsize_30⟩
theorem own_d_ic_0 : decode prog_16_method_12_code 0 = .ok (.aload_n 0, 1) := by decide +kernel
theorem own_d_ic_1 : decode prog_16_method_12_code 1 = .ok (.getfield 52, 3) := by decide +kernel
theorem own_d_ic_4 : decode prog_16_method_12_code 4 = .ok (.ifCond .le 18, 3) := by decide +kernel
theorem own_d_ic_7 : decode prog_16_method_12_code 7 = .ok (.aload_n 0, 1) := by decide +kernel
theorem own_d_ic_8 : decode prog_16_method_12_code 8 = .ok (.getfield 58, 3) := by decide +kernel
theorem own_d_ic_11 : decode prog_16_method_12_code 11 = .ok (.aload_n 0, 1) := by decide +kernel
theorem own_d_ic_12 : decode prog_16_method_12_code 12 = .ok (.getfield 52, 3) := by decide +kernel
theorem own_d_ic_15 : decode prog_16_method_12_code 15 = .ok (.if_icmp .ne 7, 3) := by decide +kernel
theorem own_d_ic_18 : decode prog_16_method_12_code 18 = .ok (.iconst 1, 1) := by decide +kernel
theorem own_d_ic_19 : decode prog_16_method_12_code 19 = .ok (.goto 4, 3) := by decide +kernel
theorem own_d_ic_23 : decode prog_16_method_12_code 23 = .ok (.ireturn, 1) := by decide +kernel
theorem own_d_ic_22 : decode prog_16_method_12_code 22 = .ok (.iconst 0, 1) := by decide +kernel
def F_ic (sc : Int32) (sz : Int32) : Int32 := (if (0 : Int32) < sc then (if sz = sc then (1 : Int32) else (0 : Int32)) else (0 : Int32))
theorem own_ef_ic (m : MethodId) (a0 : Addr) : entryFrame m #[(.ref a0)] 1 = mkF m 0 #[.val (.ref a0)] [] := by first | (simp [entryFrame, mkF, argsToLocals, Value.category]; done) | rfl
def Q_ic (Z : State) (a0 : Addr) (sc : Int32) (sz : Int32) (h0 : Heap) (n0 : Nat) (v : Option Value) (h : Heap) (L : List Loc) : Prop := v = some (.int (F_ic sc sz)) ∧ Fr n0 L ∧ h = h0
set_option maxRecDepth 65536 in
set_option maxHeartbeats 40000000 in
theorem rm_ic (l : Launch) (Z : State) (a0' : Array Value) (hw : ∀ d ∈ tables_1, d.before a0' Z = true) (ws : List Jvm.Cond) (a0 : Addr) (sc : Int32) (sz : Int32) (h0 : Heap) (n0 : Nat) (Z0 : n0 ≤ h0.size) (FSC : Fld Z h0 a0 "com/example/ferrule/ferrule/learn/Pair" "successorCount" "I" (.int sc)) (FSZ : Fld Z h0 a0 "com/example/ferrule/ferrule/learn/Pair" "size" "I" (.int sz)) :
    MetFree l (⟨"com/example/ferrule/ferrule/learn/Pair", "isComplete", "()Z"⟩ : MethodName) (head1 (Jvm.Cond.code (⟨"com/example/ferrule/ferrule/learn/Pair", "isComplete", "()Z"⟩ : MethodName) prog_16_method_12_code 1 (some .boolean) :: ws) ({ frames := 0, cells := 0, slots := 0, locals := 0 } : Room)) (fun a U => a = #[(.ref a0)] ∧ Z.Warmed39 U.vm ∧ U.heap = h0) (fun _ _ _ _ _ => True) (fun _ U o U' => ∃ v L, o = .returned v ∧ Q_ic Z a0 sc sz h0 n0 v U'.heap L ∧ FrameEnd U o U' L ({ frames := 0, cells := 0, slots := 0, locals := 0 } : Room).cells ({ frames := 0, cells := 0, slots := 0, locals := 0 } : Room).slots) := by
  refine MetFree.of_bodySF (plainFor_of_name own_pn0) hisR ?_
  intro p e s m args below meth c s₁ Bd hml0 hP hK
  obtain ⟨rfl, hZ, hh⟩ := hP
  have hx := Bd.exec
  have hby := Bd.bytes
  have hml : c.maxLocals = 1 := hml0
  have hown : s.vm.findClass "com/example/ferrule/ferrule/learn/Pair" = some m.cls := findClass_of_methodNamed Bd.named
  have hnm := (name_of_methodNamed Bd.named Bd.method).1
  have X0 : Stand p l e ({ frames := 0, cells := 0, slots := 0, locals := 0 } : Room) s m #[(.ref a0)] below meth c s₁ [] 0 0 := Stand.of_body Bd
  have e0 : s₁.heap = h0 := by rw [← hh, Bd.state]; rfl
  have N0 := Fr.nil n0
  have pre0 : ∀ t, Steps p.tables e below (s₁.setTop (mkF m 0 #[.val (.ref a0)] [])) t → Steps p.tables e below (s₁.setTop (entryFrame m #[(.ref a0)] 1)) t := fun t k => castTop (own_ef_ic m a0) k
  obtain ⟨T31, X31, e31, st31⟩ := getF X0 hx hZ hown (host := "") (Or.inl (hw _ (List.mem_of_getElem? (i := 35) rfl))) Via.refl e0 FSC (g := (mkF m 1 #[.val (.ref a0)] [(.ref a0)])) rfl rfl (hb hby own_d_ic_1)
  have pre33 : ∀ t, Steps p.tables e below (T31.setTop (mkF m 4 #[.val (.ref a0)] [(.int sc)])) t → Steps p.tables e below (s₁.setTop (entryFrame m #[(.ref a0)] 1)) t := fun t k => pre0 t (by
    show Steps p.tables e below (s₁.setTop (mkF m 0 #[.val (.ref a0)] [])) _
    refine XS.aloadN X0.here hx rfl (hb hby own_d_ic_0) rfl rfl ?_
    show Steps p.tables e below (s₁.setTop (mkF m 1 #[.val (.ref a0)] [(.ref a0)])) _
    refine st31 _ ?_
    exact k)
  by_cases hc4_32 : (0 : Int32) < sc
  · obtain ⟨T34, X34, e34, st34⟩ := getF X31 hx hZ hown (host := "") (Or.inl (hw _ (List.mem_of_getElem? (i := 47) rfl))) Via.refl e31 FSZ (g := (mkF m 8 #[.val (.ref a0)] [(.ref a0)])) rfl rfl (hb hby own_d_ic_8)
    obtain ⟨T35, X35, e35, st35⟩ := getF X34 hx hZ hown (host := "") (Or.inl (hw _ (List.mem_of_getElem? (i := 35) rfl))) Via.refl e34 FSC (g := (mkF m 12 #[.val (.ref a0)] [(.ref a0), (.int sz)])) rfl rfl (hb hby own_d_ic_12)
    have pre37 : ∀ t, Steps p.tables e below (T35.setTop (mkF m 15 #[.val (.ref a0)] [(.int sc), (.int sz)])) t → Steps p.tables e below (s₁.setTop (entryFrame m #[(.ref a0)] 1)) t := fun t k => pre33 t (by
      show Steps p.tables e below (T31.setTop (mkF m 4 #[.val (.ref a0)] [(.int sc)])) _
      refine XS.ifNo X31.here hx rfl (hb hby own_d_ic_4) rfl ((if0 _ _).trans (tlt hc4_32).2.2.2) ?_
      show Steps p.tables e below (T31.setTop (mkF m 7 #[.val (.ref a0)] [])) _
      refine XS.aloadN X31.here hx rfl (hb hby own_d_ic_7) rfl rfl ?_
      show Steps p.tables e below (T31.setTop (mkF m 8 #[.val (.ref a0)] [(.ref a0)])) _
      refine st34 _ ?_
      show Steps p.tables e below (T34.setTop (mkF m 11 #[.val (.ref a0)] [(.int sz)])) _
      refine XS.aloadN X34.here hx rfl (hb hby own_d_ic_11) rfl rfl ?_
      show Steps p.tables e below (T34.setTop (mkF m 12 #[.val (.ref a0)] [(.ref a0), (.int sz)])) _
      refine st35 _ ?_
      exact k)
    by_cases hc15_36 : sz = sc
    · obtain ⟨fs, hr, hrun, hended, hW, hsame⟩ := X35.leave (v := some (.int (1 : Int32))) (fun h => by rw [Bd.returns] at h; cases h)
      refine ⟨_, _, pre37 _ ?_, hrun, hended, _, _, rfl, ?_, ⟨_, rfl⟩, hW, hsame.mono (by decide) (by decide)⟩
      · show Steps p.tables e below (T35.setTop (mkF m 15 #[.val (.ref a0)] [(.int sc), (.int sz)])) _
        refine XS.icmpNo X35.here hx rfl (hb hby own_d_ic_15) rfl (teq hc15_36).2 ?_
        show Steps p.tables e below (T35.setTop (mkF m 18 #[.val (.ref a0)] [])) _
        refine XS.iconst X35.here hx rfl (hb hby own_d_ic_18) ?_
        show Steps p.tables e below (T35.setTop (mkF m 19 #[.val (.ref a0)] [(.int (1 : Int32))])) _
        refine XS.goto X35.here hx rfl (pc0 := 19) (pc' := 23) rfl (hb hby own_d_ic_19) (by decide) (by decide) ?_
        show Steps p.tables e below (T35.setTop (mkF m 23 #[.val (.ref a0)] [(.int (1 : Int32))])) _
        exact retN X35 hx (t := .boolean) Bd.returns (by simp) (hb hby own_d_ic_23) hr
      · show Q_ic Z a0 sc sz h0 n0 _ T35.heap _
        refine ⟨?_, N0, e35⟩
        rw [F_ic, if_pos hc4_32, if_pos hc15_36]
    · obtain ⟨fs, hr, hrun, hended, hW, hsame⟩ := X35.leave (v := some (.int (0 : Int32))) (fun h => by rw [Bd.returns] at h; cases h)
      refine ⟨_, _, pre37 _ ?_, hrun, hended, _, _, rfl, ?_, ⟨_, rfl⟩, hW, hsame.mono (by decide) (by decide)⟩
      · show Steps p.tables e below (T35.setTop (mkF m 15 #[.val (.ref a0)] [(.int sc), (.int sz)])) _
        refine XS.icmpYes X35.here hx rfl (pc0 := 15) (pc' := 22) rfl (hb hby own_d_ic_15) rfl (feq hc15_36).2 (by decide) (by decide) ?_
        show Steps p.tables e below (T35.setTop (mkF m 22 #[.val (.ref a0)] [])) _
        refine XS.iconst X35.here hx rfl (hb hby own_d_ic_22) ?_
        show Steps p.tables e below (T35.setTop (mkF m 23 #[.val (.ref a0)] [(.int (0 : Int32))])) _
        exact retN X35 hx (t := .boolean) Bd.returns (by simp) (hb hby own_d_ic_23) hr
      · show Q_ic Z a0 sc sz h0 n0 _ T35.heap _
        refine ⟨?_, N0, e35⟩
        rw [F_ic, if_pos hc4_32, if_neg hc15_36]
  · obtain ⟨fs, hr, hrun, hended, hW, hsame⟩ := X31.leave (v := some (.int (0 : Int32))) (fun h => by rw [Bd.returns] at h; cases h)
    refine ⟨_, _, pre33 _ ?_, hrun, hended, _, _, rfl, ?_, ⟨_, rfl⟩, hW, hsame.mono (by decide) (by decide)⟩
    · show Steps p.tables e below (T31.setTop (mkF m 4 #[.val (.ref a0)] [(.int sc)])) _
      refine XS.ifYes X31.here hx rfl (pc0 := 4) (pc' := 22) rfl (hb hby own_d_ic_4) rfl ((if0 _ _).trans (flt hc4_32).2.2.2) (by decide) (by decide) ?_
      show Steps p.tables e below (T31.setTop (mkF m 22 #[.val (.ref a0)] [])) _
      refine XS.iconst X31.here hx rfl (hb hby own_d_ic_22) ?_
      show Steps p.tables e below (T31.setTop (mkF m 23 #[.val (.ref a0)] [(.int (0 : Int32))])) _
      exact retN X31 hx (t := .boolean) Bd.returns (by simp) (hb hby own_d_ic_23) hr
    · show Q_ic Z a0 sc sz h0 n0 _ T31.heap _
      refine ⟨?_, N0, e31⟩
      rw [F_ic, if_neg hc4_32]
theorem own_d_size_0 : decode prog_16_method_3_code 0 = .ok (.aload_n 0, 1) := by decide +kernel
theorem own_d_size_1 : decode prog_16_method_3_code 1 = .ok (.getfield 58, 3) := by decide +kernel
theorem own_d_size_4 : decode prog_16_method_3_code 4 = .ok (.ireturn, 1) := by decide +kernel
def F_size (sz : Int32) : Int32 := sz
theorem own_ef_size (m : MethodId) (a0 : Addr) : entryFrame m #[(.ref a0)] 1 = mkF m 0 #[.val (.ref a0)] [] := by first | (simp [entryFrame, mkF, argsToLocals, Value.category]; done) | rfl
def Q_size (Z : State) (a0 : Addr) (sz : Int32) (h0 : Heap) (n0 : Nat) (v : Option Value) (h : Heap) (L : List Loc) : Prop := v = some (.int (F_size sz)) ∧ Fr n0 L ∧ h = h0
set_option maxRecDepth 65536 in
set_option maxHeartbeats 40000000 in
theorem rm_size (l : Launch) (Z : State) (a0' : Array Value) (hw : ∀ d ∈ tables_1, d.before a0' Z = true) (ws : List Jvm.Cond) (a0 : Addr) (sz : Int32) (h0 : Heap) (n0 : Nat) (Z0 : n0 ≤ h0.size) (FSZ : Fld Z h0 a0 "com/example/ferrule/ferrule/learn/Pair" "size" "I" (.int sz)) :
    MetFree l (⟨"com/example/ferrule/ferrule/learn/Pair", "size", "()I"⟩ : MethodName) (head1 (Jvm.Cond.code (⟨"com/example/ferrule/ferrule/learn/Pair", "size", "()I"⟩ : MethodName) prog_16_method_3_code 1 (some .int) :: ws) ({ frames := 0, cells := 0, slots := 0, locals := 0 } : Room)) (fun a U => a = #[(.ref a0)] ∧ Z.Warmed39 U.vm ∧ U.heap = h0) (fun _ _ _ _ _ => True) (fun _ U o U' => ∃ v L, o = .returned v ∧ Q_size Z a0 sz h0 n0 v U'.heap L ∧ FrameEnd U o U' L ({ frames := 0, cells := 0, slots := 0, locals := 0 } : Room).cells ({ frames := 0, cells := 0, slots := 0, locals := 0 } : Room).slots) := by
  refine MetFree.of_bodySF (plainFor_of_name own_pn0) hisR ?_
  intro p e s m args below meth c s₁ Bd hml0 hP hK
  obtain ⟨rfl, hZ, hh⟩ := hP
  have hx := Bd.exec
  have hby := Bd.bytes
  have hml : c.maxLocals = 1 := hml0
  have hown : s.vm.findClass "com/example/ferrule/ferrule/learn/Pair" = some m.cls := findClass_of_methodNamed Bd.named
  have hnm := (name_of_methodNamed Bd.named Bd.method).1
  have X0 : Stand p l e ({ frames := 0, cells := 0, slots := 0, locals := 0 } : Room) s m #[(.ref a0)] below meth c s₁ [] 0 0 := Stand.of_body Bd
  have e0 : s₁.heap = h0 := by rw [← hh, Bd.state]; rfl
  have N0 := Fr.nil n0
  have pre0 : ∀ t, Steps p.tables e below (s₁.setTop (mkF m 0 #[.val (.ref a0)] [])) t → Steps p.tables e below (s₁.setTop (entryFrame m #[(.ref a0)] 1)) t := fun t k => castTop (own_ef_size m a0) k
  obtain ⟨T38, X38, e38, st38⟩ := getF X0 hx hZ hown (host := "") (Or.inl (hw _ (List.mem_of_getElem? (i := 47) rfl))) Via.refl e0 FSZ (g := (mkF m 1 #[.val (.ref a0)] [(.ref a0)])) rfl rfl (hb hby own_d_size_1)
  obtain ⟨fs, hr, hrun, hended, hW, hsame⟩ := X38.leave (v := some (.int sz)) (fun h => by rw [Bd.returns] at h; cases h)
  refine ⟨_, _, pre0 _ ?_, hrun, hended, _, _, rfl, ?_, ⟨_, rfl⟩, hW, hsame.mono (by decide) (by decide)⟩
  · show Steps p.tables e below (s₁.setTop (mkF m 0 #[.val (.ref a0)] [])) _
    refine XS.aloadN X0.here hx rfl (hb hby own_d_size_0) rfl rfl ?_
    show Steps p.tables e below (s₁.setTop (mkF m 1 #[.val (.ref a0)] [(.ref a0)])) _
    refine st38 _ ?_
    show Steps p.tables e below (T38.setTop (mkF m 4 #[.val (.ref a0)] [(.int sz)])) _
    exact own_retI X38 hx Bd.returns (hb hby own_d_size_4) hr
  · show Q_size Z a0 sz h0 n0 _ T38.heap _
    refine ⟨?_, N0, e38⟩
    rw [F_size]
theorem own_pn1 : plainName "com/example/ferrule/ferrule/learn/PairIsCompletePinLaw" = true := by first | (simp [plainName, overriddenIn]; done) | decide +kernel
theorem own_pd0 : parseMethodDescriptor "(IIIJI)V" = some ⟨[.int, .int, .int, .long, .int], none⟩ := by decide +kernel
theorem own_pd1 : parseMethodDescriptor "()Z" = some ⟨[], some .boolean⟩ := by decide +kernel
theorem own_pd2 : parseMethodDescriptor "()I" = some ⟨[], some .int⟩ := by decide +kernel
def F_law (p4 : Int32) : Int32 := (if (F_ic p4 (0 : Int32)) = (0 : Int32) then (1 : Int32) else (0 : Int32))
theorem own_ef_law (m : MethodId) (p0 : Int32) (p1 : Int32) (p2 : Int32) (q3 : Int64) (p4 : Int32) : entryFrame m #[(.int p0), (.int p1), (.int p2), (.long q3), (.int p4)] maxLocals = mkF m 0 #[.val (.int p0), .val (.int p1), .val (.int p2), .val (.long q3), .second, .val (.int p4), .unset, .unset] [] := by first | (simp [entryFrame, mkF, argsToLocals, Value.category, maxLocals]; done) | rfl
def Q_law (Z : State) (p0 : Int32) (p1 : Int32) (p2 : Int32) (q3 : Int64) (p4 : Int32) (h0 : Heap) (n0 : Nat) (v : Option Value) (h : Heap) (L : List Loc) : Prop := v = some (.int (F_law p4)) ∧ Fr n0 L ∧ True
set_option maxRecDepth 65536 in
set_option maxHeartbeats 40000000 in
theorem rm_law (l : Launch) (Z : State) (a0' : Array Value) (hw : ∀ d ∈ tables_1, d.before a0' Z = true) (ws : List Jvm.Cond) (p0 : Int32) (p1 : Int32) (p2 : Int32) (q3 : Int64) (p4 : Int32) (h0 : Heap) (n0 : Nat) (Z0 : n0 ≤ h0.size) :
    MetFree l x (head1 (Jvm.Cond.code x code maxLocals ret :: ws) room_1) (fun a U => a = #[(.int p0), (.int p1), (.int p2), (.long q3), (.int p4)] ∧ Z.Warmed39 U.vm ∧ U.heap = h0) (fun _ _ _ _ _ => True) (fun _ U o U' => ∃ v L, o = .returned v ∧ Q_law Z p0 p1 p2 q3 p4 h0 n0 v U'.heap L ∧ FrameEnd U o U' L room_1.cells room_1.slots) := by
  refine MetFree.of_bodySF (plainFor_of_name own_pn1) hisR ?_
  intro p e s m args below meth c s₁ Bd hml0 hP hK
  obtain ⟨rfl, hZ, hh⟩ := hP
  have hx := Bd.exec
  have hby := Bd.bytes
  have hml : c.maxLocals = 8 := hml0
  have hown : s.vm.findClass "com/example/ferrule/ferrule/learn/PairIsCompletePinLaw" = some m.cls := findClass_of_methodNamed Bd.named
  have hnm := (name_of_methodNamed Bd.named Bd.method).1
  have X0 : Stand p l e room_1 s m #[(.int p0), (.int p1), (.int p2), (.long q3), (.int p4)] below meth c s₁ [] 0 0 := Stand.of_body Bd
  have e0 : s₁.heap = h0 := by rw [← hh, Bd.state]; rfl
  have N0 := Fr.nil n0
  have pre0 : ∀ t, Steps p.tables e below (s₁.setTop (mkF m 0 #[.val (.int p0), .val (.int p1), .val (.int p2), .val (.long q3), .second, .val (.int p4), .unset, .unset] [])) t → Steps p.tables e below (s₁.setTop (entryFrame m #[(.int p0), (.int p1), (.int p2), (.long q3), (.int p4)] maxLocals)) t := fun t k => castTop (own_ef_law m p0 p1 p2 q3 p4) k
  obtain ⟨T39, h39, X39, e39, E39, A39, D39, -, st39⟩ := newO X0 hx hZ hown (hw _ (List.mem_of_getElem? (i := 0) rfl)) (hw _ (List.mem_of_getElem? (i := 1) rfl)) (hw _ (List.mem_of_getElem? (i := 2) rfl)) e0 (g := (mkF m 0 #[.val (.int p0), .val (.int p1), .val (.int p2), .val (.long q3), .second, .val (.int p4), .unset, .unset] [])) rfl (hb hby at_0) (by decide) (by decide)
  obtain ⟨b39, g39⟩ : ∃ z, z = h0.size := ⟨_, rfl⟩
  rw [← g39] at A39 D39 st39
  have EX39 : Ext h0 h39 := E39
  have g_b39 : n0 ≤ b39 := Nat.le_trans Z0 (Nat.le_of_eq g39.symm)
  have sz_b39 : h0.size ≤ b39 := Nat.le_of_eq g39.symm
  have Z39 : n0 ≤ h39.size := Nat.le_trans Z0 EX39.1
  obtain ⟨_, _, ⟨T40, L40, k40, n40⟩, -, X40, ⟨Lc40, hQ40, l40, y40, z40⟩, st40⟩ := X39.specialBack hx (y := (⟨"com/example/ferrule/ferrule/learn/Pair", "<init>", "(IIIJI)V"⟩ : MethodName)) rfl hown (mvT hZ (hw _ (List.mem_of_getElem? (i := 3) rfl))) (mvT hZ (hw _ (List.mem_of_getElem? (i := 4) rfl))) (mvT hZ (hw _ (List.mem_of_getElem? (i := 5) rfl))) (by decide) (backOf (W := 1) (rm_ini l Z a0' hw [] b39 p0 p1 p2 q3 p4 h39 n0 Z39 A39 ((D39 (Or.inl (hw _ (List.mem_of_getElem? (i := 48) rfl))) (ty := .int) (by decide))) g_b39) hZ (hw _ (List.mem_of_getElem? (i := 5) rfl)) (hw _ (List.mem_of_getElem? (i := 2) rfl)) (by decide) (by decide)) (g := (mkF m 10 #[.val (.int p0), .val (.int p1), .val (.int p2), .val (.long q3), .second, .val (.int p4), .unset, .unset] [(.int p4), (.long q3), (.int p2), (.int p1), (.int p0), (.ref b39), (.ref b39)])) rfl (by rw [hml]; rfl) (Steps.refl _) (a := b39) (argsL := [(.int p0), (.int p1), (.int p2), (.long q3), (.int p4)]) (rest := [(.ref b39)]) (lenOf own_pd0 rfl) rfl (by show 2 * 0 + _ ≤ _; exact Nat.le_of_eq rfl) (hb hby at_10) (fun _ _ => ⟨rfl, e39, (by decide : 1 + 5 ≤ _), (by decide : 18 + 8 ≤ _)⟩)
  dsimp only [Pt.U, Pt.locs, Pt.cells, Pt.slots] at X40 l40 y40 z40 st40 hQ40
  subst l40 y40 z40
  obtain ⟨rfl, N40q, K40, Ex40, FsuccessorCount_40, Fsize_40⟩ := hQ40
  have N40 := Fr.app N0 N40q
  have EX40 : Ext h0 T40.heap := own_extkeep EX39 K40 sz_b39
  have Z40 : n0 ≤ T40.heap.size := Nat.le_trans Z0 EX40.1
  obtain ⟨cq41, kq41, q41a, q41b, q41c⟩ := isOf hZ rfl Ex40
  obtain ⟨_, _, ⟨T41, L41, k41, n41⟩, -, X41, ⟨Lc41, hQ41, l41, y41, z41⟩, st41⟩ := X40.virtualBack hx (y := (⟨"com/example/ferrule/ferrule/learn/Pair", "isComplete", "()Z"⟩ : MethodName)) (z := (⟨"com/example/ferrule/ferrule/learn/Pair", "isComplete", "()Z"⟩ : MethodName)) hown (mvT hZ (hw _ (List.mem_of_getElem? (i := 37) rfl))) (mvT hZ (hw _ (List.mem_of_getElem? (i := 38) rfl))) (notFace_of_selects (args := #[]) (mvT hZ (hw _ (List.mem_of_getElem? (i := 40) rfl)))) (mvT hZ (hw _ (List.mem_of_getElem? (i := 40) rfl))) (mvT hZ (hw _ (List.mem_of_getElem? (i := 39) rfl))) (by decide) (backOf (W := 0) (rm_ic l Z a0' hw [] b39 p4 (0 : Int32) T40.heap n0 Z40 FsuccessorCount_40 Fsize_40) hZ (hw _ (List.mem_of_getElem? (i := 41) rfl)) (hw _ (List.mem_of_getElem? (i := 2) rfl)) (by decide) (by decide)) q41a q41c (g := (mkF m 17 #[.val (.int p0), .val (.int p1), .val (.int p2), .val (.long q3), .second, .val (.int p4), .val (.ref b39), .unset] [(.ref b39)])) rfl (by rw [hml]; rfl) (Steps.refl _) (argsL := []) (rest := []) (lenOf own_pd1 rfl) rfl (by show 2 * 0 + _ ≤ _; exact Nat.le_of_eq rfl) (hb hby at_17) (fun _ _ => ⟨rfl, rfl, (by decide : 6 + 0 ≤ _), (by decide : 26 + 0 ≤ _)⟩)
  dsimp only [Pt.U, Pt.locs, Pt.cells, Pt.slots] at X41 l41 y41 z41 st41 hQ41
  subst l41 y41 z41
  obtain ⟨rfl, N41q, e41⟩ := hQ41
  have N41 := Fr.app N40 N41q
  obtain ⟨cq42, kq42, q42a, q42b, q42c⟩ := isOf hZ e41 Ex40
  obtain ⟨_, _, ⟨T42, L42, k42, n42⟩, -, X42, ⟨Lc42, hQ42, l42, y42, z42⟩, st42⟩ := X41.virtualBack hx (y := (⟨"com/example/ferrule/ferrule/learn/Pair", "size", "()I"⟩ : MethodName)) (z := (⟨"com/example/ferrule/ferrule/learn/Pair", "size", "()I"⟩ : MethodName)) hown (mvT hZ (hw _ (List.mem_of_getElem? (i := 42) rfl))) (mvT hZ (hw _ (List.mem_of_getElem? (i := 43) rfl))) (notFace_of_selects (args := #[]) (mvT hZ (hw _ (List.mem_of_getElem? (i := 45) rfl)))) (mvT hZ (hw _ (List.mem_of_getElem? (i := 45) rfl))) (mvT hZ (hw _ (List.mem_of_getElem? (i := 44) rfl))) (by decide) (backOf (W := 0) (rm_size l Z a0' hw [] b39 (0 : Int32) T40.heap n0 Z40 Fsize_40) hZ (hw _ (List.mem_of_getElem? (i := 46) rfl)) (hw _ (List.mem_of_getElem? (i := 2) rfl)) (by decide) (by decide)) q42a q42c (g := (mkF m 24 #[.val (.int p0), .val (.int p1), .val (.int p2), .val (.long q3), .second, .val (.int p4), .val (.ref b39), .val (.int (F_ic p4 (0 : Int32)))] [(.ref b39)])) rfl (by rw [hml]; rfl) (Steps.refl _) (argsL := []) (rest := []) (lenOf own_pd2 rfl) rfl (by show 2 * 0 + _ ≤ _; exact Nat.le_of_eq rfl) (hb hby at_24) (fun _ _ => ⟨rfl, e41, (by decide : 6 + 0 ≤ _), (by decide : 26 + 0 ≤ _)⟩)
  dsimp only [Pt.U, Pt.locs, Pt.cells, Pt.slots] at X42 l42 y42 z42 st42 hQ42
  subst l42 y42 z42
  obtain ⟨rfl, N42q, e42⟩ := hQ42
  have N42 := Fr.app N41 N42q
  have pre44 : ∀ t, Steps p.tables e below (T42.setTop (mkF m 32 #[.val (.int p0), .val (.int p1), .val (.int p2), .val (.long q3), .second, .val (.int p4), .val (.ref b39), .val (.int (F_ic p4 (0 : Int32)))] [(.int (F_ic p4 (0 : Int32)))])) t → Steps p.tables e below (s₁.setTop (entryFrame m #[(.int p0), (.int p1), (.int p2), (.long q3), (.int p4)] maxLocals)) t := fun t k => pre0 t (by
    show Steps p.tables e below (s₁.setTop (mkF m 0 #[.val (.int p0), .val (.int p1), .val (.int p2), .val (.long q3), .second, .val (.int p4), .unset, .unset] [])) _
    refine st39 _ ?_
    show Steps p.tables e below (T39.setTop (mkF m 3 #[.val (.int p0), .val (.int p1), .val (.int p2), .val (.long q3), .second, .val (.int p4), .unset, .unset] [(.ref b39)])) _
    refine XS.dup X39.here hx rfl (hb hby at_3) rfl rfl ?_
    show Steps p.tables e below (T39.setTop (mkF m 4 #[.val (.int p0), .val (.int p1), .val (.int p2), .val (.long q3), .second, .val (.int p4), .unset, .unset] [(.ref b39), (.ref b39)])) _
    refine XS.iloadN X39.here hx rfl (hb hby at_4) rfl ?_
    show Steps p.tables e below (T39.setTop (mkF m 5 #[.val (.int p0), .val (.int p1), .val (.int p2), .val (.long q3), .second, .val (.int p4), .unset, .unset] [(.int p0), (.ref b39), (.ref b39)])) _
    refine XS.iloadN X39.here hx rfl (hb hby at_5) rfl ?_
    show Steps p.tables e below (T39.setTop (mkF m 6 #[.val (.int p0), .val (.int p1), .val (.int p2), .val (.long q3), .second, .val (.int p4), .unset, .unset] [(.int p1), (.int p0), (.ref b39), (.ref b39)])) _
    refine XS.iloadN X39.here hx rfl (hb hby at_6) rfl ?_
    show Steps p.tables e below (T39.setTop (mkF m 7 #[.val (.int p0), .val (.int p1), .val (.int p2), .val (.long q3), .second, .val (.int p4), .unset, .unset] [(.int p2), (.int p1), (.int p0), (.ref b39), (.ref b39)])) _
    refine XS.lloadN X39.here hx rfl (hb hby at_7) rfl ?_
    show Steps p.tables e below (T39.setTop (mkF m 8 #[.val (.int p0), .val (.int p1), .val (.int p2), .val (.long q3), .second, .val (.int p4), .unset, .unset] [(.long q3), (.int p2), (.int p1), (.int p0), (.ref b39), (.ref b39)])) _
    refine XS.iload X39.here hx rfl (hb hby at_8) rfl ?_
    show Steps p.tables e below (T39.setTop (mkF m 10 #[.val (.int p0), .val (.int p1), .val (.int p2), .val (.long q3), .second, .val (.int p4), .unset, .unset] [(.int p4), (.long q3), (.int p2), (.int p1), (.int p0), (.ref b39), (.ref b39)])) _
    refine st40.trans ?_
    show Steps p.tables e below (T40.setTop (mkF m 13 #[.val (.int p0), .val (.int p1), .val (.int p2), .val (.long q3), .second, .val (.int p4), .unset, .unset] [(.ref b39)])) _
    refine XS.astore X40.here hx rfl (hb hby at_13) rfl rfl (l' := #[.val (.int p0), .val (.int p1), .val (.int p2), .val (.long q3), .second, .val (.int p4), .val (.ref b39), .unset]) rfl ?_
    show Steps p.tables e below (T40.setTop (mkF m 15 #[.val (.int p0), .val (.int p1), .val (.int p2), .val (.long q3), .second, .val (.int p4), .val (.ref b39), .unset] [])) _
    refine XS.aload X40.here hx rfl (hb hby at_15) rfl rfl ?_
    show Steps p.tables e below (T40.setTop (mkF m 17 #[.val (.int p0), .val (.int p1), .val (.int p2), .val (.long q3), .second, .val (.int p4), .val (.ref b39), .unset] [(.ref b39)])) _
    refine st41.trans ?_
    show Steps p.tables e below (T41.setTop (mkF m 20 #[.val (.int p0), .val (.int p1), .val (.int p2), .val (.long q3), .second, .val (.int p4), .val (.ref b39), .unset] [(.int (F_ic p4 (0 : Int32)))])) _
    refine XS.istore X41.here hx rfl (hb hby at_20) rfl (l' := #[.val (.int p0), .val (.int p1), .val (.int p2), .val (.long q3), .second, .val (.int p4), .val (.ref b39), .val (.int (F_ic p4 (0 : Int32)))]) rfl ?_
    show Steps p.tables e below (T41.setTop (mkF m 22 #[.val (.int p0), .val (.int p1), .val (.int p2), .val (.long q3), .second, .val (.int p4), .val (.ref b39), .val (.int (F_ic p4 (0 : Int32)))] [])) _
    refine XS.aload X41.here hx rfl (hb hby at_22) rfl rfl ?_
    show Steps p.tables e below (T41.setTop (mkF m 24 #[.val (.int p0), .val (.int p1), .val (.int p2), .val (.long q3), .second, .val (.int p4), .val (.ref b39), .val (.int (F_ic p4 (0 : Int32)))] [(.ref b39)])) _
    refine st42.trans ?_
    show Steps p.tables e below (T42.setTop (mkF m 27 #[.val (.int p0), .val (.int p1), .val (.int p2), .val (.long q3), .second, .val (.int p4), .val (.ref b39), .val (.int (F_ic p4 (0 : Int32)))] [(.int (0 : Int32))])) _
    refine XS.ifNo X42.here hx rfl (hb hby at_27) rfl ((if0 _ _).trans (teq (by decide : (0 : Int32) = (0 : Int32))).2) ?_
    show Steps p.tables e below (T42.setTop (mkF m 30 #[.val (.int p0), .val (.int p1), .val (.int p2), .val (.long q3), .second, .val (.int p4), .val (.ref b39), .val (.int (F_ic p4 (0 : Int32)))] [])) _
    refine XS.iload X42.here hx rfl (hb hby at_30) rfl ?_
    exact k)
  by_cases hc32_43 : (F_ic p4 (0 : Int32)) = (0 : Int32)
  · obtain ⟨fs, hr, hrun, hended, hW, hsame⟩ := X42.leave (v := some (.int (1 : Int32))) (fun h => by rw [Bd.returns] at h; cases h)
    refine ⟨_, _, pre44 _ ?_, hrun, hended, _, _, rfl, ?_, ⟨_, rfl⟩, hW, hsame.mono (by decide) (by decide)⟩
    · show Steps p.tables e below (T42.setTop (mkF m 32 #[.val (.int p0), .val (.int p1), .val (.int p2), .val (.long q3), .second, .val (.int p4), .val (.ref b39), .val (.int (F_ic p4 (0 : Int32)))] [(.int (F_ic p4 (0 : Int32)))])) _
      refine XS.ifNo X42.here hx rfl (hb hby at_32) rfl ((if0 _ _).trans (teq hc32_43).2) ?_
      show Steps p.tables e below (T42.setTop (mkF m 35 #[.val (.int p0), .val (.int p1), .val (.int p2), .val (.long q3), .second, .val (.int p4), .val (.ref b39), .val (.int (F_ic p4 (0 : Int32)))] [])) _
      refine XS.iconst X42.here hx rfl (hb hby at_35) ?_
      show Steps p.tables e below (T42.setTop (mkF m 36 #[.val (.int p0), .val (.int p1), .val (.int p2), .val (.long q3), .second, .val (.int p4), .val (.ref b39), .val (.int (F_ic p4 (0 : Int32)))] [(.int (1 : Int32))])) _
      refine XS.goto X42.here hx rfl (pc0 := 36) (pc' := 40) rfl (hb hby at_36) (by decide) (by decide) ?_
      show Steps p.tables e below (T42.setTop (mkF m 40 #[.val (.int p0), .val (.int p1), .val (.int p2), .val (.long q3), .second, .val (.int p4), .val (.ref b39), .val (.int (F_ic p4 (0 : Int32)))] [(.int (1 : Int32))])) _
      exact retN X42 hx (t := .boolean) Bd.returns (by simp) (hb hby at_40) hr
    · show Q_law Z p0 p1 p2 q3 p4 h0 n0 _ T42.heap _
      refine ⟨?_, N42, trivial⟩
      rw [F_law, if_pos hc32_43]
  · obtain ⟨fs, hr, hrun, hended, hW, hsame⟩ := X42.leave (v := some (.int (0 : Int32))) (fun h => by rw [Bd.returns] at h; cases h)
    refine ⟨_, _, pre44 _ ?_, hrun, hended, _, _, rfl, ?_, ⟨_, rfl⟩, hW, hsame.mono (by decide) (by decide)⟩
    · show Steps p.tables e below (T42.setTop (mkF m 32 #[.val (.int p0), .val (.int p1), .val (.int p2), .val (.long q3), .second, .val (.int p4), .val (.ref b39), .val (.int (F_ic p4 (0 : Int32)))] [(.int (F_ic p4 (0 : Int32)))])) _
      refine XS.ifYes X42.here hx rfl (pc0 := 32) (pc' := 39) rfl (hb hby at_32) rfl ((if0 _ _).trans (feq hc32_43).2) (by decide) (by decide) ?_
      show Steps p.tables e below (T42.setTop (mkF m 39 #[.val (.int p0), .val (.int p1), .val (.int p2), .val (.long q3), .second, .val (.int p4), .val (.ref b39), .val (.int (F_ic p4 (0 : Int32)))] [])) _
      refine XS.iconst X42.here hx rfl (hb hby at_39) ?_
      show Steps p.tables e below (T42.setTop (mkF m 40 #[.val (.int p0), .val (.int p1), .val (.int p2), .val (.long q3), .second, .val (.int p4), .val (.ref b39), .val (.int (F_ic p4 (0 : Int32)))] [(.int (0 : Int32))])) _
      exact retN X42 hx (t := .boolean) Bd.returns (by simp) (hb hby at_40) hr
    · show Q_law Z p0 p1 p2 q3 p4 h0 n0 _ T42.heap _
      refine ⟨?_, N42, trivial⟩
      rw [F_law, if_neg hc32_43]
theorem own_law (p4 : Int32) : F_law p4 = 1 := by
  unfold F_law F_ic
  by_cases h1 : (0 : Int32) < p4
  · have h2 : ¬ ((0 : Int32) = p4) := fun q => by rw [← q] at h1; exact absurd h1 (by decide)
    simp [h1, h2]
  · simp [h1]
set_option maxRecDepth 65536 in
set_option maxHeartbeats 40000000 in
theorem own_comes {Post : Tables → Env → Array Value → State → Outcome → State → Prop} (hpost : ∀ tb e args s v u, (limb_1_1.after args s (.returned v) u = true ∧ limb_1_2.after args s (.returned v) u = true ∧ True) → FrameEnd s (.returned v) u (Jvm.fieldLocs frame_1_writes args s ++ Jvm.arrayLocs frame_1_arrays args s ++ Jvm.staticLocs frame_1_statics s) 24 128 → Post tb e args s (.returned v) u) :
    ArmFor flags0 classFile x code maxLocals ret World_1 tables_1 room_1 Calls_1 rest_1 Pre_1 Post := by
  intro l hfl _ _ p e ha hc hk s m args below hf hA hF happ hP
  obtain ⟨hcalls, hrest, hpre⟩ := hP
  obtain ⟨-, -, -, hnamed, -, -, -, hat⟩ := (Spec.applies_iff hf).mp happ
  obtain ⟨hg, hn⟩ := and_e (Cond.before_iff.mp (show (Jvm.Cond.and given_1 narrow_1).before args s = true from hpre))
  obtain ⟨g1, g1'⟩ := and_e hg
  obtain ⟨g2, g2'⟩ := and_e g1'
  obtain ⟨g3, g3'⟩ := and_e g2'
  obtain ⟨g4, g4'⟩ := and_e g3'
  obtain ⟨g5, g5'⟩ := and_e g4'
  obtain ⟨u0, u1, u2, u3, u4, rfl⟩ : ∃ u0 u1 u2 u3 u4 : Value, args = #[u0, u1, u2, u3, u4] := by
    have hs : args.size = 5 := by simpa [Cond.value, given_1] using g1
    obtain ⟨L⟩ := args
    match L, hs with
    | [u0, u1, u2, u3, u4], _ => exact ⟨u0, u1, u2, u3, u4, rfl⟩
  have hw := fun d (hd : d ∈ tables_1) => atoms_spec (ws := Jvm.Cond.code x code maxLocals ret :: tables_1) hat d (List.mem_cons_of_mem _ hd)
  obtain ⟨i0, ei0⟩ := is_v g2
  obtain rfl : u0 = (.int i0) := Option.some.inj ei0
  obtain ⟨i1, ei1⟩ := is_v g3
  obtain rfl : u1 = (.int i1) := Option.some.inj ei1
  obtain ⟨i2, ei2⟩ := is_v g4
  obtain rfl : u2 = (.int i2) := Option.some.inj ei2
  obtain ⟨i3, ei3⟩ := isL_v g5
  obtain rfl : u3 = (.long i3) := Option.some.inj ei3
  obtain ⟨i4, ei4⟩ := is_v g5'
  obtain rfl : u4 = (.int i4) := Option.some.inj ei4
  have hlaw := own_law i4
  obtain ⟨n, o, h1, h2, h3, v, L, rfl, ⟨hv, N, -⟩, hq⟩ := rm_law l s _ hw tables_1 i0 i1 i2 i3 i4 s.heap s.heap.size (Nat.le_refl _) p e ha hc hk s m _ below hf ((Spec.applies_iff_loose hf).mp happ).1 ⟨rfl, State.Warmed39.refl s, rfl⟩ trivial
  rw [hlaw] at hv
  subst hv
  refine ⟨n, _, h1, h2, h3, hpost _ _ _ _ _ _ ⟨Cond.after_iff.mpr rfl, Cond.after_iff.mpr (eq_i res_at (Term.int_eval (1)) rfl), trivial⟩ ⟨hq.1, hq.2.1, (hq.2.2.sift fun y hy => Or.inr (N y hy)).mono (by decide) (by decide)⟩⟩
theorem main_1_1 : Claimed_1_1 := own_comes fun _ _ _ _ _ _ h hF => ⟨h.1, hF⟩
theorem main_1_2 : Claimed_1_2 := own_comes fun _ _ _ _ _ _ h hF => ⟨h.2.1, hF⟩
end Jvm.Pilot.@@N@@
namespace Jvm.Pilot.@@N@@
open Jvm Jvm.ClassFile Sem Op Lib Jvm.Free Jvm.Stand Jvm.Pilot.@@N@@.Jvm.D
/-! MADE BY PROGRAM (witnessworld.py) out of the Statement's table words and the real class files: 13 classes; the members and pool entries that the words name. The judged class is class 1, her method 1. -/
namespace start1
open Jvm.ClassFile
def u (s : String) : CpInfo := .utf8 (stringToUtf16 s)
/-- a pool by its gaps: so many unusable entries, then the entry; so many at the end -/
def gap : Nat → List CpInfo → List CpInfo
  | 0, r => r
  | n + 1, r => .unusable :: gap n r
def poolList (es : List (Nat × CpInfo)) (last : Nat) : List CpInfo := es.foldr (fun e r => gap e.1 (e.2 :: r)) (gap last [])
def pool (es : List (Nat × CpInfo)) (last : Nat) : Array CpInfo := ⟨poolList es last⟩
def fileOf (pool : Array CpInfo) (this : Nat) (attrs : Array Attribute := #[]) (ms : Array MethodInfo := #[]) (fl : Nat := 33) (sup : Nat := 0) (ifs : Array Nat := #[]) (fds : Array FieldInfo := #[]) : ClassFile where
  minorVersion := 0
  majorVersion := 65
  constantPool := pool
  accessFlags := fl
  thisClass := this
  superClass := sup
  interfaces := ifs
  fields := fds
  methods := ms
  attributes := attrs
def plain (name : String) (sup : Option ClassId) : Class where
  name := name
  kind := .ordinary
  loader := none
  accessFlags := 33
  super := sup
  interfaces := #[]
  cf := none
  fields := #[]
  methods := #[]
  instanceTypes := #[]
  staticTypes := #[]
  resolved := #[]
  callSites := []
  init := .initialized
  statics := none
  mirror := none

def pool0 : Array CpInfo := pool [(5, u "<init>"), (0, u "()V"), (1, .class_ 10), (1, u "java/lang/Object")] 113

def k0c0 : Code := { maxStack := 0, maxLocals := 1, code := object_method_1_code, exceptionTable := #[], attributes := #[] }
def k0m0 : Method := { name := "<init>", desc := "()V", sig := { parameters := [], returnType := none }, accessFlags := 1, code := some k0c0 }
/-- java/lang/Object -/
def k0 : Class := { plain "java/lang/Object" none with
  accessFlags := 33
  interfaces := #[]
  cf := some (fileOf pool0 8 #[] #[{ accessFlags := 1, nameIndex := 5, descriptorIndex := 6, attributes := #[] }] 33 0 #[] #[])
  fields := #[]
  methods := #[k0m0]
  instanceTypes := #[]
  staticTypes := #[]
  resolved := Array.replicate 124 none
  statics := none }

def pool1 : Array CpInfo := pool [(2, .class_ 4), (1, u "java/lang/Object"), (0, u "<init>"), (0, u "()V"), (0, .class_ 8), (0, u "com/example/ferrule/ferrule/learn/Pair"), (0, .methodref 7 10), (0, .nameAndType 5 11), (0, u "(IIIJI)V"), (0, .methodref 7 13), (0, .nameAndType 14 15), (0, u "isComplete"), (0, u "()Z"), (0, .methodref 7 17), (0, .nameAndType 18 19), (0, u "size"), (0, u "()I"), (0, .class_ 21), (0, u "com/example/ferrule/ferrule/learn/PairIsCompletePinLaw"), (2, u "law"), (0, u "(IIIJI)Z")] 3

def k1m0 : Method := { name := "<init>", desc := "()V", sig := { parameters := [], returnType := none }, accessFlags := 1, code := none }
def k1c1 : Code := { maxStack := 8, maxLocals := 8, code := code, exceptionTable := #[], attributes := #[] }
def k1m1 : Method := { name := "law", desc := "(IIIJI)Z", sig := { parameters := [.int, .int, .int, .long, .int], returnType := some .boolean }, accessFlags := 9, code := some k1c1 }
/-- com/example/ferrule/ferrule/learn/PairIsCompletePinLaw -/
def k1 : Class := { plain "com/example/ferrule/ferrule/learn/PairIsCompletePinLaw" (some 0) with
  accessFlags := 49
  interfaces := #[]
  cf := some (fileOf pool1 20 #[] #[{ accessFlags := 1, nameIndex := 5, descriptorIndex := 6, attributes := #[] }, { accessFlags := 9, nameIndex := 24, descriptorIndex := 25, attributes := #[] }] 49 2 #[] #[])
  fields := #[]
  methods := #[k1m0, k1m1]
  instanceTypes := #[]
  staticTypes := #[]
  resolved := Array.replicate 29 none
  statics := none }

def pool2 : Array CpInfo := pool [(1, .methodref 2 3), (0, .class_ 4), (0, .nameAndType 5 6), (0, u "java/lang/Object"), (0, u "<init>"), (0, u "()V"), (0, .fieldref 8 9), (0, .class_ 10), (0, .nameAndType 11 12), (0, u "com/example/ferrule/ferrule/learn/Pair"), (0, u "successors"), (0, u "[I"), (0, .fieldref 8 14), (0, .nameAndType 15 16), (0, u "rewards"), (0, u "[D"), (0, .fieldref 8 18), (0, .nameAndType 19 16), (0, u "jumpRewards"), (0, .fieldref 8 21), (0, .nameAndType 22 23), (0, u "successorCounts"), (0, u "[J"), (0, .fieldref 8 25), (0, .nameAndType 26 16), (0, u "lower"), (2, .double 9218868437227405312), (1, .fieldref 8 32), (0, .nameAndType 33 34), (0, u "fastest"), (0, u "D"), (0, .fieldref 8 36), (0, .nameAndType 37 38), (0, u "nextGridCount"), (0, u "J"), (0, .fieldref 8 40), (0, .nameAndType 41 42), (0, u "number"), (0, u "I"), (0, .fieldref 8 44), (0, .nameAndType 45 42), (0, u "state"), (0, .fieldref 8 47), (0, .nameAndType 48 42), (0, u "action"), (0, .fieldref 8 50), (0, .nameAndType 51 38), (0, u "sureCount"), (0, .fieldref 8 53), (0, .nameAndType 54 42), (0, u "successorCount"), (2, u "count"), (0, .fieldref 8 59), (0, .nameAndType 60 42), (0, u "size"), (2, u "lowerSum"), (8, u "slowest"), (2, u "isComplete"), (0, u "()Z"), (19, u "waited"), (2, u "grid"), (16, u "GRAINS"), (1, u "(IIIJI)V"), (3, u "()I")] 13

def k2c0 : Code := { maxStack := 3, maxLocals := 7, code := prog_16_method_1_code, exceptionTable := #[], attributes := #[] }
def k2m0 : Method := { name := "<init>", desc := "(IIIJI)V", sig := { parameters := [.int, .int, .int, .long, .int], returnType := none }, accessFlags := 0, code := some k2c0 }
def k2c1 : Code := { maxStack := 1, maxLocals := 1, code := prog_16_method_3_code, exceptionTable := #[], attributes := #[] }
def k2m1 : Method := { name := "size", desc := "()I", sig := { parameters := [], returnType := some .int }, accessFlags := 0, code := some k2c1 }
def k2c2 : Code := { maxStack := 2, maxLocals := 1, code := prog_16_method_12_code, exceptionTable := #[], attributes := #[] }
def k2m2 : Method := { name := "isComplete", desc := "()Z", sig := { parameters := [], returnType := some .boolean }, accessFlags := 0, code := some k2c2 }
/-- com/example/ferrule/ferrule/learn/Pair -/
def k2 : Class := { plain "com/example/ferrule/ferrule/learn/Pair" (some 0) with
  accessFlags := 48
  interfaces := #[]
  cf := some (fileOf pool2 8 #[] #[{ accessFlags := 0, nameIndex := 5, descriptorIndex := 118, attributes := #[] }, { accessFlags := 0, nameIndex := 60, descriptorIndex := 122, attributes := #[] }, { accessFlags := 0, nameIndex := 75, descriptorIndex := 76, attributes := #[] }] 48 2 #[] #[{ accessFlags := 26, nameIndex := 116, descriptorIndex := 34, attributes := #[] }, { accessFlags := 16, nameIndex := 41, descriptorIndex := 42, attributes := #[] }, { accessFlags := 16, nameIndex := 45, descriptorIndex := 42, attributes := #[] }, { accessFlags := 16, nameIndex := 48, descriptorIndex := 42, attributes := #[] }, { accessFlags := 16, nameIndex := 51, descriptorIndex := 38, attributes := #[] }, { accessFlags := 16, nameIndex := 54, descriptorIndex := 42, attributes := #[] }, { accessFlags := 2, nameIndex := 57, descriptorIndex := 38, attributes := #[] }, { accessFlags := 2, nameIndex := 11, descriptorIndex := 12, attributes := #[] }, { accessFlags := 2, nameIndex := 15, descriptorIndex := 16, attributes := #[] }, { accessFlags := 2, nameIndex := 19, descriptorIndex := 16, attributes := #[] }, { accessFlags := 2, nameIndex := 22, descriptorIndex := 23, attributes := #[] }, { accessFlags := 2, nameIndex := 60, descriptorIndex := 42, attributes := #[] }, { accessFlags := 2, nameIndex := 26, descriptorIndex := 16, attributes := #[] }, { accessFlags := 2, nameIndex := 63, descriptorIndex := 34, attributes := #[] }, { accessFlags := 2, nameIndex := 96, descriptorIndex := 34, attributes := #[] }, { accessFlags := 2, nameIndex := 72, descriptorIndex := 34, attributes := #[] }, { accessFlags := 2, nameIndex := 33, descriptorIndex := 34, attributes := #[] }, { accessFlags := 2, nameIndex := 99, descriptorIndex := 42, attributes := #[] }, { accessFlags := 2, nameIndex := 37, descriptorIndex := 38, attributes := #[] }])
  fields := #[{ name := "GRAINS", type := .double, accessFlags := 26, slot := 0, constantValue := 0 }, { name := "number", type := .int, accessFlags := 16, slot := 0, constantValue := 0 }, { name := "state", type := .int, accessFlags := 16, slot := 1, constantValue := 0 }, { name := "action", type := .int, accessFlags := 16, slot := 2, constantValue := 0 }, { name := "sureCount", type := .long, accessFlags := 16, slot := 3, constantValue := 0 }, { name := "successorCount", type := .int, accessFlags := 16, slot := 4, constantValue := 0 }, { name := "count", type := .long, accessFlags := 2, slot := 5, constantValue := 0 }, { name := "successors", type := (.array .int), accessFlags := 2, slot := 6, constantValue := 0 }, { name := "rewards", type := (.array .double), accessFlags := 2, slot := 7, constantValue := 0 }, { name := "jumpRewards", type := (.array .double), accessFlags := 2, slot := 8, constantValue := 0 }, { name := "successorCounts", type := (.array .long), accessFlags := 2, slot := 9, constantValue := 0 }, { name := "size", type := .int, accessFlags := 2, slot := 10, constantValue := 0 }, { name := "lower", type := (.array .double), accessFlags := 2, slot := 11, constantValue := 0 }, { name := "lowerSum", type := .double, accessFlags := 2, slot := 12, constantValue := 0 }, { name := "waited", type := .double, accessFlags := 2, slot := 13, constantValue := 0 }, { name := "slowest", type := .double, accessFlags := 2, slot := 14, constantValue := 0 }, { name := "fastest", type := .double, accessFlags := 2, slot := 15, constantValue := 0 }, { name := "grid", type := .int, accessFlags := 2, slot := 16, constantValue := 0 }, { name := "nextGridCount", type := .long, accessFlags := 2, slot := 17, constantValue := 0 }]
  methods := #[k2m0, k2m1, k2m2]
  instanceTypes := #[.int, .int, .int, .long, .int, .long, (.array .int), (.array .double), (.array .double), (.array .long), .int, (.array .double), .double, .double, .double, .double, .int, .long]
  staticTypes := #[.double]
  resolved := Array.replicate 136 none
  statics := none }

def pool3 : Array CpInfo := pool [(1, u "java/lang/Cloneable"), (0, .class_ 1), (0, u "java/lang/Object"), (0, .class_ 3)] 3

/-- java/lang/Cloneable -/
def k3 : Class := { plain "java/lang/Cloneable" (some 0) with
  accessFlags := 1537
  interfaces := #[]
  cf := some (fileOf pool3 2 #[] #[] 1537 4 #[] #[])
  fields := #[]
  methods := #[]
  instanceTypes := #[]
  staticTypes := #[]
  resolved := Array.replicate 8 none
  statics := none }

def pool4 : Array CpInfo := pool [(1, u "java/io/Serializable"), (0, .class_ 1), (0, u "java/lang/Object"), (0, .class_ 3)] 3

/-- java/io/Serializable -/
def k4 : Class := { plain "java/io/Serializable" (some 0) with
  accessFlags := 1537
  interfaces := #[]
  cf := some (fileOf pool4 2 #[] #[] 1537 4 #[] #[])
  fields := #[]
  methods := #[]
  instanceTypes := #[]
  staticTypes := #[]
  resolved := Array.replicate 8 none
  statics := none }

/-- the primitive byte -/
def k5 : Class := { plain "byte" none with kind := .primitive 'B', accessFlags := 0x411 }
/-- [B -/
def k6 : Class := { plain "[B" (some 0) with kind := .array 5 .byte, interfaces := #[3, 4], accessFlags := 1041 }

/-- the primitive double -/
def k7 : Class := { plain "double" none with kind := .primitive 'D', accessFlags := 0x411 }
/-- [D -/
def k8 : Class := { plain "[D" (some 0) with kind := .array 7 .double, interfaces := #[3, 4], accessFlags := 1041 }

/-- the primitive int -/
def k9 : Class := { plain "int" none with kind := .primitive 'I', accessFlags := 0x411 }
/-- [I -/
def k10 : Class := { plain "[I" (some 0) with kind := .array 9 .int, interfaces := #[3, 4], accessFlags := 1041 }

/-- the primitive long -/
def k11 : Class := { plain "long" none with kind := .primitive 'J', accessFlags := 0x411 }
/-- [J -/
def k12 : Class := { plain "[J" (some 0) with kind := .array 11 .long, interfaces := #[3, 4], accessFlags := 1041 }

def heap : Heap := #[]
def classes : Array Class := #[k0, k1, k2, k3, k4, k5, k6, k7, k8, k9, k10, k11, k12]
def interned : List (Array UInt16 × Addr) := []
def slotsUsed : Nat := 0
def theMethod : MethodId := ⟨1, 1⟩
def args0 : Array Value := #[.int 1, .int 2, .int 3, .long 4, .int 5]
def aboutOver (below : List Frame) : State where
  vm := { classes := classes, interned := interned.toArray }
  heap := heap
  slotsUsed := slotsUsed
  threads := #[{ frames := .invoking theMethod args0 :: below }]
def below0 : List Frame := [.native { method := ⟨0, 0⟩, args := #[] }]
def about1 : State := aboutOver below0
def p0 : Program := .bare "" "" ""
def e0 : Env := launch0.env 0 0 0
theorem w_frames : about1.frames = Frame.invoking theMethod args0 :: below0 := rfl
set_option maxRecDepth 65536 in
theorem w_args : argsFit about1.vm theMethod args0 = true := by decide +kernel
set_option maxRecDepth 65536 in
theorem w_heap : heapFits about1 = true := by decide +kernel
set_option maxRecDepth 65536 in
theorem w_runnable : about1.curStatus? = some .runnable := by decide +kernel
set_option maxRecDepth 65536 in
theorem w_alone : about1.alone = true := by decide +kernel
set_option maxRecDepth 65536 in
theorem w_named : about1.methodNamed? x = some theMethod := by decide +kernel
set_option maxRecDepth 65536 in
theorem w_hears : about1.hears theMethod below0 = true := by decide +kernel
set_option maxRecDepth 65536 in
theorem w_ripe : about1.ripe theMethod args0 below0 = true := by decide +kernel
theorem w_running : about1.status = .running := rfl
set_option maxRecDepth 65536 in
theorem w_room : about1.hasRoom e0.platform room_1 = true :=
  launch0.hasRoom_least _ room_1 (by decide +kernel) (by decide +kernel) (by decide +kernel) (by decide +kernel) (by decide +kernel) (by decide +kernel)
theorem allAtoms_all (ts : List Jvm.Cond) (a : Array Jvm.Value) (st : Jvm.State) : (allAtoms ts).before a st = ts.all (fun c => c.before a st) := by
  induction ts with
  | nil => rfl
  | cons c t ih =>
    show (Jvm.Cond.and c (allAtoms t)).before a st = _
    rw [Jvm.Cond.before_and, ih, List.all_cons]
def words1 : List Jvm.Cond := Jvm.Cond.code x code maxLocals ret :: tables_1
/-- a 'code' word, met by the world's own term for the bytes: nothing is compared byte by byte -/
theorem code_word {y : MethodName} {bytes : ByteArray} {mx : Nat} {rt : Option FieldType} {a : Array Value} {s : State} {m : MethodId} {meth : Method} {c : Code} (h1 : s.methodNamed? y = some m) (h2 : s.vm.method? m = some meth) (h3 : meth.code = some c) (h4 : c.code = bytes)
    (h5 : (c.maxLocals == mx && c.exceptionTable.isEmpty && decide (c.maxStack ≤ mostOperands) && decide (meth.sig.returnType = rt) && !meth.locks && decide (parseMethodDescriptor y.desc = some meth.sig)) = true) : (Jvm.Cond.code y bytes mx rt).before a s = true := by
  simp only [Bool.and_eq_true, beq_iff_eq, Bool.not_eq_true', decide_eq_true_eq] at h5
  obtain ⟨⟨⟨⟨⟨g1, g2⟩, g3⟩, g4⟩, g5⟩, g6⟩ := h5
  simp [Cond.before, Cond.holds, Cond.value, h1, h2, h3, h4, g1, g2, g3, g4, g5, g6]
def isCode : Jvm.Cond → Bool
  | .code _ _ _ _ => true
  | _ => false
theorem all_split {L : List Jvm.Cond} {P : Jvm.Cond → Bool} (h1 : L.all (fun c => isCode c || P c) = true) (h2 : ∀ c ∈ L.filter isCode, P c = true) : L.all P = true := by
  refine List.all_eq_true.mpr fun c hc => ?_
  have h := List.all_eq_true.mp h1 c hc
  rcases Bool.eq_false_or_eq_true (isCode c) with hi | hi
  · exact h2 c (List.mem_filter.mpr ⟨hc, hi⟩)
  · simpa [hi] using h
set_option maxRecDepth 65536 in
theorem w_c0 : (Jvm.Cond.code x code maxLocals ret).before args0 about1 = true := code_word (m := ⟨1, 1⟩) (meth := k1m1) (c := k1c1) (by decide +kernel) rfl rfl rfl (by decide +kernel)
set_option maxRecDepth 65536 in
theorem w_c1 : (Jvm.Cond.code ({ cls := "com/example/ferrule/ferrule/learn/Pair", name := "<init>", desc := "(IIIJI)V" } : Jvm.MethodName) prog_16_method_1_code (7 : Nat) (Option.none : Option Jvm.ClassFile.FieldType)).before args0 about1 = true := code_word (m := ⟨2, 0⟩) (meth := k2m0) (c := k2c0) (by decide +kernel) rfl rfl rfl (by decide +kernel)
set_option maxRecDepth 65536 in
theorem w_c2 : (Jvm.Cond.code ({ cls := "java/lang/Object", name := "<init>", desc := "()V" } : Jvm.MethodName) object_method_1_code (1 : Nat) (Option.none : Option Jvm.ClassFile.FieldType)).before args0 about1 = true := code_word (m := ⟨0, 0⟩) (meth := k0m0) (c := k0c0) (by decide +kernel) rfl rfl rfl (by decide +kernel)
set_option maxRecDepth 65536 in
theorem w_c3 : (Jvm.Cond.code ({ cls := "com/example/ferrule/ferrule/learn/Pair", name := "isComplete", desc := "()Z" } : Jvm.MethodName) prog_16_method_12_code (1 : Nat) (Option.some Jvm.ClassFile.FieldType.boolean)).before args0 about1 = true := code_word (m := ⟨2, 2⟩) (meth := k2m2) (c := k2c2) (by decide +kernel) rfl rfl rfl (by decide +kernel)
set_option maxRecDepth 65536 in
theorem w_c4 : (Jvm.Cond.code ({ cls := "com/example/ferrule/ferrule/learn/Pair", name := "size", desc := "()I" } : Jvm.MethodName) prog_16_method_3_code (1 : Nat) (Option.some Jvm.ClassFile.FieldType.int)).before args0 about1 = true := code_word (m := ⟨2, 1⟩) (meth := k2m1) (c := k2c1) (by decide +kernel) rfl rfl rfl (by decide +kernel)
def codes1 : List Jvm.Cond := [Jvm.Cond.code x code maxLocals ret, Jvm.Cond.code ({ cls := "com/example/ferrule/ferrule/learn/Pair", name := "<init>", desc := "(IIIJI)V" } : Jvm.MethodName) prog_16_method_1_code (7 : Nat) (Option.none : Option Jvm.ClassFile.FieldType), Jvm.Cond.code ({ cls := "java/lang/Object", name := "<init>", desc := "()V" } : Jvm.MethodName) object_method_1_code (1 : Nat) (Option.none : Option Jvm.ClassFile.FieldType), Jvm.Cond.code ({ cls := "com/example/ferrule/ferrule/learn/Pair", name := "isComplete", desc := "()Z" } : Jvm.MethodName) prog_16_method_12_code (1 : Nat) (Option.some Jvm.ClassFile.FieldType.boolean), Jvm.Cond.code ({ cls := "com/example/ferrule/ferrule/learn/Pair", name := "size", desc := "()I" } : Jvm.MethodName) prog_16_method_3_code (1 : Nat) (Option.some Jvm.ClassFile.FieldType.int)]
set_option maxRecDepth 65536 in
theorem codes_eq : words1.filter isCode = codes1 := rfl
theorem w_codes : ∀ c ∈ words1.filter isCode, c.before args0 about1 = true := by
  rw [codes_eq]
  intro c hc
  simp only [codes1, List.mem_cons, List.not_mem_nil, or_false] at hc
  rcases hc with rfl | rfl | rfl | rfl | rfl
  · exact w_c0
  · exact w_c1
  · exact w_c2
  · exact w_c3
  · exact w_c4
set_option maxRecDepth 65536 in
theorem w_t1 : (words1.take 24).all (fun c => isCode c || c.before args0 about1) = true := by decide +kernel
set_option maxRecDepth 65536 in
theorem w_t2 : ((words1.drop 24).take 24).all (fun c => isCode c || c.before args0 about1) = true := by decide +kernel
set_option maxRecDepth 65536 in
theorem w_t3 : ((words1.drop 24).drop 24).all (fun c => isCode c || c.before args0 about1) = true := by decide +kernel
theorem w_tables : (allAtoms (Jvm.Cond.code x code maxLocals ret :: tables_1)).before args0 about1 = true := by
  rw [allAtoms_all]
  show words1.all (fun c => c.before args0 about1) = true
  refine all_split ?_ w_codes
  rw [← List.take_append_drop 24 words1, List.all_append, w_t1, ← List.take_append_drop 24 (words1.drop 24), List.all_append, w_t2, w_t3]
  rfl
set_option maxRecDepth 65536 in
theorem w_case : (Jvm.Cond.and given_1 narrow_1).before args0 about1 = true := by decide +kernel
theorem w_applies : (headSpec (Jvm.Cond.code x code maxLocals ret :: tables_1) room_1).applies x e0.platform about1 = true :=
  (Spec.applies_iff w_frames).mpr ⟨w_running, w_runnable, w_alone, w_named, w_hears, w_ripe, w_room, w_tables⟩
theorem atStart : AtStart classFile x code maxLocals ret World_1 tables_1 room_1 Calls_1 rest_1 Pre_1 launch0 p0 e0 about1 theMethod args0 below0 :=
  ⟨lists_1, trivial, launch0.admits_env _ _ _, launch0.least_env, fairChoices_fair.cas, fairChoices_fair.clock, w_frames, w_args, w_heap, w_applies, trivial, trivial, w_case⟩
end start1
theorem witness_1 : WitnessClaimed_1 := ⟨start1.p0, start1.e0, start1.about1, start1.theMethod, start1.args0, start1.below0, start1.atStart⟩
end Jvm.Pilot.@@N@@
