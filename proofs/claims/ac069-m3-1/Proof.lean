import JvmDerived
import JvmDerived.Pilot.@@N@@Statement
import JvmDerived.Pilot.@@N@@Code
set_option linter.unusedVariables false
set_option linter.unusedSimpArgs false
@@BLOCK:NumsL.lean.txt@@
namespace Jvm.Pilot.@@N@@
open Jvm Jvm.ClassFile Sem Op Lib Jvm.Free Jvm.Stand Jvm.LawKit Jvm.RoadKit Bundle Jvm.Pilot.@@N@@.Jvm.D
theorem own_retI {p : Program} {l : Launch} {e : Env} {R : Room} {s : State} {m : MethodId} {args : Array Value} {below : List Frame} {meth : Method} {c : Code} {T : State} {locs : List Loc} {cells slots : Nat} (X : Stand p l e R s m args below meth c T locs cells slots) (hx : p.tables.exec = Jvm.exec) {pc : Nat} {Ls : Array Slot} {z : Int32} {rest : List Value} (hret : meth.sig.returnType = some .int) (hd : decode c.code pc = .ok (.ireturn, 1)) {fs : List Frame}
    (hl : ∀ (f : JFrame) (acts : List Action), f.method = m → f.locked = none → f.entered = [] → (doReturn e (T.setTop f) acts (some (.int z))).1 = T.setFrames fs) : Steps p.tables e below (T.setTop (mkF m pc Ls (.int z :: rest))) (T.setFrames fs) :=
  retOut X hx hret rfl (Or.inl ⟨rfl, Or.inl rfl, z, rfl⟩) hd hl
theorem own_retA {p : Program} {l : Launch} {e : Env} {R : Room} {s : State} {m : MethodId} {args : Array Value} {below : List Frame} {meth : Method} {c : Code} {T : State} {locs : List Loc} {cells slots : Nat} (X : Stand p l e R s m args below meth c T locs cells slots) (hx : p.tables.exec = Jvm.exec) {pc : Nat} {Ls : Array Slot} {w : Value} {t : FieldType} {rest : List Value} (hret : meth.sig.returnType = some t) (ht : t.isReference = true) (hw : w.isRef = true) (hn : narrow t w = w) (hd : decode c.code pc = .ok (.areturn, 1)) {fs : List Frame}
    (hl : ∀ (f : JFrame) (acts : List Action), f.method = m → f.locked = none → f.entered = [] → (doReturn e (T.setTop f) acts (some w)).1 = T.setFrames fs) : Steps p.tables e below (T.setTop (mkF m pc Ls (w :: rest))) (T.setFrames fs) :=
  retOut X hx hret hn (Or.inr (Or.inr (Or.inr (Or.inr ⟨rfl, ht, hw⟩)))) hd hl
theorem own_retJ {p : Program} {l : Launch} {e : Env} {R : Room} {s : State} {m : MethodId} {args : Array Value} {below : List Frame} {meth : Method} {c : Code} {T : State} {locs : List Loc} {cells slots : Nat} (X : Stand p l e R s m args below meth c T locs cells slots) (hx : p.tables.exec = Jvm.exec) {pc : Nat} {Ls : Array Slot} {z : Int64} {rest : List Value} (hret : meth.sig.returnType = some .long) (hd : decode c.code pc = .ok (.lreturn, 1)) {fs : List Frame}
    (hl : ∀ (f : JFrame) (acts : List Action), f.method = m → f.locked = none → f.entered = [] → (doReturn e (T.setTop f) acts (some (.long z))).1 = T.setFrames fs) : Steps p.tables e below (T.setTop (mkF m pc Ls (.long z :: rest))) (T.setFrames fs) :=
  retOut X hx hret rfl (Or.inr (Or.inl ⟨rfl, rfl, z, rfl⟩)) hd hl
theorem own_exttr {h0 h h' : Heap} (E : Ext h0 h) (E' : Ext h h') : Ext h0 h' := ⟨Nat.le_trans E.1 E'.1, fun a c q => E'.2 _ _ (E.2 _ _ q)⟩
theorem own_extwr {h0 h h' : Heap} {a : Addr} {sl : Nat} {v : Value} (E : Ext h0 h) (W : Wr h h' a sl v) (q : h0.size ≤ a) : Ext h0 h' := by
  refine ⟨Nat.le_trans E.1 (Nat.le_of_eq W.size.symm), fun x c hc => ?_⟩
  obtain ⟨c', e1, -, -, -, e5, -⟩ := wr_at W (E.2 x c hc)
  have hx : x < h0.size := (Array.getElem?_eq_some_iff.mp hc).1
  rw [e5 (Nat.ne_of_lt (Nat.lt_of_lt_of_le hx q))] at e1
  exact e1
theorem own_wmono {s t : State} {o : Outcome} {L : List Loc} {k n k' n' : Nat} (h : ReturnedEndW s o t L k n) (hk : k ≤ k') (hn : n ≤ n') : ReturnedEndW s o t L k' n' := ⟨h.1, h.2.1, h.2.2.1, h.2.2.2.mono hk hn⟩
theorem own_strAtoms {Z : State} {a0 : Array Value} (w1 : (Jvm.Cond.initialized "java/lang/String").before a0 Z = true) (w2 : (Jvm.Cond.instantiable "java/lang/String" 4).before a0 Z = true) (w3 : (Jvm.Cond.arrayClass .byte).before a0 Z = true) (w4 : (Jvm.Cond.laysFinal "java/lang/String" "java/lang/String" "value" "[B").before a0 Z = true) (w5 : (Jvm.Cond.laysFinal "java/lang/String" "java/lang/String" "coder" "B").before a0 Z = true) (w6 : (Jvm.Cond.soleField "java/lang/String" "value").before a0 Z = true) (w7 : (Jvm.Cond.soleField "java/lang/String" "coder").before a0 Z = true) : ∀ a ∈ Bundle.stringAtoms, a.before a0 Z = true := by
  intro a ha
  simp only [Bundle.stringAtoms, List.mem_cons, List.not_mem_nil, or_false] at ha
  rcases ha with rfl | rfl | rfl | rfl | rfl | rfl | rfl <;> assumption
theorem own_extkeep {h0 h h' : Heap} {a : Addr} (E : Ext h0 h) (K : Keep h h' [a]) (q : h0.size ≤ a) : Ext h0 h' := ⟨Nat.le_trans E.1 K.1, fun x c hc => K.2.1 x c (E.2 x c hc) (fun hm => absurd (List.mem_singleton.mp hm) (Nat.ne_of_lt (Nat.lt_of_lt_of_le (Array.getElem?_eq_some_iff.mp hc).1 q)))⟩
theorem own_fld2 {Z : State} {h : Heap} {a : Addr} {C O n d O1 n1 d1 : String} {v1 : Value} {a0 : Array Value} {k : Nat} (E : Exa Z h a C) (F : Fld Z h a O1 n1 d1 v1) (L : Laid Z a0 C O n d) (wi : (Jvm.Cond.instantiable C k).before a0 Z = true) : ∃ v, Fld Z h a O n d v := by
  obtain ⟨cell, kc, h1, h2, h3, h4, h5⟩ := E
  obtain ⟨cell', cf', k', i', f', g1, -, -, g4, g5, -, -⟩ := F
  cases h1.symm.trans g1
  obtain ⟨c, k2, cf, kf, i, f, a1, a2, a3, a4, a5, a6, -⟩ := L.spec
  cases h2.symm.trans a1
  cases h3.symm.trans a2
  obtain ⟨c2, k3, i1, i2, i3, -⟩ := Cond.instantiable_spec wi
  cases h2.symm.trans i1
  cases h3.symm.trans i2
  have hs := h5 i3
  have hlt : f.slot < cell.slots.size := by rw [hs]; exact (Array.getElem?_eq_some_iff.mp a6).1
  exact ⟨cell.slots[f.slot], cell, cf, kf, i, f, h1, a3, a4, g4, g5, a5, Array.getElem?_eq_getElem hlt⟩
theorem own_retD {p : Program} {l : Launch} {e : Env} {R : Room} {s : State} {m : MethodId} {args : Array Value} {below : List Frame} {meth : Method} {c : Code} {T : State} {locs : List Loc} {cells slots : Nat} (X : Stand p l e R s m args below meth c T locs cells slots) (hx : p.tables.exec = Jvm.exec) {pc : Nat} {Ls : Array Slot} {z : UInt64} {rest : List Value} (hret : meth.sig.returnType = some .double) (hd : decode c.code pc = .ok (.dreturn, 1)) {fs : List Frame}
    (hl : ∀ (f : JFrame) (acts : List Action), f.method = m → f.locked = none → f.entered = [] → (doReturn e (T.setTop f) acts (some (.double z))).1 = T.setFrames fs) : Steps p.tables e below (T.setTop (mkF m pc Ls (.double z :: rest))) (T.setFrames fs) :=
  retOut X hx hret rfl (Or.inr (Or.inr (Or.inl ⟨rfl, rfl, z, rfl⟩))) hd hl
theorem own_eqk {args : Array Value} {first s : State} {o : Option Outcome} {idx : List Nat} {t : Term} {k : Int32} (h : (Jvm.Cond.eq t (.int k)).value args first o s idx = some true) : t.eval args first o idx s = some (.int k) := by
  have hk : (Term.int k).eval args first o idx s = some (.int k) := Term.int_eval k
  cases ht : t.eval args first o idx s with
  | none => simp [Cond.value, ht] at h
  | some x => cases x <;> simp [Cond.value, ht, hk] at h ⊢ <;> exact h
theorem own_len {args : Array Value} {s : State} {t : Term} {a : Addr} {cl : Cell} {n : Int32} {ty : FieldType} (h : (Jvm.Cond.eq (.length t) (.int n)).value args s none s [] = some true) (ev : t.eval args s none [] s = some (.ref a)) (A : Arr s s.heap a cl ty) : cl.slots.size = n.toNatClampNeg ∧ ¬ n < 0 := by
  have q := own_eqk h
  have ha := A.fin (Vm.Alike.refl _)
  by_cases hl : cl.slots.size < 2 ^ 31
  · rw [len_f ev ha hl] at q
    have q2 : cl.slots.size.toInt32 = n := by simpa using q
    have q3 := len_toInt hl
    rw [q2] at q3
    refine ⟨?_, ?_⟩
    · simp only [Int32.toNatClampNeg]; omega
    · rw [Int32.lt_iff_toInt_lt]; simp only [Int32.reduceToInt]; omega
  · simp [Term.eval, ev, ha, hl] at q
theorem own_hin {cl : Cell} {z j : Int32} (hsz : cl.slots.size = z.toNatClampNeg) (hlo : ¬ j < (0 : Int32)) (hhi : j < z) : ¬ (j < 0 ∨ cl.slots.size ≤ j.toNatClampNeg) := by
  simp only [Int32.lt_iff_toInt_lt, Int32.reduceToInt, Int32.toNatClampNeg] at *
  omega
theorem own_pn0 : plainName "jdk/internal/util/Preconditions" = true := by first | (simp [plainName, overriddenIn]; done) | decide +kernel
theorem own_d_pcheck_0 : decode jdk_41_method_11_code 0 = .ok (.iload_n 0, 1) := by decide +kernel
theorem own_d_pcheck_1 : decode jdk_41_method_11_code 1 = .ok (.ifCond .lt 8, 3) := by decide +kernel
theorem own_d_pcheck_4 : decode jdk_41_method_11_code 4 = .ok (.iload_n 0, 1) := by decide +kernel
theorem own_d_pcheck_5 : decode jdk_41_method_11_code 5 = .ok (.iload_n 1, 1) := by decide +kernel
theorem own_d_pcheck_6 : decode jdk_41_method_11_code 6 = .ok (.if_icmp .lt 10, 3) := by decide +kernel
theorem own_d_pcheck_16 : decode jdk_41_method_11_code 16 = .ok (.iload_n 0, 1) := by decide +kernel
theorem own_d_pcheck_17 : decode jdk_41_method_11_code 17 = .ok (.ireturn, 1) := by decide +kernel
def F_pcheck (p0 : Int32) : Int32 := p0
theorem own_ef_pcheck (m : MethodId) (p0 : Int32) (p1 : Int32) (a2 : Value) (ha2 : a2.isRef = true) : entryFrame m #[(.int p0), (.int p1), a2] 3 = mkF m 0 #[.val (.int p0), .val (.int p1), .val a2] [] := by
  rcases ref_cases ha2 with rfl | ⟨_, rfl⟩ <;> first | (simp [entryFrame, mkF, argsToLocals, Value.category]; done) | rfl
def Q_pcheck (Z : State) (p0 : Int32) (p1 : Int32) (a2 : Value) (h0 : Heap) (n0 : Nat) (v : Option Value) (h : Heap) (L : List Loc) : Prop := v = some (.int (F_pcheck p0)) ∧ Fr n0 L ∧ h = h0
set_option maxRecDepth 65536 in
set_option maxHeartbeats 40000000 in
theorem rm_pcheck (l : Launch) (Z : State) (a0' : Array Value) (hw : ∀ d ∈ tables_1, d.before a0' Z = true) (ws : List Jvm.Cond) (p0 : Int32) (p1 : Int32) (a2 : Value) (h0 : Heap) (n0 : Nat) (Z0 : n0 ≤ h0.size) (ha2 : a2.isRef = true) (hlo : ¬ (p0 < (0 : Int32))) (hhi : p0 < p1) :
    MetFree l (⟨"jdk/internal/util/Preconditions", "checkIndex", "(IILjava/util/function/BiFunction;)I"⟩ : MethodName) (head1 (Jvm.Cond.code (⟨"jdk/internal/util/Preconditions", "checkIndex", "(IILjava/util/function/BiFunction;)I"⟩ : MethodName) jdk_41_method_11_code 3 (some .int) :: ws) ({ frames := 0, cells := 0, slots := 0, locals := 0 } : Room)) (fun a U => a = #[(.int p0), (.int p1), a2] ∧ Z.Warmed39 U.vm ∧ U.heap = h0) (fun _ _ _ _ _ => True) (fun _ U o U' => ∃ v L, o = .returned v ∧ Q_pcheck Z p0 p1 a2 h0 n0 v U'.heap L ∧ FrameEnd U o U' L ({ frames := 0, cells := 0, slots := 0, locals := 0 } : Room).cells ({ frames := 0, cells := 0, slots := 0, locals := 0 } : Room).slots) := by
  refine MetFree.of_bodySF (plainFor_of_name own_pn0) hisR ?_
  intro p e s m args below meth c s₁ Bd hml0 hP hK
  obtain ⟨rfl, hZ, hh⟩ := hP
  have hx := Bd.exec
  have hby := Bd.bytes
  have hml : c.maxLocals = 3 := hml0
  have hown : s.vm.findClass "jdk/internal/util/Preconditions" = some m.cls := findClass_of_methodNamed Bd.named
  have hnm := (name_of_methodNamed Bd.named Bd.method).1
  have X0 : Stand p l e ({ frames := 0, cells := 0, slots := 0, locals := 0 } : Room) s m #[(.int p0), (.int p1), a2] below meth c s₁ [] 0 0 := Stand.of_body Bd
  have e0 : s₁.heap = h0 := by rw [← hh, Bd.state]; rfl
  have N0 := Fr.nil n0
  have pre0 : ∀ t, Steps p.tables e below (s₁.setTop (mkF m 0 #[.val (.int p0), .val (.int p1), .val a2] [])) t → Steps p.tables e below (s₁.setTop (entryFrame m #[(.int p0), (.int p1), a2] 3)) t := fun t k => castTop (own_ef_pcheck m p0 p1 a2 ha2) k
  obtain ⟨fs, hr, hrun, hended, hW, hsame⟩ := X0.leave (v := some (.int p0)) (fun h => by rw [Bd.returns] at h; cases h)
  refine ⟨_, _, pre0 _ ?_, hrun, hended, _, _, rfl, ?_, ⟨_, rfl⟩, hW, hsame.mono (by decide) (by decide)⟩
  · show Steps p.tables e below (s₁.setTop (mkF m 0 #[.val (.int p0), .val (.int p1), .val a2] [])) _
    refine XS.iloadN X0.here hx rfl (hb hby own_d_pcheck_0) rfl ?_
    show Steps p.tables e below (s₁.setTop (mkF m 1 #[.val (.int p0), .val (.int p1), .val a2] [(.int p0)])) _
    refine XS.ifNo X0.here hx rfl (hb hby own_d_pcheck_1) rfl ((if0 _ _).trans (flt hlo).1) ?_
    show Steps p.tables e below (s₁.setTop (mkF m 4 #[.val (.int p0), .val (.int p1), .val a2] [])) _
    refine XS.iloadN X0.here hx rfl (hb hby own_d_pcheck_4) rfl ?_
    show Steps p.tables e below (s₁.setTop (mkF m 5 #[.val (.int p0), .val (.int p1), .val a2] [(.int p0)])) _
    refine XS.iloadN X0.here hx rfl (hb hby own_d_pcheck_5) rfl ?_
    show Steps p.tables e below (s₁.setTop (mkF m 6 #[.val (.int p0), .val (.int p1), .val a2] [(.int p1), (.int p0)])) _
    refine XS.icmpYes X0.here hx rfl (pc0 := 6) (pc' := 16) rfl (hb hby own_d_pcheck_6) rfl (tlt hhi).1 (by decide) (by decide) ?_
    show Steps p.tables e below (s₁.setTop (mkF m 16 #[.val (.int p0), .val (.int p1), .val a2] [])) _
    refine XS.iloadN X0.here hx rfl (hb hby own_d_pcheck_16) rfl ?_
    show Steps p.tables e below (s₁.setTop (mkF m 17 #[.val (.int p0), .val (.int p1), .val a2] [(.int p0)])) _
    exact own_retI X0 hx Bd.returns (hb hby own_d_pcheck_17) hr
  · show Q_pcheck Z p0 p1 a2 h0 n0 _ s₁.heap _
    refine ⟨?_, N0, e0⟩
    rw [F_pcheck]
theorem own_pn1 : plainName "java/lang/String" = true := by first | (simp [plainName, overriddenIn]; done) | decide +kernel
theorem own_d_scheck_0 : decode jdk_42_method_155_code 0 = .ok (.iload_n 0, 1) := by decide +kernel
theorem own_d_scheck_1 : decode jdk_42_method_155_code 1 = .ok (.iload_n 1, 1) := by decide +kernel
theorem own_d_scheck_2 : decode jdk_42_method_155_code 2 = .ok (.getstatic 1053, 3) := by decide +kernel
theorem own_d_scheck_5 : decode jdk_42_method_155_code 5 = .ok (.invokestatic 1059, 3) := by decide +kernel
theorem own_pd0 : parseMethodDescriptor "(IILjava/util/function/BiFunction;)I" = some ⟨[.int, .int, (.object "java/util/function/BiFunction")], some .int⟩ := by decide +kernel
theorem own_d_scheck_8 : decode jdk_42_method_155_code 8 = .ok (.pop, 1) := by decide +kernel
theorem own_d_scheck_9 : decode jdk_42_method_155_code 9 = .ok (.return_, 1) := by decide +kernel
theorem own_ef_scheck (m : MethodId) (p0 : Int32) (p1 : Int32) : entryFrame m #[(.int p0), (.int p1)] 2 = mkF m 0 #[.val (.int p0), .val (.int p1)] [] := by first | (simp [entryFrame, mkF, argsToLocals, Value.category]; done) | rfl
def Q_scheck (Z : State) (p0 : Int32) (p1 : Int32) (fm : Value) (h0 : Heap) (n0 : Nat) (v : Option Value) (h : Heap) (L : List Loc) : Prop := v = none ∧ Fr n0 L ∧ h = h0
set_option maxRecDepth 65536 in
set_option maxHeartbeats 40000000 in
theorem rm_scheck (l : Launch) (Z : State) (a0' : Array Value) (hw : ∀ d ∈ tables_1, d.before a0' Z = true) (ws : List Jvm.Cond) (p0 : Int32) (p1 : Int32) (fm : Value) (h0 : Heap) (n0 : Nat) (Z0 : n0 ≤ h0.size) (hlo : ¬ (p0 < (0 : Int32))) (hhi : p0 < p1) (S_fm : Sta Z h0 "jdk/internal/util/Preconditions" "SIOOBE_FORMATTER" "Ljava/util/function/BiFunction;" fm) (hfm : fm.isRef = true) :
    MetFree l (⟨"java/lang/String", "checkIndex", "(II)V"⟩ : MethodName) (head1 (Jvm.Cond.code (⟨"java/lang/String", "checkIndex", "(II)V"⟩ : MethodName) jdk_42_method_155_code 2 none :: ws) ({ frames := 1, cells := 0, slots := 0, locals := 14 } : Room)) (fun a U => a = #[(.int p0), (.int p1)] ∧ Z.Warmed39 U.vm ∧ U.heap = h0) (fun _ _ _ _ _ => True) (fun _ U o U' => ∃ v L, o = .returned v ∧ Q_scheck Z p0 p1 fm h0 n0 v U'.heap L ∧ FrameEnd U o U' L ({ frames := 1, cells := 0, slots := 0, locals := 14 } : Room).cells ({ frames := 1, cells := 0, slots := 0, locals := 14 } : Room).slots) := by
  refine MetFree.of_bodySF (plainFor_of_name own_pn1) hisR ?_
  intro p e s m args below meth c s₁ Bd hml0 hP hK
  obtain ⟨rfl, hZ, hh⟩ := hP
  have hx := Bd.exec
  have hby := Bd.bytes
  have hml : c.maxLocals = 2 := hml0
  have hown : s.vm.findClass "java/lang/String" = some m.cls := findClass_of_methodNamed Bd.named
  have hnm := (name_of_methodNamed Bd.named Bd.method).1
  have X0 : Stand p l e ({ frames := 1, cells := 0, slots := 0, locals := 14 } : Room) s m #[(.int p0), (.int p1)] below meth c s₁ [] 0 0 := Stand.of_body Bd
  have e0 : s₁.heap = h0 := by rw [← hh, Bd.state]; rfl
  have N0 := Fr.nil n0
  have pre0 : ∀ t, Steps p.tables e below (s₁.setTop (mkF m 0 #[.val (.int p0), .val (.int p1)] [])) t → Steps p.tables e below (s₁.setTop (entryFrame m #[(.int p0), (.int p1)] 2)) t := fun t k => castTop (own_ef_scheck m p0 p1) k
  obtain ⟨T1, X1, e1, st1⟩ := getS2 X0 hx hZ hown (host := "") (Or.inl (hw _ (List.mem_of_getElem? (i := 38) rfl))) Via.refl e0 S_fm (g := (mkF m 2 #[.val (.int p0), .val (.int p1)] [(.int p1), (.int p0)])) rfl (hb hby own_d_scheck_2)
  obtain ⟨_, _, ⟨T2, L2, k2, n2⟩, -, X2, ⟨Lc2, hQ2, l2, y2, z2⟩, st2⟩ := Jvm.LawKit.callS X1 hx (y := (⟨"jdk/internal/util/Preconditions", "checkIndex", "(IILjava/util/function/BiFunction;)I"⟩ : MethodName)) hown (mvT hZ (hw _ (List.mem_of_getElem? (i := 40) rfl))) (mvT hZ (hw _ (List.mem_of_getElem? (i := 41) rfl))) (mvT hZ (hw _ (List.mem_of_getElem? (i := 39) rfl))) (mvT hZ (hw _ (List.mem_of_getElem? (i := 42) rfl))) (by decide) (backOf (W := 0) (rm_pcheck l Z a0' hw [] p0 p1 fm h0 n0 Z0 hfm hlo hhi) hZ (hw _ (List.mem_of_getElem? (i := 42) rfl)) (hw _ (List.mem_of_getElem? (i := 39) rfl)) (by decide) (by decide)) (g := (mkF m 5 #[.val (.int p0), .val (.int p1)] [fm, (.int p1), (.int p0)])) rfl (by rw [hml]; rfl) (argsL := [(.int p0), (.int p1), fm]) (rest := []) (lenOf own_pd0 rfl) rfl (by show 2 * 0 + _ ≤ _; exact Nat.le_of_eq rfl) (hb hby own_d_scheck_5) (fun _ _ => ⟨rfl, e1, (by decide : 0 + 0 ≤ _), (by decide : 0 + 0 ≤ _)⟩)
  dsimp only [Pt.U, Pt.locs, Pt.cells, Pt.slots] at X2 l2 y2 z2 st2 hQ2
  subst l2 y2 z2
  obtain ⟨rfl, N2q, e2⟩ := hQ2
  have N2 := Fr.app N0 N2q
  obtain ⟨fs, hr, hrun, hended, hW, hsame⟩ := X2.leave (v := none) (fun _ => rfl)
  refine ⟨_, _, pre0 _ ?_, hrun, hended, _, _, rfl, ?_, ⟨_, rfl⟩, hW, hsame.mono (by decide) (by decide)⟩
  · show Steps p.tables e below (s₁.setTop (mkF m 0 #[.val (.int p0), .val (.int p1)] [])) _
    refine XS.iloadN X0.here hx rfl (hb hby own_d_scheck_0) rfl ?_
    show Steps p.tables e below (s₁.setTop (mkF m 1 #[.val (.int p0), .val (.int p1)] [(.int p0)])) _
    refine XS.iloadN X0.here hx rfl (hb hby own_d_scheck_1) rfl ?_
    show Steps p.tables e below (s₁.setTop (mkF m 2 #[.val (.int p0), .val (.int p1)] [(.int p1), (.int p0)])) _
    refine st1 _ ?_
    show Steps p.tables e below (T1.setTop (mkF m 5 #[.val (.int p0), .val (.int p1)] [fm, (.int p1), (.int p0)])) _
    refine st2 _ ?_
    show Steps p.tables e below (T2.setTop (mkF m 8 #[.val (.int p0), .val (.int p1)] [(.int p0)])) _
    refine XS.pop X2.here hx rfl (hb hby own_d_scheck_8) rfl rfl ?_
    show Steps p.tables e below (T2.setTop (mkF m 9 #[.val (.int p0), .val (.int p1)] [])) _
    exact X2.returnOut hx Bd.returns (hb hby own_d_scheck_9) hr
  · show Q_scheck Z p0 p1 fm h0 n0 _ T2.heap _
    refine ⟨?_, N2, e2⟩
    rfl
theorem own_pn2 : plainName "java/lang/StringLatin1" = true := by first | (simp [plainName, overriddenIn]; done) | decide +kernel
theorem own_d_lchar_0 : decode jdk_43_method_2_code 0 = .ok (.iload_n 1, 1) := by decide +kernel
theorem own_d_lchar_1 : decode jdk_43_method_2_code 1 = .ok (.aload_n 0, 1) := by decide +kernel
theorem own_d_lchar_2 : decode jdk_43_method_2_code 2 = .ok (.arraylength, 1) := by decide +kernel
theorem own_d_lchar_3 : decode jdk_43_method_2_code 3 = .ok (.invokestatic 9, 3) := by decide +kernel
theorem own_pd1 : parseMethodDescriptor "(II)V" = some ⟨[.int, .int], none⟩ := by decide +kernel
theorem own_d_lchar_6 : decode jdk_43_method_2_code 6 = .ok (.aload_n 0, 1) := by decide +kernel
theorem own_d_lchar_7 : decode jdk_43_method_2_code 7 = .ok (.iload_n 1, 1) := by decide +kernel
theorem own_d_lchar_8 : decode jdk_43_method_2_code 8 = .ok (.baload, 1) := by decide +kernel
theorem own_d_lchar_9 : decode jdk_43_method_2_code 9 = .ok (.sipush 255, 3) := by decide +kernel
theorem own_d_lchar_12 : decode jdk_43_method_2_code 12 = .ok (.iand, 1) := by decide +kernel
theorem own_d_lchar_13 : decode jdk_43_method_2_code 13 = .ok (.i2c, 1) := by decide +kernel
theorem own_d_lchar_14 : decode jdk_43_method_2_code 14 = .ok (.ireturn, 1) := by decide +kernel
def F_lchar (b : Int32) : Int32 := (nar .char ((b &&& (255 : Int32)).toUInt32.toUInt16.toUInt32.toInt32))
theorem own_ef_lchar (m : MethodId) (a0 : Addr) (p1 : Int32) : entryFrame m #[(.ref a0), (.int p1)] 2 = mkF m 0 #[.val (.ref a0), .val (.int p1)] [] := by first | (simp [entryFrame, mkF, argsToLocals, Value.category]; done) | rfl
def Q_lchar (Z : State) (a0 : Addr) (p1 : Int32) (cl : Cell) (z : Int32) (b : Int32) (fm : Value) (h0 : Heap) (n0 : Nat) (v : Option Value) (h : Heap) (L : List Loc) : Prop := v = some (.int (F_lchar b)) ∧ Fr n0 L ∧ h = h0
set_option maxRecDepth 65536 in
set_option maxHeartbeats 40000000 in
theorem rm_lchar (l : Launch) (Z : State) (a0' : Array Value) (hw : ∀ d ∈ tables_1, d.before a0' Z = true) (ws : List Jvm.Cond) (a0 : Addr) (p1 : Int32) (cl : Cell) (z : Int32) (b : Int32) (fm : Value) (h0 : Heap) (n0 : Nat) (Z0 : n0 ≤ h0.size) (Ar : Arr Z h0 a0 cl .byte) (hsz : cl.slots.size = z.toNatClampNeg) (hnn : ¬ z < 0) (hlo : ¬ (p1 < (0 : Int32))) (hhi : p1 < z) (hat : cl.slots[p1.toNatClampNeg]? = some (.int b)) (S_fm : Sta Z h0 "jdk/internal/util/Preconditions" "SIOOBE_FORMATTER" "Ljava/util/function/BiFunction;" fm) (hfm : fm.isRef = true) :
    MetFree l (⟨"java/lang/StringLatin1", "charAt", "([BI)C"⟩ : MethodName) (head1 (Jvm.Cond.code (⟨"java/lang/StringLatin1", "charAt", "([BI)C"⟩ : MethodName) jdk_43_method_2_code 2 (some .char) :: ws) ({ frames := 2, cells := 0, slots := 0, locals := 27 } : Room)) (fun a U => a = #[(.ref a0), (.int p1)] ∧ Z.Warmed39 U.vm ∧ U.heap = h0) (fun _ _ _ _ _ => True) (fun _ U o U' => ∃ v L, o = .returned v ∧ Q_lchar Z a0 p1 cl z b fm h0 n0 v U'.heap L ∧ FrameEnd U o U' L ({ frames := 2, cells := 0, slots := 0, locals := 27 } : Room).cells ({ frames := 2, cells := 0, slots := 0, locals := 27 } : Room).slots) := by
  refine MetFree.of_bodySF (plainFor_of_name own_pn2) hisR ?_
  intro p e s m args below meth c s₁ Bd hml0 hP hK
  obtain ⟨rfl, hZ, hh⟩ := hP
  have hx := Bd.exec
  have hby := Bd.bytes
  have hml : c.maxLocals = 2 := hml0
  have hown : s.vm.findClass "java/lang/StringLatin1" = some m.cls := findClass_of_methodNamed Bd.named
  have hnm := (name_of_methodNamed Bd.named Bd.method).1
  have X0 : Stand p l e ({ frames := 2, cells := 0, slots := 0, locals := 27 } : Room) s m #[(.ref a0), (.int p1)] below meth c s₁ [] 0 0 := Stand.of_body Bd
  have e0 : s₁.heap = h0 := by rw [← hh, Bd.state]; rfl
  have N0 := Fr.nil n0
  have pre0 : ∀ t, Steps p.tables e below (s₁.setTop (mkF m 0 #[.val (.ref a0), .val (.int p1)] [])) t → Steps p.tables e below (s₁.setTop (entryFrame m #[(.ref a0), (.int p1)] 2)) t := fun t k => castTop (own_ef_lchar m a0 p1) k
  obtain ⟨_, _, ⟨T3, L3, k3, n3⟩, -, X3, ⟨Lc3, hQ3, l3, y3, z3⟩, st3⟩ := Jvm.LawKit.callS X0 hx (y := (⟨"java/lang/String", "checkIndex", "(II)V"⟩ : MethodName)) hown (mvT hZ (hw _ (List.mem_of_getElem? (i := 35) rfl))) (mvT hZ (hw _ (List.mem_of_getElem? (i := 36) rfl))) (mvT hZ (hw _ (List.mem_of_getElem? (i := 19) rfl))) (mvT hZ (hw _ (List.mem_of_getElem? (i := 37) rfl))) (by decide) (backOf (W := 0) (rm_scheck l Z a0' hw [] p1 z fm h0 n0 Z0 hlo hhi S_fm hfm) hZ (hw _ (List.mem_of_getElem? (i := 37) rfl)) (hw _ (List.mem_of_getElem? (i := 19) rfl)) (by decide) (by decide)) (g := (mkF m 3 #[.val (.ref a0), .val (.int p1)] [(.int z), (.int p1)])) rfl (by rw [hml]; rfl) (argsL := [(.int p1), (.int z)]) (rest := []) (lenOf own_pd1 rfl) rfl (by show 2 * 0 + _ ≤ _; exact Nat.le_of_eq rfl) (hb hby own_d_lchar_3) (fun _ _ => ⟨rfl, e0, (by decide : 0 + 0 ≤ _), (by decide : 0 + 0 ≤ _)⟩)
  dsimp only [Pt.U, Pt.locs, Pt.cells, Pt.slots] at X3 l3 y3 z3 st3 hQ3
  subst l3 y3 z3
  obtain ⟨rfl, N3q, e3⟩ := hQ3
  have N3 := Fr.app N0 N3q
  obtain ⟨fs, hr, hrun, hended, hW, hsame⟩ := X3.leave (v := some (.int (nar .char ((b &&& (255 : Int32)).toUInt32.toUInt16.toUInt32.toInt32)))) (fun h => by rw [Bd.returns] at h; cases h)
  refine ⟨_, _, pre0 _ ?_, hrun, hended, _, _, rfl, ?_, ⟨_, rfl⟩, hW, hsame.mono (by decide) (by decide)⟩
  · show Steps p.tables e below (s₁.setTop (mkF m 0 #[.val (.ref a0), .val (.int p1)] [])) _
    refine XS.iloadN X0.here hx rfl (hb hby own_d_lchar_0) rfl ?_
    show Steps p.tables e below (s₁.setTop (mkF m 1 #[.val (.ref a0), .val (.int p1)] [(.int p1)])) _
    refine XS.aloadN X0.here hx rfl (hb hby own_d_lchar_1) rfl rfl ?_
    show Steps p.tables e below (s₁.setTop (mkF m 2 #[.val (.ref a0), .val (.int p1)] [(.ref a0), (.int p1)])) _
    refine X0.arraylength hx (by rw [e0]; exact Ar.1) (State.isArrayOf_alike hZ.alike Ar.2.1) (g := (mkF m 2 #[.val (.ref a0), .val (.int p1)] [(.ref a0), (.int p1)])) rfl rfl (hb hby own_d_lchar_2) _ ?_
    rw [len_of hsz hnn]
    show Steps p.tables e below (s₁.setTop (mkF m 3 #[.val (.ref a0), .val (.int p1)] [(.int z), (.int p1)])) _
    refine st3 _ ?_
    show Steps p.tables e below (T3.setTop (mkF m 6 #[.val (.ref a0), .val (.int p1)] [])) _
    refine XS.aloadN X3.here hx rfl (hb hby own_d_lchar_6) rfl rfl ?_
    show Steps p.tables e below (T3.setTop (mkF m 7 #[.val (.ref a0), .val (.int p1)] [(.ref a0)])) _
    refine XS.iloadN X3.here hx rfl (hb hby own_d_lchar_7) rfl ?_
    show Steps p.tables e below (T3.setTop (mkF m 8 #[.val (.ref a0), .val (.int p1)] [(.int p1), (.ref a0)])) _
    refine X3.baloadBytes hx (j := p1) (v := (.int b)) (by rw [e3]; exact Ar.1) (State.isArrayOf_alike hZ.alike Ar.2.1) Ar.2.2 (own_hin hsz hlo hhi) hat (g := (mkF m 8 #[.val (.ref a0), .val (.int p1)] [(.int p1), (.ref a0)])) rfl rfl (hb hby own_d_lchar_8) _ ?_
    show Steps p.tables e below (T3.setTop (mkF m 9 #[.val (.ref a0), .val (.int p1)] [(.int b)])) _
    refine XS.sipush X3.here hx rfl (hb hby own_d_lchar_9) ?_
    show Steps p.tables e below (T3.setTop (mkF m 12 #[.val (.ref a0), .val (.int p1)] [(.int (255 : Int32)), (.int b)])) _
    refine XS.iand X3.here hx rfl (hb hby own_d_lchar_12) rfl ?_
    show Steps p.tables e below (T3.setTop (mkF m 13 #[.val (.ref a0), .val (.int p1)] [(.int (b &&& (255 : Int32)))])) _
    refine XS.i2c X3.here hx rfl (hb hby own_d_lchar_13) rfl ?_
    show Steps p.tables e below (T3.setTop (mkF m 14 #[.val (.ref a0), .val (.int p1)] [(.int ((b &&& (255 : Int32)).toUInt32.toUInt16.toUInt32.toInt32))])) _
    exact retN X3 hx (t := .char) Bd.returns (by simp) (hb hby own_d_lchar_14) hr
  · show Q_lchar Z a0 p1 cl z b fm h0 n0 _ T3.heap _
    refine ⟨?_, N3, e3⟩
    rw [F_lchar]
theorem own_d_latin_0 : decode jdk_42_method_154_code 0 = .ok (.getstatic 38, 3) := by decide +kernel
theorem own_d_latin_3 : decode jdk_42_method_154_code 3 = .ok (.ifCond .eq 14, 3) := by decide +kernel
theorem own_d_latin_6 : decode jdk_42_method_154_code 6 = .ok (.aload_n 0, 1) := by decide +kernel
theorem own_d_latin_7 : decode jdk_42_method_154_code 7 = .ok (.getfield 15, 3) := by decide +kernel
theorem own_d_latin_10 : decode jdk_42_method_154_code 10 = .ok (.ifCond .ne 7, 3) := by decide +kernel
theorem own_d_latin_13 : decode jdk_42_method_154_code 13 = .ok (.iconst 1, 1) := by decide +kernel
theorem own_d_latin_14 : decode jdk_42_method_154_code 14 = .ok (.goto 4, 3) := by decide +kernel
theorem own_d_latin_18 : decode jdk_42_method_154_code 18 = .ok (.ireturn, 1) := by decide +kernel
def F_latin  : Int32 := (1 : Int32)
theorem own_ef_latin (m : MethodId) (a0 : Addr) : entryFrame m #[(.ref a0)] 1 = mkF m 0 #[.val (.ref a0)] [] := by first | (simp [entryFrame, mkF, argsToLocals, Value.category]; done) | rfl
def Q_latin (Z : State) (a0 : Addr) (kc : Int32) (h0 : Heap) (n0 : Nat) (v : Option Value) (h : Heap) (L : List Loc) : Prop := v = some (.int F_latin) ∧ Fr n0 L ∧ h = h0
set_option maxRecDepth 65536 in
set_option maxHeartbeats 40000000 in
theorem rm_latin (l : Launch) (Z : State) (a0' : Array Value) (hw : ∀ d ∈ tables_1, d.before a0' Z = true) (ws : List Jvm.Cond) (a0 : Addr) (kc : Int32) (h0 : Heap) (n0 : Nat) (Z0 : n0 ≤ h0.size) (HC : Fld Z h0 a0 "java/lang/String" "coder" "B" (.int (0 : Int32))) (S_cs : Sta Z h0 "java/lang/String" "COMPACT_STRINGS" "Z" (.int kc)) (hkc : ¬ (kc = (0 : Int32))) :
    MetFree l (⟨"java/lang/String", "isLatin1", "()Z"⟩ : MethodName) (head1 (Jvm.Cond.code (⟨"java/lang/String", "isLatin1", "()Z"⟩ : MethodName) jdk_42_method_154_code 1 (some .boolean) :: ws) ({ frames := 0, cells := 0, slots := 0, locals := 0 } : Room)) (fun a U => a = #[(.ref a0)] ∧ Z.Warmed39 U.vm ∧ U.heap = h0) (fun _ _ _ _ _ => True) (fun _ U o U' => ∃ v L, o = .returned v ∧ Q_latin Z a0 kc h0 n0 v U'.heap L ∧ FrameEnd U o U' L ({ frames := 0, cells := 0, slots := 0, locals := 0 } : Room).cells ({ frames := 0, cells := 0, slots := 0, locals := 0 } : Room).slots) := by
  refine MetFree.of_bodySF (plainFor_of_name own_pn1) hisR ?_
  intro p e s m args below meth c s₁ Bd hml0 hP hK
  obtain ⟨rfl, hZ, hh⟩ := hP
  have hx := Bd.exec
  have hby := Bd.bytes
  have hml : c.maxLocals = 1 := hml0
  have hown : s.vm.findClass "java/lang/String" = some m.cls := findClass_of_methodNamed Bd.named
  have hnm := (name_of_methodNamed Bd.named Bd.method).1
  have X0 : Stand p l e ({ frames := 0, cells := 0, slots := 0, locals := 0 } : Room) s m #[(.ref a0)] below meth c s₁ [] 0 0 := Stand.of_body Bd
  have e0 : s₁.heap = h0 := by rw [← hh, Bd.state]; rfl
  have N0 := Fr.nil n0
  have pre0 : ∀ t, Steps p.tables e below (s₁.setTop (mkF m 0 #[.val (.ref a0)] [])) t → Steps p.tables e below (s₁.setTop (entryFrame m #[(.ref a0)] 1)) t := fun t k => castTop (own_ef_latin m a0) k
  obtain ⟨T4, X4, e4, st4⟩ := getS2 X0 hx hZ hown (host := "") (Or.inl (hw _ (List.mem_of_getElem? (i := 26) rfl))) Via.refl e0 S_cs (g := (mkF m 0 #[.val (.ref a0)] [])) rfl (hb hby own_d_latin_0)
  obtain ⟨T5, X5, e5, st5⟩ := getF X4 hx hZ hown (host := "") (Or.inl (hw _ (List.mem_of_getElem? (i := 27) rfl))) Via.refl e4 HC (g := (mkF m 7 #[.val (.ref a0)] [(.ref a0)])) rfl rfl (hb hby own_d_latin_7)
  obtain ⟨fs, hr, hrun, hended, hW, hsame⟩ := X5.leave (v := some (.int (1 : Int32))) (fun h => by rw [Bd.returns] at h; cases h)
  refine ⟨_, _, pre0 _ ?_, hrun, hended, _, _, rfl, ?_, ⟨_, rfl⟩, hW, hsame.mono (by decide) (by decide)⟩
  · show Steps p.tables e below (s₁.setTop (mkF m 0 #[.val (.ref a0)] [])) _
    refine st4 _ ?_
    show Steps p.tables e below (T4.setTop (mkF m 3 #[.val (.ref a0)] [(.int kc)])) _
    refine XS.ifNo X4.here hx rfl (hb hby own_d_latin_3) rfl ((if0 _ _).trans (feq hkc).1) ?_
    show Steps p.tables e below (T4.setTop (mkF m 6 #[.val (.ref a0)] [])) _
    refine XS.aloadN X4.here hx rfl (hb hby own_d_latin_6) rfl rfl ?_
    show Steps p.tables e below (T4.setTop (mkF m 7 #[.val (.ref a0)] [(.ref a0)])) _
    refine st5 _ ?_
    show Steps p.tables e below (T5.setTop (mkF m 10 #[.val (.ref a0)] [(.int (0 : Int32))])) _
    refine XS.ifNo X5.here hx rfl (hb hby own_d_latin_10) rfl ((if0 _ _).trans (teq (by decide : (0 : Int32) = (0 : Int32))).2) ?_
    show Steps p.tables e below (T5.setTop (mkF m 13 #[.val (.ref a0)] [])) _
    refine XS.iconst X5.here hx rfl (hb hby own_d_latin_13) ?_
    show Steps p.tables e below (T5.setTop (mkF m 14 #[.val (.ref a0)] [(.int (1 : Int32))])) _
    refine XS.goto X5.here hx rfl (pc0 := 14) (pc' := 18) rfl (hb hby own_d_latin_14) (by decide) (by decide) ?_
    show Steps p.tables e below (T5.setTop (mkF m 18 #[.val (.ref a0)] [(.int (1 : Int32))])) _
    exact retN X5 hx (t := .boolean) Bd.returns (by simp) (hb hby own_d_latin_18) hr
  · show Q_latin Z a0 kc h0 n0 _ T5.heap _
    refine ⟨?_, N0, e5⟩
    rw [F_latin]
theorem own_d_chr_0 : decode jdk_42_method_56_code 0 = .ok (.aload_n 0, 1) := by decide +kernel
theorem own_d_chr_1 : decode jdk_42_method_56_code 1 = .ok (.invokevirtual 492, 3) := by decide +kernel
theorem own_pd2 : parseMethodDescriptor "()Z" = some ⟨[], some .boolean⟩ := by decide +kernel
theorem own_d_chr_4 : decode jdk_42_method_56_code 4 = .ok (.ifCond .eq 12, 3) := by decide +kernel
theorem own_d_chr_7 : decode jdk_42_method_56_code 7 = .ok (.aload_n 0, 1) := by decide +kernel
theorem own_d_chr_8 : decode jdk_42_method_56_code 8 = .ok (.getfield 9, 3) := by decide +kernel
theorem own_d_chr_11 : decode jdk_42_method_56_code 11 = .ok (.iload_n 1, 1) := by decide +kernel
theorem own_d_chr_12 : decode jdk_42_method_56_code 12 = .ok (.invokestatic 495, 3) := by decide +kernel
theorem own_pd3 : parseMethodDescriptor "([BI)C" = some ⟨[(.array .byte), .int], some .char⟩ := by decide +kernel
theorem own_d_chr_15 : decode jdk_42_method_56_code 15 = .ok (.ireturn, 1) := by decide +kernel
def F_chr (b : Int32) : Int32 := (nar .char (F_lchar b))
theorem own_ef_chr (m : MethodId) (a0 : Addr) (p1 : Int32) : entryFrame m #[(.ref a0), (.int p1)] 2 = mkF m 0 #[.val (.ref a0), .val (.int p1)] [] := by first | (simp [entryFrame, mkF, argsToLocals, Value.category]; done) | rfl
def Q_chr (Z : State) (a0 : Addr) (p1 : Int32) (va : Addr) (cl : Cell) (z : Int32) (b : Int32) (kc : Int32) (fm : Value) (h0 : Heap) (n0 : Nat) (v : Option Value) (h : Heap) (L : List Loc) : Prop := v = some (.int (F_chr b)) ∧ Fr n0 L ∧ h = h0
set_option maxRecDepth 65536 in
set_option maxHeartbeats 40000000 in
theorem rm_chr (l : Launch) (Z : State) (a0' : Array Value) (hw : ∀ d ∈ tables_1, d.before a0' Z = true) (ws : List Jvm.Cond) (a0 : Addr) (p1 : Int32) (va : Addr) (cl : Cell) (z : Int32) (b : Int32) (kc : Int32) (fm : Value) (h0 : Heap) (n0 : Nat) (Z0 : n0 ≤ h0.size) (HE : Exa Z h0 a0 "java/lang/String") (HC : Fld Z h0 a0 "java/lang/String" "coder" "B" (.int (0 : Int32))) (HV : Fld Z h0 a0 "java/lang/String" "value" "[B" (.ref va)) (Ar : Arr Z h0 va cl .byte) (hsz : cl.slots.size = z.toNatClampNeg) (hnn : ¬ z < 0) (hlo : ¬ (p1 < (0 : Int32))) (hhi : p1 < z) (hat : cl.slots[p1.toNatClampNeg]? = some (.int b)) (S_cs : Sta Z h0 "java/lang/String" "COMPACT_STRINGS" "Z" (.int kc)) (hkc : ¬ (kc = (0 : Int32))) (S_fm : Sta Z h0 "jdk/internal/util/Preconditions" "SIOOBE_FORMATTER" "Ljava/util/function/BiFunction;" fm) (hfm : fm.isRef = true) :
    MetFree l (⟨"java/lang/String", "charAt", "(I)C"⟩ : MethodName) (head1 (Jvm.Cond.code (⟨"java/lang/String", "charAt", "(I)C"⟩ : MethodName) jdk_42_method_56_code 2 (some .char) :: ws) ({ frames := 3, cells := 0, slots := 0, locals := 40 } : Room)) (fun a U => a = #[(.ref a0), (.int p1)] ∧ Z.Warmed39 U.vm ∧ U.heap = h0) (fun _ _ _ _ _ => True) (fun _ U o U' => ∃ v L, o = .returned v ∧ Q_chr Z a0 p1 va cl z b kc fm h0 n0 v U'.heap L ∧ FrameEnd U o U' L ({ frames := 3, cells := 0, slots := 0, locals := 40 } : Room).cells ({ frames := 3, cells := 0, slots := 0, locals := 40 } : Room).slots) := by
  refine MetFree.of_bodySF (plainFor_of_name own_pn1) hisR ?_
  intro p e s m args below meth c s₁ Bd hml0 hP hK
  obtain ⟨rfl, hZ, hh⟩ := hP
  have hx := Bd.exec
  have hby := Bd.bytes
  have hml : c.maxLocals = 2 := hml0
  have hown : s.vm.findClass "java/lang/String" = some m.cls := findClass_of_methodNamed Bd.named
  have hnm := (name_of_methodNamed Bd.named Bd.method).1
  have X0 : Stand p l e ({ frames := 3, cells := 0, slots := 0, locals := 40 } : Room) s m #[(.ref a0), (.int p1)] below meth c s₁ [] 0 0 := Stand.of_body Bd
  have e0 : s₁.heap = h0 := by rw [← hh, Bd.state]; rfl
  have N0 := Fr.nil n0
  have pre0 : ∀ t, Steps p.tables e below (s₁.setTop (mkF m 0 #[.val (.ref a0), .val (.int p1)] [])) t → Steps p.tables e below (s₁.setTop (entryFrame m #[(.ref a0), (.int p1)] 2)) t := fun t k => castTop (own_ef_chr m a0 p1) k
  obtain ⟨cq6, kq6, q6a, q6b, q6c⟩ := isOf hZ e0 HE
  obtain ⟨_, _, ⟨T6, L6, k6, n6⟩, -, X6, ⟨Lc6, hQ6, l6, y6, z6⟩, st6⟩ := X0.virtualBack hx (y := (⟨"java/lang/String", "isLatin1", "()Z"⟩ : MethodName)) (z := (⟨"java/lang/String", "isLatin1", "()Z"⟩ : MethodName)) hown (mvT hZ (hw _ (List.mem_of_getElem? (i := 21) rfl))) (mvT hZ (hw _ (List.mem_of_getElem? (i := 22) rfl))) (notFace_of_selects (args := #[]) (mvT hZ (hw _ (List.mem_of_getElem? (i := 24) rfl)))) (mvT hZ (hw _ (List.mem_of_getElem? (i := 24) rfl))) (mvT hZ (hw _ (List.mem_of_getElem? (i := 23) rfl))) (by decide) (backOf (W := 0) (rm_latin l Z a0' hw [] a0 kc h0 n0 Z0 HC S_cs hkc) hZ (hw _ (List.mem_of_getElem? (i := 25) rfl)) (hw _ (List.mem_of_getElem? (i := 19) rfl)) (by decide) (by decide)) q6a q6c (g := (mkF m 1 #[.val (.ref a0), .val (.int p1)] [(.ref a0)])) rfl (by rw [hml]; rfl) (Steps.refl _) (argsL := []) (rest := []) (lenOf own_pd2 rfl) rfl (by show 2 * 0 + _ ≤ _; exact Nat.le_of_eq rfl) (hb hby own_d_chr_1) (fun _ _ => ⟨rfl, e0, (by decide : 0 + 0 ≤ _), (by decide : 0 + 0 ≤ _)⟩)
  dsimp only [Pt.U, Pt.locs, Pt.cells, Pt.slots] at X6 l6 y6 z6 st6 hQ6
  subst l6 y6 z6
  obtain ⟨rfl, N6q, e6⟩ := hQ6
  have N6 := Fr.app N0 N6q
  obtain ⟨T7, X7, e7, st7⟩ := getF X6 hx hZ hown (host := "") (Or.inl (hw _ (List.mem_of_getElem? (i := 29) rfl))) Via.refl e6 HV (g := (mkF m 8 #[.val (.ref a0), .val (.int p1)] [(.ref a0)])) rfl rfl (hb hby own_d_chr_8)
  obtain ⟨_, _, ⟨T8, L8, k8, n8⟩, -, X8, ⟨Lc8, hQ8, l8, y8, z8⟩, st8⟩ := Jvm.LawKit.callS X7 hx (y := (⟨"java/lang/StringLatin1", "charAt", "([BI)C"⟩ : MethodName)) hown (mvT hZ (hw _ (List.mem_of_getElem? (i := 31) rfl))) (mvT hZ (hw _ (List.mem_of_getElem? (i := 32) rfl))) (mvT hZ (hw _ (List.mem_of_getElem? (i := 33) rfl))) (mvT hZ (hw _ (List.mem_of_getElem? (i := 34) rfl))) (by decide) (backOf (W := 0) (rm_lchar l Z a0' hw [] va p1 cl z b fm h0 n0 Z0 Ar hsz hnn hlo hhi hat S_fm hfm) hZ (hw _ (List.mem_of_getElem? (i := 34) rfl)) (hw _ (List.mem_of_getElem? (i := 33) rfl)) (by decide) (by decide)) (g := (mkF m 12 #[.val (.ref a0), .val (.int p1)] [(.int p1), (.ref va)])) rfl (by rw [hml]; rfl) (argsL := [(.ref va), (.int p1)]) (rest := []) (lenOf own_pd3 rfl) rfl (by show 2 * 0 + _ ≤ _; exact Nat.le_of_eq rfl) (hb hby own_d_chr_12) (fun _ _ => ⟨rfl, e7, (by decide : 0 + 0 ≤ _), (by decide : 0 + 0 ≤ _)⟩)
  dsimp only [Pt.U, Pt.locs, Pt.cells, Pt.slots] at X8 l8 y8 z8 st8 hQ8
  subst l8 y8 z8
  obtain ⟨rfl, N8q, e8⟩ := hQ8
  have N8 := Fr.app N6 N8q
  obtain ⟨fs, hr, hrun, hended, hW, hsame⟩ := X8.leave (v := some (.int (nar .char (F_lchar b)))) (fun h => by rw [Bd.returns] at h; cases h)
  refine ⟨_, _, pre0 _ ?_, hrun, hended, _, _, rfl, ?_, ⟨_, rfl⟩, hW, hsame.mono (by decide) (by decide)⟩
  · show Steps p.tables e below (s₁.setTop (mkF m 0 #[.val (.ref a0), .val (.int p1)] [])) _
    refine XS.aloadN X0.here hx rfl (hb hby own_d_chr_0) rfl rfl ?_
    show Steps p.tables e below (s₁.setTop (mkF m 1 #[.val (.ref a0), .val (.int p1)] [(.ref a0)])) _
    refine st6.trans ?_
    show Steps p.tables e below (T6.setTop (mkF m 4 #[.val (.ref a0), .val (.int p1)] [(.int (1 : Int32))])) _
    refine XS.ifNo X6.here hx rfl (hb hby own_d_chr_4) rfl ((if0 _ _).trans (feq (by decide : ¬ ((1 : Int32) = (0 : Int32)))).1) ?_
    show Steps p.tables e below (T6.setTop (mkF m 7 #[.val (.ref a0), .val (.int p1)] [])) _
    refine XS.aloadN X6.here hx rfl (hb hby own_d_chr_7) rfl rfl ?_
    show Steps p.tables e below (T6.setTop (mkF m 8 #[.val (.ref a0), .val (.int p1)] [(.ref a0)])) _
    refine st7 _ ?_
    show Steps p.tables e below (T7.setTop (mkF m 11 #[.val (.ref a0), .val (.int p1)] [(.ref va)])) _
    refine XS.iloadN X7.here hx rfl (hb hby own_d_chr_11) rfl ?_
    show Steps p.tables e below (T7.setTop (mkF m 12 #[.val (.ref a0), .val (.int p1)] [(.int p1), (.ref va)])) _
    refine st8 _ ?_
    show Steps p.tables e below (T8.setTop (mkF m 15 #[.val (.ref a0), .val (.int p1)] [(.int (F_lchar b))])) _
    exact retN X8 hx (t := .char) Bd.returns (by simp) (hb hby own_d_chr_15) hr
  · show Q_chr Z a0 p1 va cl z b kc fm h0 n0 _ T8.heap _
    refine ⟨?_, N8, e8⟩
    rw [F_chr]
theorem own_pn3 : plainName "com/example/gard/gard/core/OperatorOrdersPinLaw" = true := by first | (simp [plainName, overriddenIn]; done) | decide +kernel
theorem own_d_pick_0 : decode method_2_code 0 = .ok (.iload_n 0, 1) := by decide +kernel
theorem own_d_pick_1 : decode method_2_code 1 = .ok (.ifCond .ne 7, 3) := by decide +kernel
theorem own_d_pick_4 : decode method_2_code 4 = .ok (.getstatic 7, 3) := by decide +kernel
theorem own_d_pick_7 : decode method_2_code 7 = .ok (.areturn, 1) := by decide +kernel
theorem own_d_pick_8 : decode method_2_code 8 = .ok (.iload_n 0, 1) := by decide +kernel
theorem own_d_pick_9 : decode method_2_code 9 = .ok (.iconst 1, 1) := by decide +kernel
theorem own_d_pick_10 : decode method_2_code 10 = .ok (.if_icmp .ne 7, 3) := by decide +kernel
theorem own_d_pick_13 : decode method_2_code 13 = .ok (.getstatic 13, 3) := by decide +kernel
theorem own_d_pick_16 : decode method_2_code 16 = .ok (.areturn, 1) := by decide +kernel
theorem own_d_pick_17 : decode method_2_code 17 = .ok (.iload_n 0, 1) := by decide +kernel
theorem own_d_pick_18 : decode method_2_code 18 = .ok (.iconst 2, 1) := by decide +kernel
theorem own_d_pick_19 : decode method_2_code 19 = .ok (.if_icmp .ne 7, 3) := by decide +kernel
theorem own_d_pick_22 : decode method_2_code 22 = .ok (.getstatic 16, 3) := by decide +kernel
theorem own_d_pick_25 : decode method_2_code 25 = .ok (.areturn, 1) := by decide +kernel
theorem own_d_pick_26 : decode method_2_code 26 = .ok (.iload_n 0, 1) := by decide +kernel
theorem own_d_pick_27 : decode method_2_code 27 = .ok (.iconst 3, 1) := by decide +kernel
theorem own_d_pick_28 : decode method_2_code 28 = .ok (.if_icmp .ne 7, 3) := by decide +kernel
theorem own_d_pick_31 : decode method_2_code 31 = .ok (.getstatic 19, 3) := by decide +kernel
theorem own_d_pick_34 : decode method_2_code 34 = .ok (.areturn, 1) := by decide +kernel
theorem own_d_pick_35 : decode method_2_code 35 = .ok (.iload_n 0, 1) := by decide +kernel
theorem own_d_pick_36 : decode method_2_code 36 = .ok (.iconst 4, 1) := by decide +kernel
theorem own_d_pick_37 : decode method_2_code 37 = .ok (.if_icmp .ne 7, 3) := by decide +kernel
theorem own_d_pick_40 : decode method_2_code 40 = .ok (.getstatic 22, 3) := by decide +kernel
theorem own_d_pick_43 : decode method_2_code 43 = .ok (.areturn, 1) := by decide +kernel
theorem own_d_pick_44 : decode method_2_code 44 = .ok (.getstatic 25, 3) := by decide +kernel
theorem own_d_pick_47 : decode method_2_code 47 = .ok (.areturn, 1) := by decide +kernel
def F_pick (p0 : Int32) (w_EQUAL : Addr) (w_NOT_EQUAL : Addr) (w_LESS : Addr) (w_LESS_OR_EQUAL : Addr) (w_GREATER : Addr) (w_GREATER_OR_EQUAL : Addr) : Addr := (if p0 = (0 : Int32) then w_EQUAL else (if p0 = (1 : Int32) then w_NOT_EQUAL else (if p0 = (2 : Int32) then w_LESS else (if p0 = (3 : Int32) then w_LESS_OR_EQUAL else (if p0 = (4 : Int32) then w_GREATER else w_GREATER_OR_EQUAL)))))
theorem own_ef_pick (m : MethodId) (p0 : Int32) : entryFrame m #[(.int p0)] 1 = mkF m 0 #[.val (.int p0)] [] := by first | (simp [entryFrame, mkF, argsToLocals, Value.category]; done) | rfl
def Q_pick (Z : State) (p0 : Int32) (w_EQUAL : Addr) (w_NOT_EQUAL : Addr) (w_LESS : Addr) (w_LESS_OR_EQUAL : Addr) (w_GREATER : Addr) (w_GREATER_OR_EQUAL : Addr) (h0 : Heap) (n0 : Nat) (v : Option Value) (h : Heap) (L : List Loc) : Prop := v = some (.ref (F_pick p0 w_EQUAL w_NOT_EQUAL w_LESS w_LESS_OR_EQUAL w_GREATER w_GREATER_OR_EQUAL)) ∧ Fr n0 L ∧ h = h0
set_option maxRecDepth 65536 in
set_option maxHeartbeats 40000000 in
theorem rm_pick (l : Launch) (Z : State) (a0' : Array Value) (hw : ∀ d ∈ tables_1, d.before a0' Z = true) (ws : List Jvm.Cond) (p0 : Int32) (w_EQUAL : Addr) (w_NOT_EQUAL : Addr) (w_LESS : Addr) (w_LESS_OR_EQUAL : Addr) (w_GREATER : Addr) (w_GREATER_OR_EQUAL : Addr) (h0 : Heap) (n0 : Nat) (Z0 : n0 ≤ h0.size) (S_EQUAL : Sta Z h0 "com/example/gard/gard/core/Condition$Operator" "EQUAL" "Lcom/example/gard/gard/core/Condition$Operator;" (.ref w_EQUAL)) (S_NOT_EQUAL : Sta Z h0 "com/example/gard/gard/core/Condition$Operator" "NOT_EQUAL" "Lcom/example/gard/gard/core/Condition$Operator;" (.ref w_NOT_EQUAL)) (S_LESS : Sta Z h0 "com/example/gard/gard/core/Condition$Operator" "LESS" "Lcom/example/gard/gard/core/Condition$Operator;" (.ref w_LESS)) (S_LESS_OR_EQUAL : Sta Z h0 "com/example/gard/gard/core/Condition$Operator" "LESS_OR_EQUAL" "Lcom/example/gard/gard/core/Condition$Operator;" (.ref w_LESS_OR_EQUAL)) (S_GREATER : Sta Z h0 "com/example/gard/gard/core/Condition$Operator" "GREATER" "Lcom/example/gard/gard/core/Condition$Operator;" (.ref w_GREATER)) (S_GREATER_OR_EQUAL : Sta Z h0 "com/example/gard/gard/core/Condition$Operator" "GREATER_OR_EQUAL" "Lcom/example/gard/gard/core/Condition$Operator;" (.ref w_GREATER_OR_EQUAL)) :
    MetFree l (⟨"com/example/gard/gard/core/OperatorOrdersPinLaw", "pick", "(I)Lcom/example/gard/gard/core/Condition$Operator;"⟩ : MethodName) (head1 (Jvm.Cond.code (⟨"com/example/gard/gard/core/OperatorOrdersPinLaw", "pick", "(I)Lcom/example/gard/gard/core/Condition$Operator;"⟩ : MethodName) method_2_code 1 (some (.object "com/example/gard/gard/core/Condition$Operator")) :: ws) ({ frames := 0, cells := 0, slots := 0, locals := 0 } : Room)) (fun a U => a = #[(.int p0)] ∧ Z.Warmed39 U.vm ∧ U.heap = h0) (fun _ _ _ _ _ => True) (fun _ U o U' => ∃ v L, o = .returned v ∧ Q_pick Z p0 w_EQUAL w_NOT_EQUAL w_LESS w_LESS_OR_EQUAL w_GREATER w_GREATER_OR_EQUAL h0 n0 v U'.heap L ∧ FrameEnd U o U' L ({ frames := 0, cells := 0, slots := 0, locals := 0 } : Room).cells ({ frames := 0, cells := 0, slots := 0, locals := 0 } : Room).slots) := by
  refine MetFree.of_bodySF (plainFor_of_name own_pn3) hisR ?_
  intro p e s m args below meth c s₁ Bd hml0 hP hK
  obtain ⟨rfl, hZ, hh⟩ := hP
  have hx := Bd.exec
  have hby := Bd.bytes
  have hml : c.maxLocals = 1 := hml0
  have hown : s.vm.findClass "com/example/gard/gard/core/OperatorOrdersPinLaw" = some m.cls := findClass_of_methodNamed Bd.named
  have hnm := (name_of_methodNamed Bd.named Bd.method).1
  have X0 : Stand p l e ({ frames := 0, cells := 0, slots := 0, locals := 0 } : Room) s m #[(.int p0)] below meth c s₁ [] 0 0 := Stand.of_body Bd
  have e0 : s₁.heap = h0 := by rw [← hh, Bd.state]; rfl
  have N0 := Fr.nil n0
  have pre0 : ∀ t, Steps p.tables e below (s₁.setTop (mkF m 0 #[.val (.int p0)] [])) t → Steps p.tables e below (s₁.setTop (entryFrame m #[(.int p0)] 1)) t := fun t k => castTop (own_ef_pick m p0) k
  have pre10 : ∀ t, Steps p.tables e below (s₁.setTop (mkF m 1 #[.val (.int p0)] [(.int p0)])) t → Steps p.tables e below (s₁.setTop (entryFrame m #[(.int p0)] 1)) t := fun t k => pre0 t (by
    show Steps p.tables e below (s₁.setTop (mkF m 0 #[.val (.int p0)] [])) _
    refine XS.iloadN X0.here hx rfl (hb hby own_d_pick_0) rfl ?_
    exact k)
  by_cases hc1_9 : p0 = (0 : Int32)
  · obtain ⟨T11, X11, e11, st11⟩ := getS2 X0 hx hZ hown (host := "") (Or.inl (hw _ (List.mem_of_getElem? (i := 5) rfl))) Via.refl e0 S_EQUAL (g := (mkF m 4 #[.val (.int p0)] [])) rfl (hb hby own_d_pick_4)
    obtain ⟨fs, hr, hrun, hended, hW, hsame⟩ := X11.leave (v := some (.ref w_EQUAL)) (fun h => by rw [Bd.returns] at h; cases h)
    refine ⟨_, _, pre10 _ ?_, hrun, hended, _, _, rfl, ?_, ⟨_, rfl⟩, hW, hsame.mono (by decide) (by decide)⟩
    · show Steps p.tables e below (s₁.setTop (mkF m 1 #[.val (.int p0)] [(.int p0)])) _
      refine XS.ifNo X0.here hx rfl (hb hby own_d_pick_1) rfl ((if0 _ _).trans (teq hc1_9).2) ?_
      show Steps p.tables e below (s₁.setTop (mkF m 4 #[.val (.int p0)] [])) _
      refine st11 _ ?_
      show Steps p.tables e below (T11.setTop (mkF m 7 #[.val (.int p0)] [(.ref w_EQUAL)])) _
      exact own_retA X11 hx Bd.returns rfl rfl rfl (hb hby own_d_pick_7) hr
    · show Q_pick Z p0 w_EQUAL w_NOT_EQUAL w_LESS w_LESS_OR_EQUAL w_GREATER w_GREATER_OR_EQUAL h0 n0 _ T11.heap _
      refine ⟨?_, N0, e11⟩
      rw [F_pick, if_pos hc1_9]
  · have pre13 : ∀ t, Steps p.tables e below (s₁.setTop (mkF m 10 #[.val (.int p0)] [(.int (1 : Int32)), (.int p0)])) t → Steps p.tables e below (s₁.setTop (entryFrame m #[(.int p0)] 1)) t := fun t k => pre10 t (by
      show Steps p.tables e below (s₁.setTop (mkF m 1 #[.val (.int p0)] [(.int p0)])) _
      refine XS.ifYes X0.here hx rfl (pc0 := 1) (pc' := 8) rfl (hb hby own_d_pick_1) rfl ((if0 _ _).trans (feq hc1_9).2) (by decide) (by decide) ?_
      show Steps p.tables e below (s₁.setTop (mkF m 8 #[.val (.int p0)] [])) _
      refine XS.iloadN X0.here hx rfl (hb hby own_d_pick_8) rfl ?_
      show Steps p.tables e below (s₁.setTop (mkF m 9 #[.val (.int p0)] [(.int p0)])) _
      refine XS.iconst X0.here hx rfl (hb hby own_d_pick_9) ?_
      exact k)
    by_cases hc10_12 : p0 = (1 : Int32)
    · obtain ⟨T14, X14, e14, st14⟩ := getS2 X0 hx hZ hown (host := "") (Or.inl (hw _ (List.mem_of_getElem? (i := 55) rfl))) Via.refl e0 S_NOT_EQUAL (g := (mkF m 13 #[.val (.int p0)] [])) rfl (hb hby own_d_pick_13)
      obtain ⟨fs, hr, hrun, hended, hW, hsame⟩ := X14.leave (v := some (.ref w_NOT_EQUAL)) (fun h => by rw [Bd.returns] at h; cases h)
      refine ⟨_, _, pre13 _ ?_, hrun, hended, _, _, rfl, ?_, ⟨_, rfl⟩, hW, hsame.mono (by decide) (by decide)⟩
      · show Steps p.tables e below (s₁.setTop (mkF m 10 #[.val (.int p0)] [(.int (1 : Int32)), (.int p0)])) _
        refine XS.icmpNo X0.here hx rfl (hb hby own_d_pick_10) rfl (teq hc10_12).2 ?_
        show Steps p.tables e below (s₁.setTop (mkF m 13 #[.val (.int p0)] [])) _
        refine st14 _ ?_
        show Steps p.tables e below (T14.setTop (mkF m 16 #[.val (.int p0)] [(.ref w_NOT_EQUAL)])) _
        exact own_retA X14 hx Bd.returns rfl rfl rfl (hb hby own_d_pick_16) hr
      · show Q_pick Z p0 w_EQUAL w_NOT_EQUAL w_LESS w_LESS_OR_EQUAL w_GREATER w_GREATER_OR_EQUAL h0 n0 _ T14.heap _
        refine ⟨?_, N0, e14⟩
        rw [F_pick, if_neg hc1_9, if_pos hc10_12]
    · have pre16 : ∀ t, Steps p.tables e below (s₁.setTop (mkF m 19 #[.val (.int p0)] [(.int (2 : Int32)), (.int p0)])) t → Steps p.tables e below (s₁.setTop (entryFrame m #[(.int p0)] 1)) t := fun t k => pre13 t (by
        show Steps p.tables e below (s₁.setTop (mkF m 10 #[.val (.int p0)] [(.int (1 : Int32)), (.int p0)])) _
        refine XS.icmpYes X0.here hx rfl (pc0 := 10) (pc' := 17) rfl (hb hby own_d_pick_10) rfl (feq hc10_12).2 (by decide) (by decide) ?_
        show Steps p.tables e below (s₁.setTop (mkF m 17 #[.val (.int p0)] [])) _
        refine XS.iloadN X0.here hx rfl (hb hby own_d_pick_17) rfl ?_
        show Steps p.tables e below (s₁.setTop (mkF m 18 #[.val (.int p0)] [(.int p0)])) _
        refine XS.iconst X0.here hx rfl (hb hby own_d_pick_18) ?_
        exact k)
      by_cases hc19_15 : p0 = (2 : Int32)
      · obtain ⟨T17, X17, e17, st17⟩ := getS2 X0 hx hZ hown (host := "") (Or.inl (hw _ (List.mem_of_getElem? (i := 53) rfl))) Via.refl e0 S_LESS (g := (mkF m 22 #[.val (.int p0)] [])) rfl (hb hby own_d_pick_22)
        obtain ⟨fs, hr, hrun, hended, hW, hsame⟩ := X17.leave (v := some (.ref w_LESS)) (fun h => by rw [Bd.returns] at h; cases h)
        refine ⟨_, _, pre16 _ ?_, hrun, hended, _, _, rfl, ?_, ⟨_, rfl⟩, hW, hsame.mono (by decide) (by decide)⟩
        · show Steps p.tables e below (s₁.setTop (mkF m 19 #[.val (.int p0)] [(.int (2 : Int32)), (.int p0)])) _
          refine XS.icmpNo X0.here hx rfl (hb hby own_d_pick_19) rfl (teq hc19_15).2 ?_
          show Steps p.tables e below (s₁.setTop (mkF m 22 #[.val (.int p0)] [])) _
          refine st17 _ ?_
          show Steps p.tables e below (T17.setTop (mkF m 25 #[.val (.int p0)] [(.ref w_LESS)])) _
          exact own_retA X17 hx Bd.returns rfl rfl rfl (hb hby own_d_pick_25) hr
        · show Q_pick Z p0 w_EQUAL w_NOT_EQUAL w_LESS w_LESS_OR_EQUAL w_GREATER w_GREATER_OR_EQUAL h0 n0 _ T17.heap _
          refine ⟨?_, N0, e17⟩
          rw [F_pick, if_neg hc1_9, if_neg hc10_12, if_pos hc19_15]
      · have pre19 : ∀ t, Steps p.tables e below (s₁.setTop (mkF m 28 #[.val (.int p0)] [(.int (3 : Int32)), (.int p0)])) t → Steps p.tables e below (s₁.setTop (entryFrame m #[(.int p0)] 1)) t := fun t k => pre16 t (by
          show Steps p.tables e below (s₁.setTop (mkF m 19 #[.val (.int p0)] [(.int (2 : Int32)), (.int p0)])) _
          refine XS.icmpYes X0.here hx rfl (pc0 := 19) (pc' := 26) rfl (hb hby own_d_pick_19) rfl (feq hc19_15).2 (by decide) (by decide) ?_
          show Steps p.tables e below (s₁.setTop (mkF m 26 #[.val (.int p0)] [])) _
          refine XS.iloadN X0.here hx rfl (hb hby own_d_pick_26) rfl ?_
          show Steps p.tables e below (s₁.setTop (mkF m 27 #[.val (.int p0)] [(.int p0)])) _
          refine XS.iconst X0.here hx rfl (hb hby own_d_pick_27) ?_
          exact k)
        by_cases hc28_18 : p0 = (3 : Int32)
        · obtain ⟨T20, X20, e20, st20⟩ := getS2 X0 hx hZ hown (host := "") (Or.inl (hw _ (List.mem_of_getElem? (i := 49) rfl))) Via.refl e0 S_LESS_OR_EQUAL (g := (mkF m 31 #[.val (.int p0)] [])) rfl (hb hby own_d_pick_31)
          obtain ⟨fs, hr, hrun, hended, hW, hsame⟩ := X20.leave (v := some (.ref w_LESS_OR_EQUAL)) (fun h => by rw [Bd.returns] at h; cases h)
          refine ⟨_, _, pre19 _ ?_, hrun, hended, _, _, rfl, ?_, ⟨_, rfl⟩, hW, hsame.mono (by decide) (by decide)⟩
          · show Steps p.tables e below (s₁.setTop (mkF m 28 #[.val (.int p0)] [(.int (3 : Int32)), (.int p0)])) _
            refine XS.icmpNo X0.here hx rfl (hb hby own_d_pick_28) rfl (teq hc28_18).2 ?_
            show Steps p.tables e below (s₁.setTop (mkF m 31 #[.val (.int p0)] [])) _
            refine st20 _ ?_
            show Steps p.tables e below (T20.setTop (mkF m 34 #[.val (.int p0)] [(.ref w_LESS_OR_EQUAL)])) _
            exact own_retA X20 hx Bd.returns rfl rfl rfl (hb hby own_d_pick_34) hr
          · show Q_pick Z p0 w_EQUAL w_NOT_EQUAL w_LESS w_LESS_OR_EQUAL w_GREATER w_GREATER_OR_EQUAL h0 n0 _ T20.heap _
            refine ⟨?_, N0, e20⟩
            rw [F_pick, if_neg hc1_9, if_neg hc10_12, if_neg hc19_15, if_pos hc28_18]
        · have pre22 : ∀ t, Steps p.tables e below (s₁.setTop (mkF m 37 #[.val (.int p0)] [(.int (4 : Int32)), (.int p0)])) t → Steps p.tables e below (s₁.setTop (entryFrame m #[(.int p0)] 1)) t := fun t k => pre19 t (by
            show Steps p.tables e below (s₁.setTop (mkF m 28 #[.val (.int p0)] [(.int (3 : Int32)), (.int p0)])) _
            refine XS.icmpYes X0.here hx rfl (pc0 := 28) (pc' := 35) rfl (hb hby own_d_pick_28) rfl (feq hc28_18).2 (by decide) (by decide) ?_
            show Steps p.tables e below (s₁.setTop (mkF m 35 #[.val (.int p0)] [])) _
            refine XS.iloadN X0.here hx rfl (hb hby own_d_pick_35) rfl ?_
            show Steps p.tables e below (s₁.setTop (mkF m 36 #[.val (.int p0)] [(.int p0)])) _
            refine XS.iconst X0.here hx rfl (hb hby own_d_pick_36) ?_
            exact k)
          by_cases hc37_21 : p0 = (4 : Int32)
          · obtain ⟨T23, X23, e23, st23⟩ := getS2 X0 hx hZ hown (host := "") (Or.inl (hw _ (List.mem_of_getElem? (i := 58) rfl))) Via.refl e0 S_GREATER (g := (mkF m 40 #[.val (.int p0)] [])) rfl (hb hby own_d_pick_40)
            obtain ⟨fs, hr, hrun, hended, hW, hsame⟩ := X23.leave (v := some (.ref w_GREATER)) (fun h => by rw [Bd.returns] at h; cases h)
            refine ⟨_, _, pre22 _ ?_, hrun, hended, _, _, rfl, ?_, ⟨_, rfl⟩, hW, hsame.mono (by decide) (by decide)⟩
            · show Steps p.tables e below (s₁.setTop (mkF m 37 #[.val (.int p0)] [(.int (4 : Int32)), (.int p0)])) _
              refine XS.icmpNo X0.here hx rfl (hb hby own_d_pick_37) rfl (teq hc37_21).2 ?_
              show Steps p.tables e below (s₁.setTop (mkF m 40 #[.val (.int p0)] [])) _
              refine st23 _ ?_
              show Steps p.tables e below (T23.setTop (mkF m 43 #[.val (.int p0)] [(.ref w_GREATER)])) _
              exact own_retA X23 hx Bd.returns rfl rfl rfl (hb hby own_d_pick_43) hr
            · show Q_pick Z p0 w_EQUAL w_NOT_EQUAL w_LESS w_LESS_OR_EQUAL w_GREATER w_GREATER_OR_EQUAL h0 n0 _ T23.heap _
              refine ⟨?_, N0, e23⟩
              rw [F_pick, if_neg hc1_9, if_neg hc10_12, if_neg hc19_15, if_neg hc28_18, if_pos hc37_21]
          · obtain ⟨T24, X24, e24, st24⟩ := getS2 X0 hx hZ hown (host := "") (Or.inl (hw _ (List.mem_of_getElem? (i := 56) rfl))) Via.refl e0 S_GREATER_OR_EQUAL (g := (mkF m 44 #[.val (.int p0)] [])) rfl (hb hby own_d_pick_44)
            obtain ⟨fs, hr, hrun, hended, hW, hsame⟩ := X24.leave (v := some (.ref w_GREATER_OR_EQUAL)) (fun h => by rw [Bd.returns] at h; cases h)
            refine ⟨_, _, pre22 _ ?_, hrun, hended, _, _, rfl, ?_, ⟨_, rfl⟩, hW, hsame.mono (by decide) (by decide)⟩
            · show Steps p.tables e below (s₁.setTop (mkF m 37 #[.val (.int p0)] [(.int (4 : Int32)), (.int p0)])) _
              refine XS.icmpYes X0.here hx rfl (pc0 := 37) (pc' := 44) rfl (hb hby own_d_pick_37) rfl (feq hc37_21).2 (by decide) (by decide) ?_
              show Steps p.tables e below (s₁.setTop (mkF m 44 #[.val (.int p0)] [])) _
              refine st24 _ ?_
              show Steps p.tables e below (T24.setTop (mkF m 47 #[.val (.int p0)] [(.ref w_GREATER_OR_EQUAL)])) _
              exact own_retA X24 hx Bd.returns rfl rfl rfl (hb hby own_d_pick_47) hr
            · show Q_pick Z p0 w_EQUAL w_NOT_EQUAL w_LESS w_LESS_OR_EQUAL w_GREATER w_GREATER_OR_EQUAL h0 n0 _ T24.heap _
              refine ⟨?_, N0, e24⟩
              rw [F_pick, if_neg hc1_9, if_neg hc10_12, if_neg hc19_15, if_neg hc28_18, if_neg hc37_21]
theorem own_pn4 : plainName "com/example/gard/gard/core/Condition$Operator" = true := by first | (simp [plainName, overriddenIn]; done) | decide +kernel
theorem own_d_ord_0 : decode prog_13_method_5_code 0 = .ok (.aload_n 0, 1) := by decide +kernel
theorem own_d_ord_1 : decode prog_13_method_5_code 1 = .ok (.getstatic 3, 3) := by decide +kernel
theorem own_d_ord_4 : decode prog_13_method_5_code 4 = .ok (.if_acmp .eq 14, 3) := by decide +kernel
theorem own_d_ord_18 : decode prog_13_method_5_code 18 = .ok (.iconst 0, 1) := by decide +kernel
theorem own_d_ord_19 : decode prog_13_method_5_code 19 = .ok (.ireturn, 1) := by decide +kernel
theorem own_d_ord_7 : decode prog_13_method_5_code 7 = .ok (.aload_n 0, 1) := by decide +kernel
theorem own_d_ord_8 : decode prog_13_method_5_code 8 = .ok (.getstatic 7, 3) := by decide +kernel
theorem own_d_ord_11 : decode prog_13_method_5_code 11 = .ok (.if_acmp .eq 7, 3) := by decide +kernel
theorem own_d_ord_14 : decode prog_13_method_5_code 14 = .ok (.iconst 1, 1) := by decide +kernel
theorem own_d_ord_15 : decode prog_13_method_5_code 15 = .ok (.goto 4, 3) := by decide +kernel
def F_ord (a0 : Addr) (w_EQUAL : Addr) (w_NOT_EQUAL : Addr) : Int32 := (if a0 = w_EQUAL then (0 : Int32) else (if a0 = w_NOT_EQUAL then (0 : Int32) else (1 : Int32)))
theorem own_ef_ord (m : MethodId) (a0 : Addr) : entryFrame m #[(.ref a0)] 1 = mkF m 0 #[.val (.ref a0)] [] := by first | (simp [entryFrame, mkF, argsToLocals, Value.category]; done) | rfl
def Q_ord (Z : State) (a0 : Addr) (w_EQUAL : Addr) (w_NOT_EQUAL : Addr) (h0 : Heap) (n0 : Nat) (v : Option Value) (h : Heap) (L : List Loc) : Prop := v = some (.int (F_ord a0 w_EQUAL w_NOT_EQUAL)) ∧ Fr n0 L ∧ h = h0
set_option maxRecDepth 65536 in
set_option maxHeartbeats 40000000 in
theorem rm_ord (l : Launch) (Z : State) (a0' : Array Value) (hw : ∀ d ∈ tables_1, d.before a0' Z = true) (ws : List Jvm.Cond) (a0 : Addr) (w_EQUAL : Addr) (w_NOT_EQUAL : Addr) (h0 : Heap) (n0 : Nat) (Z0 : n0 ≤ h0.size) (S_EQUAL : Sta Z h0 "com/example/gard/gard/core/Condition$Operator" "EQUAL" "Lcom/example/gard/gard/core/Condition$Operator;" (.ref w_EQUAL)) (S_NOT_EQUAL : Sta Z h0 "com/example/gard/gard/core/Condition$Operator" "NOT_EQUAL" "Lcom/example/gard/gard/core/Condition$Operator;" (.ref w_NOT_EQUAL)) :
    MetFree l (⟨"com/example/gard/gard/core/Condition$Operator", "orders", "()Z"⟩ : MethodName) (head1 (Jvm.Cond.code (⟨"com/example/gard/gard/core/Condition$Operator", "orders", "()Z"⟩ : MethodName) prog_13_method_5_code 1 (some .boolean) :: ws) ({ frames := 0, cells := 0, slots := 0, locals := 0 } : Room)) (fun a U => a = #[(.ref a0)] ∧ Z.Warmed39 U.vm ∧ U.heap = h0) (fun _ _ _ _ _ => True) (fun _ U o U' => ∃ v L, o = .returned v ∧ Q_ord Z a0 w_EQUAL w_NOT_EQUAL h0 n0 v U'.heap L ∧ FrameEnd U o U' L ({ frames := 0, cells := 0, slots := 0, locals := 0 } : Room).cells ({ frames := 0, cells := 0, slots := 0, locals := 0 } : Room).slots) := by
  refine MetFree.of_bodySF (plainFor_of_name own_pn4) hisR ?_
  intro p e s m args below meth c s₁ Bd hml0 hP hK
  obtain ⟨rfl, hZ, hh⟩ := hP
  have hx := Bd.exec
  have hby := Bd.bytes
  have hml : c.maxLocals = 1 := hml0
  have hown : s.vm.findClass "com/example/gard/gard/core/Condition$Operator" = some m.cls := findClass_of_methodNamed Bd.named
  have hnm := (name_of_methodNamed Bd.named Bd.method).1
  have X0 : Stand p l e ({ frames := 0, cells := 0, slots := 0, locals := 0 } : Room) s m #[(.ref a0)] below meth c s₁ [] 0 0 := Stand.of_body Bd
  have e0 : s₁.heap = h0 := by rw [← hh, Bd.state]; rfl
  have N0 := Fr.nil n0
  have pre0 : ∀ t, Steps p.tables e below (s₁.setTop (mkF m 0 #[.val (.ref a0)] [])) t → Steps p.tables e below (s₁.setTop (entryFrame m #[(.ref a0)] 1)) t := fun t k => castTop (own_ef_ord m a0) k
  obtain ⟨T25, X25, e25, st25⟩ := getS2 X0 hx hZ hown (host := "") (Or.inl (hw _ (List.mem_of_getElem? (i := 48) rfl))) Via.refl e0 S_EQUAL (g := (mkF m 1 #[.val (.ref a0)] [(.ref a0)])) rfl (hb hby own_d_ord_1)
  have pre27 : ∀ t, Steps p.tables e below (T25.setTop (mkF m 4 #[.val (.ref a0)] [(.ref w_EQUAL), (.ref a0)])) t → Steps p.tables e below (s₁.setTop (entryFrame m #[(.ref a0)] 1)) t := fun t k => pre0 t (by
    show Steps p.tables e below (s₁.setTop (mkF m 0 #[.val (.ref a0)] [])) _
    refine XS.aloadN X0.here hx rfl (hb hby own_d_ord_0) rfl rfl ?_
    show Steps p.tables e below (s₁.setTop (mkF m 1 #[.val (.ref a0)] [(.ref a0)])) _
    refine st25 _ ?_
    exact k)
  by_cases hc4_26 : a0 = w_EQUAL
  · obtain ⟨fs, hr, hrun, hended, hW, hsame⟩ := X25.leave (v := some (.int (0 : Int32))) (fun h => by rw [Bd.returns] at h; cases h)
    refine ⟨_, _, pre27 _ ?_, hrun, hended, _, _, rfl, ?_, ⟨_, rfl⟩, hW, hsame.mono (by decide) (by decide)⟩
    · show Steps p.tables e below (T25.setTop (mkF m 4 #[.val (.ref a0)] [(.ref w_EQUAL), (.ref a0)])) _
      refine Jvm.RoadKit.acmp (g := (mkF m 4 #[.val (.ref a0)] [(.ref w_EQUAL), (.ref a0)])) X25 hx rfl rfl rfl (pc0 := 4) (pc' := 18) (same := true) rfl (hb hby own_d_ord_4) rfl (decide_eq_true (congrArg Value.ref hc4_26)) (by decide) (by decide) ?_
      show Steps p.tables e below (T25.setTop (mkF m 18 #[.val (.ref a0)] [])) _
      refine XS.iconst X25.here hx rfl (hb hby own_d_ord_18) ?_
      show Steps p.tables e below (T25.setTop (mkF m 19 #[.val (.ref a0)] [(.int (0 : Int32))])) _
      exact retN X25 hx (t := .boolean) Bd.returns (by simp) (hb hby own_d_ord_19) hr
    · show Q_ord Z a0 w_EQUAL w_NOT_EQUAL h0 n0 _ T25.heap _
      refine ⟨?_, N0, e25⟩
      rw [F_ord, if_pos hc4_26]
  · obtain ⟨T28, X28, e28, st28⟩ := getS2 X25 hx hZ hown (host := "") (Or.inl (hw _ (List.mem_of_getElem? (i := 51) rfl))) Via.refl e25 S_NOT_EQUAL (g := (mkF m 8 #[.val (.ref a0)] [(.ref a0)])) rfl (hb hby own_d_ord_8)
    have pre30 : ∀ t, Steps p.tables e below (T28.setTop (mkF m 11 #[.val (.ref a0)] [(.ref w_NOT_EQUAL), (.ref a0)])) t → Steps p.tables e below (s₁.setTop (entryFrame m #[(.ref a0)] 1)) t := fun t k => pre27 t (by
      show Steps p.tables e below (T25.setTop (mkF m 4 #[.val (.ref a0)] [(.ref w_EQUAL), (.ref a0)])) _
      refine Jvm.RoadKit.acmp (g := (mkF m 4 #[.val (.ref a0)] [(.ref w_EQUAL), (.ref a0)])) X25 hx rfl rfl rfl (pc0 := 4) (pc' := 7) (same := false) rfl (hb hby own_d_ord_4) rfl (decide_eq_false fun q => hc4_26 (Value.ref.inj q)) (by decide) (by decide) ?_
      show Steps p.tables e below (T25.setTop (mkF m 7 #[.val (.ref a0)] [])) _
      refine XS.aloadN X25.here hx rfl (hb hby own_d_ord_7) rfl rfl ?_
      show Steps p.tables e below (T25.setTop (mkF m 8 #[.val (.ref a0)] [(.ref a0)])) _
      refine st28 _ ?_
      exact k)
    by_cases hc11_29 : a0 = w_NOT_EQUAL
    · obtain ⟨fs, hr, hrun, hended, hW, hsame⟩ := X28.leave (v := some (.int (0 : Int32))) (fun h => by rw [Bd.returns] at h; cases h)
      refine ⟨_, _, pre30 _ ?_, hrun, hended, _, _, rfl, ?_, ⟨_, rfl⟩, hW, hsame.mono (by decide) (by decide)⟩
      · show Steps p.tables e below (T28.setTop (mkF m 11 #[.val (.ref a0)] [(.ref w_NOT_EQUAL), (.ref a0)])) _
        refine Jvm.RoadKit.acmp (g := (mkF m 11 #[.val (.ref a0)] [(.ref w_NOT_EQUAL), (.ref a0)])) X28 hx rfl rfl rfl (pc0 := 11) (pc' := 18) (same := true) rfl (hb hby own_d_ord_11) rfl (decide_eq_true (congrArg Value.ref hc11_29)) (by decide) (by decide) ?_
        show Steps p.tables e below (T28.setTop (mkF m 18 #[.val (.ref a0)] [])) _
        refine XS.iconst X28.here hx rfl (hb hby own_d_ord_18) ?_
        show Steps p.tables e below (T28.setTop (mkF m 19 #[.val (.ref a0)] [(.int (0 : Int32))])) _
        exact retN X28 hx (t := .boolean) Bd.returns (by simp) (hb hby own_d_ord_19) hr
      · show Q_ord Z a0 w_EQUAL w_NOT_EQUAL h0 n0 _ T28.heap _
        refine ⟨?_, N0, e28⟩
        rw [F_ord, if_neg hc4_26, if_pos hc11_29]
    · obtain ⟨fs, hr, hrun, hended, hW, hsame⟩ := X28.leave (v := some (.int (1 : Int32))) (fun h => by rw [Bd.returns] at h; cases h)
      refine ⟨_, _, pre30 _ ?_, hrun, hended, _, _, rfl, ?_, ⟨_, rfl⟩, hW, hsame.mono (by decide) (by decide)⟩
      · show Steps p.tables e below (T28.setTop (mkF m 11 #[.val (.ref a0)] [(.ref w_NOT_EQUAL), (.ref a0)])) _
        refine Jvm.RoadKit.acmp (g := (mkF m 11 #[.val (.ref a0)] [(.ref w_NOT_EQUAL), (.ref a0)])) X28 hx rfl rfl rfl (pc0 := 11) (pc' := 14) (same := false) rfl (hb hby own_d_ord_11) rfl (decide_eq_false fun q => hc11_29 (Value.ref.inj q)) (by decide) (by decide) ?_
        show Steps p.tables e below (T28.setTop (mkF m 14 #[.val (.ref a0)] [])) _
        refine XS.iconst X28.here hx rfl (hb hby own_d_ord_14) ?_
        show Steps p.tables e below (T28.setTop (mkF m 15 #[.val (.ref a0)] [(.int (1 : Int32))])) _
        refine XS.goto X28.here hx rfl (pc0 := 15) (pc' := 19) rfl (hb hby own_d_ord_15) (by decide) (by decide) ?_
        show Steps p.tables e below (T28.setTop (mkF m 19 #[.val (.ref a0)] [(.int (1 : Int32))])) _
        exact retN X28 hx (t := .boolean) Bd.returns (by simp) (hb hby own_d_ord_19) hr
      · show Q_ord Z a0 w_EQUAL w_NOT_EQUAL h0 n0 _ T28.heap _
        refine ⟨?_, N0, e28⟩
        rw [F_ord, if_neg hc4_26, if_neg hc11_29]
theorem own_d_sym_0 : decode prog_13_method_8_code 0 = .ok (.aload_n 0, 1) := by decide +kernel
theorem own_d_sym_1 : decode prog_13_method_8_code 1 = .ok (.getfield 41, 3) := by decide +kernel
theorem own_d_sym_4 : decode prog_13_method_8_code 4 = .ok (.areturn, 1) := by decide +kernel
def F_sym (r : Addr) : Addr := r
theorem own_ef_sym (m : MethodId) (a0 : Addr) : entryFrame m #[(.ref a0)] 1 = mkF m 0 #[.val (.ref a0)] [] := by first | (simp [entryFrame, mkF, argsToLocals, Value.category]; done) | rfl
def Q_sym (Z : State) (a0 : Addr) (r : Addr) (h0 : Heap) (n0 : Nat) (v : Option Value) (h : Heap) (L : List Loc) : Prop := v = some (.ref (F_sym r)) ∧ Fr n0 L ∧ h = h0
set_option maxRecDepth 65536 in
set_option maxHeartbeats 40000000 in
theorem rm_sym (l : Launch) (Z : State) (a0' : Array Value) (hw : ∀ d ∈ tables_1, d.before a0' Z = true) (ws : List Jvm.Cond) (a0 : Addr) (r : Addr) (h0 : Heap) (n0 : Nat) (Z0 : n0 ≤ h0.size) (HR : Fld Z h0 a0 "com/example/gard/gard/core/Condition$Operator" "symbol" "Ljava/lang/String;" (.ref r)) :
    MetFree l (⟨"com/example/gard/gard/core/Condition$Operator", "toString", "()Ljava/lang/String;"⟩ : MethodName) (head1 (Jvm.Cond.code (⟨"com/example/gard/gard/core/Condition$Operator", "toString", "()Ljava/lang/String;"⟩ : MethodName) prog_13_method_8_code 1 (some (.object "java/lang/String")) :: ws) ({ frames := 0, cells := 0, slots := 0, locals := 0 } : Room)) (fun a U => a = #[(.ref a0)] ∧ Z.Warmed39 U.vm ∧ U.heap = h0) (fun _ _ _ _ _ => True) (fun _ U o U' => ∃ v L, o = .returned v ∧ Q_sym Z a0 r h0 n0 v U'.heap L ∧ FrameEnd U o U' L ({ frames := 0, cells := 0, slots := 0, locals := 0 } : Room).cells ({ frames := 0, cells := 0, slots := 0, locals := 0 } : Room).slots) := by
  refine MetFree.of_bodySF (plainFor_of_name own_pn4) hisR ?_
  intro p e s m args below meth c s₁ Bd hml0 hP hK
  obtain ⟨rfl, hZ, hh⟩ := hP
  have hx := Bd.exec
  have hby := Bd.bytes
  have hml : c.maxLocals = 1 := hml0
  have hown : s.vm.findClass "com/example/gard/gard/core/Condition$Operator" = some m.cls := findClass_of_methodNamed Bd.named
  have hnm := (name_of_methodNamed Bd.named Bd.method).1
  have X0 : Stand p l e ({ frames := 0, cells := 0, slots := 0, locals := 0 } : Room) s m #[(.ref a0)] below meth c s₁ [] 0 0 := Stand.of_body Bd
  have e0 : s₁.heap = h0 := by rw [← hh, Bd.state]; rfl
  have N0 := Fr.nil n0
  have pre0 : ∀ t, Steps p.tables e below (s₁.setTop (mkF m 0 #[.val (.ref a0)] [])) t → Steps p.tables e below (s₁.setTop (entryFrame m #[(.ref a0)] 1)) t := fun t k => castTop (own_ef_sym m a0) k
  obtain ⟨T31, X31, e31, st31⟩ := getF X0 hx hZ hown (host := "") (Or.inl (hw _ (List.mem_of_getElem? (i := 13) rfl))) Via.refl e0 HR (g := (mkF m 1 #[.val (.ref a0)] [(.ref a0)])) rfl rfl (hb hby own_d_sym_1)
  obtain ⟨fs, hr, hrun, hended, hW, hsame⟩ := X31.leave (v := some (.ref r)) (fun h => by rw [Bd.returns] at h; cases h)
  refine ⟨_, _, pre0 _ ?_, hrun, hended, _, _, rfl, ?_, ⟨_, rfl⟩, hW, hsame.mono (by decide) (by decide)⟩
  · show Steps p.tables e below (s₁.setTop (mkF m 0 #[.val (.ref a0)] [])) _
    refine XS.aloadN X0.here hx rfl (hb hby own_d_sym_0) rfl rfl ?_
    show Steps p.tables e below (s₁.setTop (mkF m 1 #[.val (.ref a0)] [(.ref a0)])) _
    refine st31 _ ?_
    show Steps p.tables e below (T31.setTop (mkF m 4 #[.val (.ref a0)] [(.ref r)])) _
    exact own_retA X31 hx Bd.returns rfl rfl rfl (hb hby own_d_sym_4) hr
  · show Q_sym Z a0 r h0 n0 _ T31.heap _
    refine ⟨?_, N0, e31⟩
    rw [F_sym]
theorem own_pd4 : parseMethodDescriptor "(I)Lcom/example/gard/gard/core/Condition$Operator;" = some ⟨[.int], some (.object "com/example/gard/gard/core/Condition$Operator")⟩ := by decide +kernel
theorem own_pd5 : parseMethodDescriptor "()Ljava/lang/String;" = some ⟨[], some (.object "java/lang/String")⟩ := by decide +kernel
theorem own_pd6 : parseMethodDescriptor "(I)C" = some ⟨[.int], some .char⟩ := by decide +kernel
def F_law (p0 : Int32) : Int32 := (if ((p0 &&& (2147483647 : Int32)) % (6 : Int32)) = (0 : Int32) then (1 : Int32) else (if ((p0 &&& (2147483647 : Int32)) % (6 : Int32)) = (1 : Int32) then (1 : Int32) else (if ((p0 &&& (2147483647 : Int32)) % (6 : Int32)) = (2 : Int32) then (1 : Int32) else (if ((p0 &&& (2147483647 : Int32)) % (6 : Int32)) = (3 : Int32) then (1 : Int32) else (if ((p0 &&& (2147483647 : Int32)) % (6 : Int32)) = (4 : Int32) then (1 : Int32) else (1 : Int32))))))
theorem own_ef_law (m : MethodId) (p0 : Int32) : entryFrame m #[(.int p0)] maxLocals = mkF m 0 #[.val (.int p0), .unset, .unset, .unset, .unset, .unset] [] := by first | (simp [entryFrame, mkF, argsToLocals, Value.category, maxLocals]; done) | rfl
def Q_law (Z : State) (p0 : Int32) (w_EQUAL : Addr) (w_NOT_EQUAL : Addr) (w_LESS : Addr) (w_LESS_OR_EQUAL : Addr) (w_GREATER : Addr) (w_GREATER_OR_EQUAL : Addr) (kc : Int32) (fm : Value) (l_EQUAL : Addr) (v_EQUAL : Addr) (cl_EQUAL : Cell) (l_NOT_EQUAL : Addr) (v_NOT_EQUAL : Addr) (cl_NOT_EQUAL : Cell) (l_LESS : Addr) (v_LESS : Addr) (cl_LESS : Cell) (l_LESS_OR_EQUAL : Addr) (v_LESS_OR_EQUAL : Addr) (cl_LESS_OR_EQUAL : Cell) (l_GREATER : Addr) (v_GREATER : Addr) (cl_GREATER : Cell) (l_GREATER_OR_EQUAL : Addr) (v_GREATER_OR_EQUAL : Addr) (cl_GREATER_OR_EQUAL : Cell) (h0 : Heap) (n0 : Nat) (v : Option Value) (h : Heap) (L : List Loc) : Prop := v = some (.int (F_law p0)) ∧ Fr n0 L ∧ True
set_option maxRecDepth 65536 in
set_option maxHeartbeats 40000000 in
theorem rm_law (l : Launch) (Z : State) (a0' : Array Value) (hw : ∀ d ∈ tables_1, d.before a0' Z = true) (ws : List Jvm.Cond) (p0 : Int32) (w_EQUAL : Addr) (w_NOT_EQUAL : Addr) (w_LESS : Addr) (w_LESS_OR_EQUAL : Addr) (w_GREATER : Addr) (w_GREATER_OR_EQUAL : Addr) (kc : Int32) (fm : Value) (l_EQUAL : Addr) (v_EQUAL : Addr) (cl_EQUAL : Cell) (l_NOT_EQUAL : Addr) (v_NOT_EQUAL : Addr) (cl_NOT_EQUAL : Cell) (l_LESS : Addr) (v_LESS : Addr) (cl_LESS : Cell) (l_LESS_OR_EQUAL : Addr) (v_LESS_OR_EQUAL : Addr) (cl_LESS_OR_EQUAL : Cell) (l_GREATER : Addr) (v_GREATER : Addr) (cl_GREATER : Cell) (l_GREATER_OR_EQUAL : Addr) (v_GREATER_OR_EQUAL : Addr) (cl_GREATER_OR_EQUAL : Cell) (h0 : Heap) (n0 : Nat) (Z0 : n0 ≤ h0.size) (S_EQUAL : Sta Z h0 "com/example/gard/gard/core/Condition$Operator" "EQUAL" "Lcom/example/gard/gard/core/Condition$Operator;" (.ref w_EQUAL)) (E_EQUAL : Exa Z h0 w_EQUAL "com/example/gard/gard/core/Condition$Operator") (S_NOT_EQUAL : Sta Z h0 "com/example/gard/gard/core/Condition$Operator" "NOT_EQUAL" "Lcom/example/gard/gard/core/Condition$Operator;" (.ref w_NOT_EQUAL)) (E_NOT_EQUAL : Exa Z h0 w_NOT_EQUAL "com/example/gard/gard/core/Condition$Operator") (S_LESS : Sta Z h0 "com/example/gard/gard/core/Condition$Operator" "LESS" "Lcom/example/gard/gard/core/Condition$Operator;" (.ref w_LESS)) (E_LESS : Exa Z h0 w_LESS "com/example/gard/gard/core/Condition$Operator") (S_LESS_OR_EQUAL : Sta Z h0 "com/example/gard/gard/core/Condition$Operator" "LESS_OR_EQUAL" "Lcom/example/gard/gard/core/Condition$Operator;" (.ref w_LESS_OR_EQUAL)) (E_LESS_OR_EQUAL : Exa Z h0 w_LESS_OR_EQUAL "com/example/gard/gard/core/Condition$Operator") (S_GREATER : Sta Z h0 "com/example/gard/gard/core/Condition$Operator" "GREATER" "Lcom/example/gard/gard/core/Condition$Operator;" (.ref w_GREATER)) (E_GREATER : Exa Z h0 w_GREATER "com/example/gard/gard/core/Condition$Operator") (S_GREATER_OR_EQUAL : Sta Z h0 "com/example/gard/gard/core/Condition$Operator" "GREATER_OR_EQUAL" "Lcom/example/gard/gard/core/Condition$Operator;" (.ref w_GREATER_OR_EQUAL)) (E_GREATER_OR_EQUAL : Exa Z h0 w_GREATER_OR_EQUAL "com/example/gard/gard/core/Condition$Operator") (ne_NOT_EQUAL_EQUAL : ¬ (w_NOT_EQUAL = w_EQUAL)) (ne_LESS_EQUAL : ¬ (w_LESS = w_EQUAL)) (ne_LESS_NOT_EQUAL : ¬ (w_LESS = w_NOT_EQUAL)) (ne_LESS_OR_EQUAL_EQUAL : ¬ (w_LESS_OR_EQUAL = w_EQUAL)) (ne_LESS_OR_EQUAL_NOT_EQUAL : ¬ (w_LESS_OR_EQUAL = w_NOT_EQUAL)) (ne_GREATER_EQUAL : ¬ (w_GREATER = w_EQUAL)) (ne_GREATER_NOT_EQUAL : ¬ (w_GREATER = w_NOT_EQUAL)) (ne_GREATER_OR_EQUAL_EQUAL : ¬ (w_GREATER_OR_EQUAL = w_EQUAL)) (ne_GREATER_OR_EQUAL_NOT_EQUAL : ¬ (w_GREATER_OR_EQUAL = w_NOT_EQUAL)) (S_cs : Sta Z h0 "java/lang/String" "COMPACT_STRINGS" "Z" (.int kc)) (hkc : ¬ (kc = (0 : Int32))) (S_fm : Sta Z h0 "jdk/internal/util/Preconditions" "SIOOBE_FORMATTER" "Ljava/util/function/BiFunction;" fm) (hfm : fm.isRef = true) (HL_EQUAL : Fld Z h0 w_EQUAL "com/example/gard/gard/core/Condition$Operator" "symbol" "Ljava/lang/String;" (.ref l_EQUAL)) (EL_EQUAL : Exa Z h0 l_EQUAL "java/lang/String") (HC_EQUAL : Fld Z h0 l_EQUAL "java/lang/String" "coder" "B" (.int (0 : Int32))) (HV_EQUAL : Fld Z h0 l_EQUAL "java/lang/String" "value" "[B" (.ref v_EQUAL)) (Ar_EQUAL : Arr Z h0 v_EQUAL cl_EQUAL .byte) (hsz_EQUAL : cl_EQUAL.slots.size = (2 : Int32).toNatClampNeg) (hnn_EQUAL : ¬ (2 : Int32) < 0) (hat_EQUAL : cl_EQUAL.slots[(0 : Int32).toNatClampNeg]? = some (.int (61 : Int32))) (HL_NOT_EQUAL : Fld Z h0 w_NOT_EQUAL "com/example/gard/gard/core/Condition$Operator" "symbol" "Ljava/lang/String;" (.ref l_NOT_EQUAL)) (EL_NOT_EQUAL : Exa Z h0 l_NOT_EQUAL "java/lang/String") (HC_NOT_EQUAL : Fld Z h0 l_NOT_EQUAL "java/lang/String" "coder" "B" (.int (0 : Int32))) (HV_NOT_EQUAL : Fld Z h0 l_NOT_EQUAL "java/lang/String" "value" "[B" (.ref v_NOT_EQUAL)) (Ar_NOT_EQUAL : Arr Z h0 v_NOT_EQUAL cl_NOT_EQUAL .byte) (hsz_NOT_EQUAL : cl_NOT_EQUAL.slots.size = (2 : Int32).toNatClampNeg) (hnn_NOT_EQUAL : ¬ (2 : Int32) < 0) (hat_NOT_EQUAL : cl_NOT_EQUAL.slots[(0 : Int32).toNatClampNeg]? = some (.int (33 : Int32))) (HL_LESS : Fld Z h0 w_LESS "com/example/gard/gard/core/Condition$Operator" "symbol" "Ljava/lang/String;" (.ref l_LESS)) (EL_LESS : Exa Z h0 l_LESS "java/lang/String") (HC_LESS : Fld Z h0 l_LESS "java/lang/String" "coder" "B" (.int (0 : Int32))) (HV_LESS : Fld Z h0 l_LESS "java/lang/String" "value" "[B" (.ref v_LESS)) (Ar_LESS : Arr Z h0 v_LESS cl_LESS .byte) (hsz_LESS : cl_LESS.slots.size = (1 : Int32).toNatClampNeg) (hnn_LESS : ¬ (1 : Int32) < 0) (hat_LESS : cl_LESS.slots[(0 : Int32).toNatClampNeg]? = some (.int (60 : Int32))) (HL_LESS_OR_EQUAL : Fld Z h0 w_LESS_OR_EQUAL "com/example/gard/gard/core/Condition$Operator" "symbol" "Ljava/lang/String;" (.ref l_LESS_OR_EQUAL)) (EL_LESS_OR_EQUAL : Exa Z h0 l_LESS_OR_EQUAL "java/lang/String") (HC_LESS_OR_EQUAL : Fld Z h0 l_LESS_OR_EQUAL "java/lang/String" "coder" "B" (.int (0 : Int32))) (HV_LESS_OR_EQUAL : Fld Z h0 l_LESS_OR_EQUAL "java/lang/String" "value" "[B" (.ref v_LESS_OR_EQUAL)) (Ar_LESS_OR_EQUAL : Arr Z h0 v_LESS_OR_EQUAL cl_LESS_OR_EQUAL .byte) (hsz_LESS_OR_EQUAL : cl_LESS_OR_EQUAL.slots.size = (2 : Int32).toNatClampNeg) (hnn_LESS_OR_EQUAL : ¬ (2 : Int32) < 0) (hat_LESS_OR_EQUAL : cl_LESS_OR_EQUAL.slots[(0 : Int32).toNatClampNeg]? = some (.int (60 : Int32))) (HL_GREATER : Fld Z h0 w_GREATER "com/example/gard/gard/core/Condition$Operator" "symbol" "Ljava/lang/String;" (.ref l_GREATER)) (EL_GREATER : Exa Z h0 l_GREATER "java/lang/String") (HC_GREATER : Fld Z h0 l_GREATER "java/lang/String" "coder" "B" (.int (0 : Int32))) (HV_GREATER : Fld Z h0 l_GREATER "java/lang/String" "value" "[B" (.ref v_GREATER)) (Ar_GREATER : Arr Z h0 v_GREATER cl_GREATER .byte) (hsz_GREATER : cl_GREATER.slots.size = (1 : Int32).toNatClampNeg) (hnn_GREATER : ¬ (1 : Int32) < 0) (hat_GREATER : cl_GREATER.slots[(0 : Int32).toNatClampNeg]? = some (.int (62 : Int32))) (HL_GREATER_OR_EQUAL : Fld Z h0 w_GREATER_OR_EQUAL "com/example/gard/gard/core/Condition$Operator" "symbol" "Ljava/lang/String;" (.ref l_GREATER_OR_EQUAL)) (EL_GREATER_OR_EQUAL : Exa Z h0 l_GREATER_OR_EQUAL "java/lang/String") (HC_GREATER_OR_EQUAL : Fld Z h0 l_GREATER_OR_EQUAL "java/lang/String" "coder" "B" (.int (0 : Int32))) (HV_GREATER_OR_EQUAL : Fld Z h0 l_GREATER_OR_EQUAL "java/lang/String" "value" "[B" (.ref v_GREATER_OR_EQUAL)) (Ar_GREATER_OR_EQUAL : Arr Z h0 v_GREATER_OR_EQUAL cl_GREATER_OR_EQUAL .byte) (hsz_GREATER_OR_EQUAL : cl_GREATER_OR_EQUAL.slots.size = (2 : Int32).toNatClampNeg) (hnn_GREATER_OR_EQUAL : ¬ (2 : Int32) < 0) (hat_GREATER_OR_EQUAL : cl_GREATER_OR_EQUAL.slots[(0 : Int32).toNatClampNeg]? = some (.int (62 : Int32))) :
    MetFree l x (head1 (Jvm.Cond.code x code maxLocals ret :: ws) room_1) (fun a U => a = #[(.int p0)] ∧ Z.Warmed39 U.vm ∧ U.heap = h0) (fun _ _ _ _ _ => True) (fun _ U o U' => ∃ v L, o = .returned v ∧ Q_law Z p0 w_EQUAL w_NOT_EQUAL w_LESS w_LESS_OR_EQUAL w_GREATER w_GREATER_OR_EQUAL kc fm l_EQUAL v_EQUAL cl_EQUAL l_NOT_EQUAL v_NOT_EQUAL cl_NOT_EQUAL l_LESS v_LESS cl_LESS l_LESS_OR_EQUAL v_LESS_OR_EQUAL cl_LESS_OR_EQUAL l_GREATER v_GREATER cl_GREATER l_GREATER_OR_EQUAL v_GREATER_OR_EQUAL cl_GREATER_OR_EQUAL h0 n0 v U'.heap L ∧ FrameEnd U o U' L room_1.cells room_1.slots) := by
  refine MetFree.of_bodySF (plainFor_of_name own_pn3) hisR ?_
  intro p e s m args below meth c s₁ Bd hml0 hP hK
  obtain ⟨rfl, hZ, hh⟩ := hP
  have hx := Bd.exec
  have hby := Bd.bytes
  have hml : c.maxLocals = 6 := hml0
  have hown : s.vm.findClass "com/example/gard/gard/core/OperatorOrdersPinLaw" = some m.cls := findClass_of_methodNamed Bd.named
  have hnm := (name_of_methodNamed Bd.named Bd.method).1
  have X0 : Stand p l e room_1 s m #[(.int p0)] below meth c s₁ [] 0 0 := Stand.of_body Bd
  have e0 : s₁.heap = h0 := by rw [← hh, Bd.state]; rfl
  have N0 := Fr.nil n0
  have pre0 : ∀ t, Steps p.tables e below (s₁.setTop (mkF m 0 #[.val (.int p0), .unset, .unset, .unset, .unset, .unset] [])) t → Steps p.tables e below (s₁.setTop (entryFrame m #[(.int p0)] maxLocals)) t := fun t k => castTop (own_ef_law m p0) k
  obtain ⟨_, _, ⟨T32, L32, k32, n32⟩, -, X32, ⟨Lc32, hQ32, l32, y32, z32⟩, st32⟩ := Jvm.LawKit.callS X0 hx (y := (⟨"com/example/gard/gard/core/OperatorOrdersPinLaw", "pick", "(I)Lcom/example/gard/gard/core/Condition$Operator;"⟩ : MethodName)) hown (mvT hZ (hw _ (List.mem_of_getElem? (i := 1) rfl))) (mvT hZ (hw _ (List.mem_of_getElem? (i := 2) rfl))) (mvT hZ (hw _ (List.mem_of_getElem? (i := 3) rfl))) (mvT hZ (hw _ (List.mem_of_getElem? (i := 4) rfl))) (by decide) (backOf (W := 0) (rm_pick l Z a0' hw [] ((p0 &&& (2147483647 : Int32)) % (6 : Int32)) w_EQUAL w_NOT_EQUAL w_LESS w_LESS_OR_EQUAL w_GREATER w_GREATER_OR_EQUAL h0 n0 Z0 S_EQUAL S_NOT_EQUAL S_LESS S_LESS_OR_EQUAL S_GREATER S_GREATER_OR_EQUAL) hZ (hw _ (List.mem_of_getElem? (i := 4) rfl)) (hw _ (List.mem_of_getElem? (i := 3) rfl)) (by decide) (by decide)) (g := (mkF m 9 #[.val (.int p0), .val (.int ((p0 &&& (2147483647 : Int32)) % (6 : Int32))), .unset, .unset, .unset, .unset] [(.int ((p0 &&& (2147483647 : Int32)) % (6 : Int32)))])) rfl (by rw [hml]; rfl) (argsL := [(.int ((p0 &&& (2147483647 : Int32)) % (6 : Int32)))]) (rest := []) (lenOf own_pd4 rfl) rfl (by show 2 * 0 + _ ≤ _; exact Nat.le_of_eq rfl) (hb hby at_9) (fun _ _ => ⟨rfl, e0, (by decide : 0 + 0 ≤ _), (by decide : 0 + 0 ≤ _)⟩)
  dsimp only [Pt.U, Pt.locs, Pt.cells, Pt.slots] at X32 l32 y32 z32 st32 hQ32
  subst l32 y32 z32
  obtain ⟨rfl, N32q, e32⟩ := hQ32
  have N32 := Fr.app N0 N32q
  have pre33 : ∀ t, Steps p.tables e below (s₁.setTop (mkF m 9 #[.val (.int p0), .val (.int ((p0 &&& (2147483647 : Int32)) % (6 : Int32))), .unset, .unset, .unset, .unset] [(.int ((p0 &&& (2147483647 : Int32)) % (6 : Int32)))])) t → Steps p.tables e below (s₁.setTop (entryFrame m #[(.int p0)] maxLocals)) t := fun t k => pre0 t (by
    show Steps p.tables e below (s₁.setTop (mkF m 0 #[.val (.int p0), .unset, .unset, .unset, .unset, .unset] [])) _
    refine XS.iloadN X0.here hx rfl (hb hby at_0) rfl ?_
    show Steps p.tables e below (s₁.setTop (mkF m 1 #[.val (.int p0), .unset, .unset, .unset, .unset, .unset] [(.int p0)])) _
    refine X0.ldcInt hx hown (mvT hZ (hw _ (List.mem_of_getElem? (i := 0) rfl))) (g := (mkF m 1 #[.val (.int p0), .unset, .unset, .unset, .unset, .unset] [(.int p0)])) rfl (hb hby at_1) _ ?_
    show Steps p.tables e below (s₁.setTop (mkF m 3 #[.val (.int p0), .unset, .unset, .unset, .unset, .unset] [(.int (2147483647 : Int32)), (.int p0)])) _
    refine XS.iand X0.here hx rfl (hb hby at_3) rfl ?_
    show Steps p.tables e below (s₁.setTop (mkF m 4 #[.val (.int p0), .unset, .unset, .unset, .unset, .unset] [(.int (p0 &&& (2147483647 : Int32)))])) _
    refine XS.bipush X0.here hx rfl (hb hby at_4) ?_
    show Steps p.tables e below (s₁.setTop (mkF m 6 #[.val (.int p0), .unset, .unset, .unset, .unset, .unset] [(.int (6 : Int32)), (.int (p0 &&& (2147483647 : Int32)))])) _
    refine iremM X0 hx rfl (hb hby at_6) rfl (by decide) ?_
    show Steps p.tables e below (s₁.setTop (mkF m 7 #[.val (.int p0), .unset, .unset, .unset, .unset, .unset] [(.int ((p0 &&& (2147483647 : Int32)) % (6 : Int32)))])) _
    refine XS.istoreN X0.here hx rfl (hb hby at_7) rfl (l' := #[.val (.int p0), .val (.int ((p0 &&& (2147483647 : Int32)) % (6 : Int32))), .unset, .unset, .unset, .unset]) rfl ?_
    show Steps p.tables e below (s₁.setTop (mkF m 8 #[.val (.int p0), .val (.int ((p0 &&& (2147483647 : Int32)) % (6 : Int32))), .unset, .unset, .unset, .unset] [])) _
    refine XS.iloadN X0.here hx rfl (hb hby at_8) rfl ?_
    exact k)
  by_cases hs_34 : ((p0 &&& (2147483647 : Int32)) % (6 : Int32)) = (0 : Int32)
  · have q32 : (F_pick ((p0 &&& (2147483647 : Int32)) % (6 : Int32)) w_EQUAL w_NOT_EQUAL w_LESS w_LESS_OR_EQUAL w_GREATER w_GREATER_OR_EQUAL) = w_EQUAL := by rw [F_pick, if_pos hs_34]
    rw [q32] at st32
    obtain ⟨cq35, kq35, q35a, q35b, q35c⟩ := isOf hZ e32 E_EQUAL
    obtain ⟨_, _, ⟨T35, L35, k35, n35⟩, -, X35, ⟨Lc35, hQ35, l35, y35, z35⟩, st35⟩ := X32.virtualBack hx (y := (⟨"com/example/gard/gard/core/Condition$Operator", "toString", "()Ljava/lang/String;"⟩ : MethodName)) (z := (⟨"com/example/gard/gard/core/Condition$Operator", "toString", "()Ljava/lang/String;"⟩ : MethodName)) hown (mvT hZ (hw _ (List.mem_of_getElem? (i := 8) rfl))) (mvT hZ (hw _ (List.mem_of_getElem? (i := 9) rfl))) (notFace_of_selects (args := #[]) (mvT hZ (hw _ (List.mem_of_getElem? (i := 11) rfl)))) (mvT hZ (hw _ (List.mem_of_getElem? (i := 11) rfl))) (mvT hZ (hw _ (List.mem_of_getElem? (i := 10) rfl))) (by decide) (backOf (W := 0) (rm_sym l Z a0' hw [] w_EQUAL l_EQUAL h0 n0 Z0 HL_EQUAL) hZ (hw _ (List.mem_of_getElem? (i := 12) rfl)) (hw _ (List.mem_of_getElem? (i := 6) rfl)) (by decide) (by decide)) q35a q35c (g := (mkF m 14 #[.val (.int p0), .val (.int ((p0 &&& (2147483647 : Int32)) % (6 : Int32))), .val (.ref w_EQUAL), .unset, .unset, .unset] [(.ref w_EQUAL)])) rfl (by rw [hml]; rfl) (Steps.refl _) (argsL := []) (rest := []) (lenOf own_pd5 rfl) rfl (by show 2 * 0 + _ ≤ _; exact Nat.le_of_eq rfl) (hb hby at_14) (fun _ _ => ⟨rfl, e32, (by decide : 0 + 0 ≤ _), (by decide : 0 + 0 ≤ _)⟩)
    dsimp only [Pt.U, Pt.locs, Pt.cells, Pt.slots] at X35 l35 y35 z35 st35 hQ35
    subst l35 y35 z35
    obtain ⟨rfl, N35q, e35⟩ := hQ35
    have N35 := Fr.app N32 N35q
    obtain ⟨cq36, kq36, q36a, q36b, q36c⟩ := isOf hZ e35 EL_EQUAL
    obtain ⟨_, _, ⟨T36, L36, k36, n36⟩, -, X36, ⟨Lc36, hQ36, l36, y36, z36⟩, st36⟩ := X35.virtualBack hx (y := (⟨"java/lang/String", "charAt", "(I)C"⟩ : MethodName)) (z := (⟨"java/lang/String", "charAt", "(I)C"⟩ : MethodName)) hown (mvT hZ (hw _ (List.mem_of_getElem? (i := 15) rfl))) (mvT hZ (hw _ (List.mem_of_getElem? (i := 16) rfl))) (notFace_of_selects (args := #[]) (mvT hZ (hw _ (List.mem_of_getElem? (i := 18) rfl)))) (mvT hZ (hw _ (List.mem_of_getElem? (i := 18) rfl))) (mvT hZ (hw _ (List.mem_of_getElem? (i := 17) rfl))) (by decide) (backOf (W := 0) (rm_chr l Z a0' hw [] l_EQUAL (0 : Int32) v_EQUAL cl_EQUAL (2 : Int32) (61 : Int32) kc fm h0 n0 Z0 EL_EQUAL HC_EQUAL HV_EQUAL Ar_EQUAL hsz_EQUAL hnn_EQUAL (by decide) (by decide) hat_EQUAL S_cs hkc S_fm hfm) hZ (hw _ (List.mem_of_getElem? (i := 20) rfl)) (hw _ (List.mem_of_getElem? (i := 19) rfl)) (by decide) (by decide)) q36a q36c (g := (mkF m 20 #[.val (.int p0), .val (.int ((p0 &&& (2147483647 : Int32)) % (6 : Int32))), .val (.ref w_EQUAL), .val (.ref l_EQUAL), .unset, .unset] [(.int (0 : Int32)), (.ref l_EQUAL)])) rfl (by rw [hml]; rfl) (Steps.refl _) (argsL := [(.int (0 : Int32))]) (rest := []) (lenOf own_pd6 rfl) rfl (by show 2 * 0 + _ ≤ _; exact Nat.le_of_eq rfl) (hb hby at_20) (fun _ _ => ⟨rfl, e35, (by decide : 0 + 0 ≤ _), (by decide : 0 + 0 ≤ _)⟩)
    dsimp only [Pt.U, Pt.locs, Pt.cells, Pt.slots] at X36 l36 y36 z36 st36 hQ36
    subst l36 y36 z36
    obtain ⟨rfl, N36q, e36⟩ := hQ36
    have N36 := Fr.app N35 N36q
    have q36 : (F_chr (61 : Int32)) = (61 : Int32) := by unfold F_chr F_lchar; decide +kernel
    rw [q36] at st36
    obtain ⟨cq37, kq37, q37a, q37b, q37c⟩ := isOf hZ e36 E_EQUAL
    obtain ⟨_, _, ⟨T37, L37, k37, n37⟩, -, X37, ⟨Lc37, hQ37, l37, y37, z37⟩, st37⟩ := X36.virtualBack hx (y := (⟨"com/example/gard/gard/core/Condition$Operator", "orders", "()Z"⟩ : MethodName)) (z := (⟨"com/example/gard/gard/core/Condition$Operator", "orders", "()Z"⟩ : MethodName)) hown (mvT hZ (hw _ (List.mem_of_getElem? (i := 43) rfl))) (mvT hZ (hw _ (List.mem_of_getElem? (i := 44) rfl))) (notFace_of_selects (args := #[]) (mvT hZ (hw _ (List.mem_of_getElem? (i := 46) rfl)))) (mvT hZ (hw _ (List.mem_of_getElem? (i := 46) rfl))) (mvT hZ (hw _ (List.mem_of_getElem? (i := 45) rfl))) (by decide) (backOf (W := 0) (rm_ord l Z a0' hw [] w_EQUAL w_EQUAL w_NOT_EQUAL h0 n0 Z0 S_EQUAL S_NOT_EQUAL) hZ (hw _ (List.mem_of_getElem? (i := 47) rfl)) (hw _ (List.mem_of_getElem? (i := 6) rfl)) (by decide) (by decide)) q37a q37c (g := (mkF m 47 #[.val (.int p0), .val (.int ((p0 &&& (2147483647 : Int32)) % (6 : Int32))), .val (.ref w_EQUAL), .val (.ref l_EQUAL), .val (.int (61 : Int32)), .val (.int (0 : Int32))] [(.ref w_EQUAL)])) rfl (by rw [hml]; rfl) (Steps.refl _) (argsL := []) (rest := []) (lenOf own_pd2 rfl) rfl (by show 2 * 0 + _ ≤ _; exact Nat.le_of_eq rfl) (hb hby at_47) (fun _ _ => ⟨rfl, e36, (by decide : 0 + 0 ≤ _), (by decide : 0 + 0 ≤ _)⟩)
    dsimp only [Pt.U, Pt.locs, Pt.cells, Pt.slots] at X37 l37 y37 z37 st37 hQ37
    subst l37 y37 z37
    obtain ⟨rfl, N37q, e37⟩ := hQ37
    have N37 := Fr.app N36 N37q
    have q37 : (F_ord w_EQUAL w_EQUAL w_NOT_EQUAL) = (0 : Int32) := by rw [F_ord, if_pos (rfl : w_EQUAL = w_EQUAL)]
    rw [q37] at st37
    obtain ⟨fs, hr, hrun, hended, hW, hsame⟩ := X37.leave (v := some (.int (1 : Int32))) (fun h => by rw [Bd.returns] at h; cases h)
    refine ⟨_, _, pre33 _ ?_, hrun, hended, _, _, rfl, ?_, ⟨_, rfl⟩, hW, hsame.mono (by decide) (by decide)⟩
    · show Steps p.tables e below (s₁.setTop (mkF m 9 #[.val (.int p0), .val (.int ((p0 &&& (2147483647 : Int32)) % (6 : Int32))), .unset, .unset, .unset, .unset] [(.int ((p0 &&& (2147483647 : Int32)) % (6 : Int32)))])) _
      refine st32 _ ?_
      show Steps p.tables e below (T32.setTop (mkF m 12 #[.val (.int p0), .val (.int ((p0 &&& (2147483647 : Int32)) % (6 : Int32))), .unset, .unset, .unset, .unset] [(.ref w_EQUAL)])) _
      refine XS.astoreN X32.here hx rfl (hb hby at_12) rfl rfl (l' := #[.val (.int p0), .val (.int ((p0 &&& (2147483647 : Int32)) % (6 : Int32))), .val (.ref w_EQUAL), .unset, .unset, .unset]) rfl ?_
      show Steps p.tables e below (T32.setTop (mkF m 13 #[.val (.int p0), .val (.int ((p0 &&& (2147483647 : Int32)) % (6 : Int32))), .val (.ref w_EQUAL), .unset, .unset, .unset] [])) _
      refine XS.aloadN X32.here hx rfl (hb hby at_13) rfl rfl ?_
      show Steps p.tables e below (T32.setTop (mkF m 14 #[.val (.int p0), .val (.int ((p0 &&& (2147483647 : Int32)) % (6 : Int32))), .val (.ref w_EQUAL), .unset, .unset, .unset] [(.ref w_EQUAL)])) _
      refine st35.trans ?_
      show Steps p.tables e below (T35.setTop (mkF m 17 #[.val (.int p0), .val (.int ((p0 &&& (2147483647 : Int32)) % (6 : Int32))), .val (.ref w_EQUAL), .unset, .unset, .unset] [(.ref l_EQUAL)])) _
      refine XS.astoreN X35.here hx rfl (hb hby at_17) rfl rfl (l' := #[.val (.int p0), .val (.int ((p0 &&& (2147483647 : Int32)) % (6 : Int32))), .val (.ref w_EQUAL), .val (.ref l_EQUAL), .unset, .unset]) rfl ?_
      show Steps p.tables e below (T35.setTop (mkF m 18 #[.val (.int p0), .val (.int ((p0 &&& (2147483647 : Int32)) % (6 : Int32))), .val (.ref w_EQUAL), .val (.ref l_EQUAL), .unset, .unset] [])) _
      refine XS.aloadN X35.here hx rfl (hb hby at_18) rfl rfl ?_
      show Steps p.tables e below (T35.setTop (mkF m 19 #[.val (.int p0), .val (.int ((p0 &&& (2147483647 : Int32)) % (6 : Int32))), .val (.ref w_EQUAL), .val (.ref l_EQUAL), .unset, .unset] [(.ref l_EQUAL)])) _
      refine XS.iconst X35.here hx rfl (hb hby at_19) ?_
      show Steps p.tables e below (T35.setTop (mkF m 20 #[.val (.int p0), .val (.int ((p0 &&& (2147483647 : Int32)) % (6 : Int32))), .val (.ref w_EQUAL), .val (.ref l_EQUAL), .unset, .unset] [(.int (0 : Int32)), (.ref l_EQUAL)])) _
      refine st36.trans ?_
      show Steps p.tables e below (T36.setTop (mkF m 23 #[.val (.int p0), .val (.int ((p0 &&& (2147483647 : Int32)) % (6 : Int32))), .val (.ref w_EQUAL), .val (.ref l_EQUAL), .unset, .unset] [(.int (61 : Int32))])) _
      refine XS.istore X36.here hx rfl (hb hby at_23) rfl (l' := #[.val (.int p0), .val (.int ((p0 &&& (2147483647 : Int32)) % (6 : Int32))), .val (.ref w_EQUAL), .val (.ref l_EQUAL), .val (.int (61 : Int32)), .unset]) rfl ?_
      show Steps p.tables e below (T36.setTop (mkF m 25 #[.val (.int p0), .val (.int ((p0 &&& (2147483647 : Int32)) % (6 : Int32))), .val (.ref w_EQUAL), .val (.ref l_EQUAL), .val (.int (61 : Int32)), .unset] [])) _
      refine XS.iload X36.here hx rfl (hb hby at_25) rfl ?_
      show Steps p.tables e below (T36.setTop (mkF m 27 #[.val (.int p0), .val (.int ((p0 &&& (2147483647 : Int32)) % (6 : Int32))), .val (.ref w_EQUAL), .val (.ref l_EQUAL), .val (.int (61 : Int32)), .unset] [(.int (61 : Int32))])) _
      refine XS.bipush X36.here hx rfl (hb hby at_27) ?_
      show Steps p.tables e below (T36.setTop (mkF m 29 #[.val (.int p0), .val (.int ((p0 &&& (2147483647 : Int32)) % (6 : Int32))), .val (.ref w_EQUAL), .val (.ref l_EQUAL), .val (.int (61 : Int32)), .unset] [(.int (60 : Int32)), (.int (61 : Int32))])) _
      refine XS.icmpNo X36.here hx rfl (hb hby at_29) rfl (feq (by decide : ¬ ((61 : Int32) = (60 : Int32)))).1 ?_
      show Steps p.tables e below (T36.setTop (mkF m 32 #[.val (.int p0), .val (.int ((p0 &&& (2147483647 : Int32)) % (6 : Int32))), .val (.ref w_EQUAL), .val (.ref l_EQUAL), .val (.int (61 : Int32)), .unset] [])) _
      refine XS.iload X36.here hx rfl (hb hby at_32) rfl ?_
      show Steps p.tables e below (T36.setTop (mkF m 34 #[.val (.int p0), .val (.int ((p0 &&& (2147483647 : Int32)) % (6 : Int32))), .val (.ref w_EQUAL), .val (.ref l_EQUAL), .val (.int (61 : Int32)), .unset] [(.int (61 : Int32))])) _
      refine XS.bipush X36.here hx rfl (hb hby at_34) ?_
      show Steps p.tables e below (T36.setTop (mkF m 36 #[.val (.int p0), .val (.int ((p0 &&& (2147483647 : Int32)) % (6 : Int32))), .val (.ref w_EQUAL), .val (.ref l_EQUAL), .val (.int (61 : Int32)), .unset] [(.int (62 : Int32)), (.int (61 : Int32))])) _
      refine XS.icmpYes X36.here hx rfl (pc0 := 36) (pc' := 43) rfl (hb hby at_36) rfl (feq (by decide : ¬ ((61 : Int32) = (62 : Int32)))).2 (by decide) (by decide) ?_
      show Steps p.tables e below (T36.setTop (mkF m 43 #[.val (.int p0), .val (.int ((p0 &&& (2147483647 : Int32)) % (6 : Int32))), .val (.ref w_EQUAL), .val (.ref l_EQUAL), .val (.int (61 : Int32)), .unset] [])) _
      refine XS.iconst X36.here hx rfl (hb hby at_43) ?_
      show Steps p.tables e below (T36.setTop (mkF m 44 #[.val (.int p0), .val (.int ((p0 &&& (2147483647 : Int32)) % (6 : Int32))), .val (.ref w_EQUAL), .val (.ref l_EQUAL), .val (.int (61 : Int32)), .unset] [(.int (0 : Int32))])) _
      refine XS.istore X36.here hx rfl (hb hby at_44) rfl (l' := #[.val (.int p0), .val (.int ((p0 &&& (2147483647 : Int32)) % (6 : Int32))), .val (.ref w_EQUAL), .val (.ref l_EQUAL), .val (.int (61 : Int32)), .val (.int (0 : Int32))]) rfl ?_
      show Steps p.tables e below (T36.setTop (mkF m 46 #[.val (.int p0), .val (.int ((p0 &&& (2147483647 : Int32)) % (6 : Int32))), .val (.ref w_EQUAL), .val (.ref l_EQUAL), .val (.int (61 : Int32)), .val (.int (0 : Int32))] [])) _
      refine XS.aloadN X36.here hx rfl (hb hby at_46) rfl rfl ?_
      show Steps p.tables e below (T36.setTop (mkF m 47 #[.val (.int p0), .val (.int ((p0 &&& (2147483647 : Int32)) % (6 : Int32))), .val (.ref w_EQUAL), .val (.ref l_EQUAL), .val (.int (61 : Int32)), .val (.int (0 : Int32))] [(.ref w_EQUAL)])) _
      refine st37.trans ?_
      show Steps p.tables e below (T37.setTop (mkF m 50 #[.val (.int p0), .val (.int ((p0 &&& (2147483647 : Int32)) % (6 : Int32))), .val (.ref w_EQUAL), .val (.ref l_EQUAL), .val (.int (61 : Int32)), .val (.int (0 : Int32))] [(.int (0 : Int32))])) _
      refine XS.iload X37.here hx rfl (hb hby at_50) rfl ?_
      show Steps p.tables e below (T37.setTop (mkF m 52 #[.val (.int p0), .val (.int ((p0 &&& (2147483647 : Int32)) % (6 : Int32))), .val (.ref w_EQUAL), .val (.ref l_EQUAL), .val (.int (61 : Int32)), .val (.int (0 : Int32))] [(.int (0 : Int32)), (.int (0 : Int32))])) _
      refine XS.icmpNo X37.here hx rfl (hb hby at_52) rfl (teq (by decide : (0 : Int32) = (0 : Int32))).2 ?_
      show Steps p.tables e below (T37.setTop (mkF m 55 #[.val (.int p0), .val (.int ((p0 &&& (2147483647 : Int32)) % (6 : Int32))), .val (.ref w_EQUAL), .val (.ref l_EQUAL), .val (.int (61 : Int32)), .val (.int (0 : Int32))] [])) _
      refine XS.iconst X37.here hx rfl (hb hby at_55) ?_
      show Steps p.tables e below (T37.setTop (mkF m 56 #[.val (.int p0), .val (.int ((p0 &&& (2147483647 : Int32)) % (6 : Int32))), .val (.ref w_EQUAL), .val (.ref l_EQUAL), .val (.int (61 : Int32)), .val (.int (0 : Int32))] [(.int (1 : Int32))])) _
      refine XS.goto X37.here hx rfl (pc0 := 56) (pc' := 60) rfl (hb hby at_56) (by decide) (by decide) ?_
      show Steps p.tables e below (T37.setTop (mkF m 60 #[.val (.int p0), .val (.int ((p0 &&& (2147483647 : Int32)) % (6 : Int32))), .val (.ref w_EQUAL), .val (.ref l_EQUAL), .val (.int (61 : Int32)), .val (.int (0 : Int32))] [(.int (1 : Int32))])) _
      exact retN X37 hx (t := .boolean) Bd.returns (by simp) (hb hby at_60) hr
    · show Q_law Z p0 w_EQUAL w_NOT_EQUAL w_LESS w_LESS_OR_EQUAL w_GREATER w_GREATER_OR_EQUAL kc fm l_EQUAL v_EQUAL cl_EQUAL l_NOT_EQUAL v_NOT_EQUAL cl_NOT_EQUAL l_LESS v_LESS cl_LESS l_LESS_OR_EQUAL v_LESS_OR_EQUAL cl_LESS_OR_EQUAL l_GREATER v_GREATER cl_GREATER l_GREATER_OR_EQUAL v_GREATER_OR_EQUAL cl_GREATER_OR_EQUAL h0 n0 _ T37.heap _
      refine ⟨?_, N37, trivial⟩
      rw [F_law, if_pos hs_34]
  · by_cases hs_38 : ((p0 &&& (2147483647 : Int32)) % (6 : Int32)) = (1 : Int32)
    · have q32 : (F_pick ((p0 &&& (2147483647 : Int32)) % (6 : Int32)) w_EQUAL w_NOT_EQUAL w_LESS w_LESS_OR_EQUAL w_GREATER w_GREATER_OR_EQUAL) = w_NOT_EQUAL := by rw [F_pick, if_neg hs_34, if_pos hs_38]
      rw [q32] at st32
      obtain ⟨cq39, kq39, q39a, q39b, q39c⟩ := isOf hZ e32 E_NOT_EQUAL
      obtain ⟨_, _, ⟨T39, L39, k39, n39⟩, -, X39, ⟨Lc39, hQ39, l39, y39, z39⟩, st39⟩ := X32.virtualBack hx (y := (⟨"com/example/gard/gard/core/Condition$Operator", "toString", "()Ljava/lang/String;"⟩ : MethodName)) (z := (⟨"com/example/gard/gard/core/Condition$Operator", "toString", "()Ljava/lang/String;"⟩ : MethodName)) hown (mvT hZ (hw _ (List.mem_of_getElem? (i := 8) rfl))) (mvT hZ (hw _ (List.mem_of_getElem? (i := 9) rfl))) (notFace_of_selects (args := #[]) (mvT hZ (hw _ (List.mem_of_getElem? (i := 11) rfl)))) (mvT hZ (hw _ (List.mem_of_getElem? (i := 11) rfl))) (mvT hZ (hw _ (List.mem_of_getElem? (i := 10) rfl))) (by decide) (backOf (W := 0) (rm_sym l Z a0' hw [] w_NOT_EQUAL l_NOT_EQUAL h0 n0 Z0 HL_NOT_EQUAL) hZ (hw _ (List.mem_of_getElem? (i := 12) rfl)) (hw _ (List.mem_of_getElem? (i := 6) rfl)) (by decide) (by decide)) q39a q39c (g := (mkF m 14 #[.val (.int p0), .val (.int ((p0 &&& (2147483647 : Int32)) % (6 : Int32))), .val (.ref w_NOT_EQUAL), .unset, .unset, .unset] [(.ref w_NOT_EQUAL)])) rfl (by rw [hml]; rfl) (Steps.refl _) (argsL := []) (rest := []) (lenOf own_pd5 rfl) rfl (by show 2 * 0 + _ ≤ _; exact Nat.le_of_eq rfl) (hb hby at_14) (fun _ _ => ⟨rfl, e32, (by decide : 0 + 0 ≤ _), (by decide : 0 + 0 ≤ _)⟩)
      dsimp only [Pt.U, Pt.locs, Pt.cells, Pt.slots] at X39 l39 y39 z39 st39 hQ39
      subst l39 y39 z39
      obtain ⟨rfl, N39q, e39⟩ := hQ39
      have N39 := Fr.app N32 N39q
      obtain ⟨cq40, kq40, q40a, q40b, q40c⟩ := isOf hZ e39 EL_NOT_EQUAL
      obtain ⟨_, _, ⟨T40, L40, k40, n40⟩, -, X40, ⟨Lc40, hQ40, l40, y40, z40⟩, st40⟩ := X39.virtualBack hx (y := (⟨"java/lang/String", "charAt", "(I)C"⟩ : MethodName)) (z := (⟨"java/lang/String", "charAt", "(I)C"⟩ : MethodName)) hown (mvT hZ (hw _ (List.mem_of_getElem? (i := 15) rfl))) (mvT hZ (hw _ (List.mem_of_getElem? (i := 16) rfl))) (notFace_of_selects (args := #[]) (mvT hZ (hw _ (List.mem_of_getElem? (i := 18) rfl)))) (mvT hZ (hw _ (List.mem_of_getElem? (i := 18) rfl))) (mvT hZ (hw _ (List.mem_of_getElem? (i := 17) rfl))) (by decide) (backOf (W := 0) (rm_chr l Z a0' hw [] l_NOT_EQUAL (0 : Int32) v_NOT_EQUAL cl_NOT_EQUAL (2 : Int32) (33 : Int32) kc fm h0 n0 Z0 EL_NOT_EQUAL HC_NOT_EQUAL HV_NOT_EQUAL Ar_NOT_EQUAL hsz_NOT_EQUAL hnn_NOT_EQUAL (by decide) (by decide) hat_NOT_EQUAL S_cs hkc S_fm hfm) hZ (hw _ (List.mem_of_getElem? (i := 20) rfl)) (hw _ (List.mem_of_getElem? (i := 19) rfl)) (by decide) (by decide)) q40a q40c (g := (mkF m 20 #[.val (.int p0), .val (.int ((p0 &&& (2147483647 : Int32)) % (6 : Int32))), .val (.ref w_NOT_EQUAL), .val (.ref l_NOT_EQUAL), .unset, .unset] [(.int (0 : Int32)), (.ref l_NOT_EQUAL)])) rfl (by rw [hml]; rfl) (Steps.refl _) (argsL := [(.int (0 : Int32))]) (rest := []) (lenOf own_pd6 rfl) rfl (by show 2 * 0 + _ ≤ _; exact Nat.le_of_eq rfl) (hb hby at_20) (fun _ _ => ⟨rfl, e39, (by decide : 0 + 0 ≤ _), (by decide : 0 + 0 ≤ _)⟩)
      dsimp only [Pt.U, Pt.locs, Pt.cells, Pt.slots] at X40 l40 y40 z40 st40 hQ40
      subst l40 y40 z40
      obtain ⟨rfl, N40q, e40⟩ := hQ40
      have N40 := Fr.app N39 N40q
      have q40 : (F_chr (33 : Int32)) = (33 : Int32) := by unfold F_chr F_lchar; decide +kernel
      rw [q40] at st40
      obtain ⟨cq41, kq41, q41a, q41b, q41c⟩ := isOf hZ e40 E_NOT_EQUAL
      obtain ⟨_, _, ⟨T41, L41, k41, n41⟩, -, X41, ⟨Lc41, hQ41, l41, y41, z41⟩, st41⟩ := X40.virtualBack hx (y := (⟨"com/example/gard/gard/core/Condition$Operator", "orders", "()Z"⟩ : MethodName)) (z := (⟨"com/example/gard/gard/core/Condition$Operator", "orders", "()Z"⟩ : MethodName)) hown (mvT hZ (hw _ (List.mem_of_getElem? (i := 43) rfl))) (mvT hZ (hw _ (List.mem_of_getElem? (i := 44) rfl))) (notFace_of_selects (args := #[]) (mvT hZ (hw _ (List.mem_of_getElem? (i := 46) rfl)))) (mvT hZ (hw _ (List.mem_of_getElem? (i := 46) rfl))) (mvT hZ (hw _ (List.mem_of_getElem? (i := 45) rfl))) (by decide) (backOf (W := 0) (rm_ord l Z a0' hw [] w_NOT_EQUAL w_EQUAL w_NOT_EQUAL h0 n0 Z0 S_EQUAL S_NOT_EQUAL) hZ (hw _ (List.mem_of_getElem? (i := 47) rfl)) (hw _ (List.mem_of_getElem? (i := 6) rfl)) (by decide) (by decide)) q41a q41c (g := (mkF m 47 #[.val (.int p0), .val (.int ((p0 &&& (2147483647 : Int32)) % (6 : Int32))), .val (.ref w_NOT_EQUAL), .val (.ref l_NOT_EQUAL), .val (.int (33 : Int32)), .val (.int (0 : Int32))] [(.ref w_NOT_EQUAL)])) rfl (by rw [hml]; rfl) (Steps.refl _) (argsL := []) (rest := []) (lenOf own_pd2 rfl) rfl (by show 2 * 0 + _ ≤ _; exact Nat.le_of_eq rfl) (hb hby at_47) (fun _ _ => ⟨rfl, e40, (by decide : 0 + 0 ≤ _), (by decide : 0 + 0 ≤ _)⟩)
      dsimp only [Pt.U, Pt.locs, Pt.cells, Pt.slots] at X41 l41 y41 z41 st41 hQ41
      subst l41 y41 z41
      obtain ⟨rfl, N41q, e41⟩ := hQ41
      have N41 := Fr.app N40 N41q
      have q41 : (F_ord w_NOT_EQUAL w_EQUAL w_NOT_EQUAL) = (0 : Int32) := by rw [F_ord, if_neg ne_NOT_EQUAL_EQUAL, if_pos (rfl : w_NOT_EQUAL = w_NOT_EQUAL)]
      rw [q41] at st41
      obtain ⟨fs, hr, hrun, hended, hW, hsame⟩ := X41.leave (v := some (.int (1 : Int32))) (fun h => by rw [Bd.returns] at h; cases h)
      refine ⟨_, _, pre33 _ ?_, hrun, hended, _, _, rfl, ?_, ⟨_, rfl⟩, hW, hsame.mono (by decide) (by decide)⟩
      · show Steps p.tables e below (s₁.setTop (mkF m 9 #[.val (.int p0), .val (.int ((p0 &&& (2147483647 : Int32)) % (6 : Int32))), .unset, .unset, .unset, .unset] [(.int ((p0 &&& (2147483647 : Int32)) % (6 : Int32)))])) _
        refine st32 _ ?_
        show Steps p.tables e below (T32.setTop (mkF m 12 #[.val (.int p0), .val (.int ((p0 &&& (2147483647 : Int32)) % (6 : Int32))), .unset, .unset, .unset, .unset] [(.ref w_NOT_EQUAL)])) _
        refine XS.astoreN X32.here hx rfl (hb hby at_12) rfl rfl (l' := #[.val (.int p0), .val (.int ((p0 &&& (2147483647 : Int32)) % (6 : Int32))), .val (.ref w_NOT_EQUAL), .unset, .unset, .unset]) rfl ?_
        show Steps p.tables e below (T32.setTop (mkF m 13 #[.val (.int p0), .val (.int ((p0 &&& (2147483647 : Int32)) % (6 : Int32))), .val (.ref w_NOT_EQUAL), .unset, .unset, .unset] [])) _
        refine XS.aloadN X32.here hx rfl (hb hby at_13) rfl rfl ?_
        show Steps p.tables e below (T32.setTop (mkF m 14 #[.val (.int p0), .val (.int ((p0 &&& (2147483647 : Int32)) % (6 : Int32))), .val (.ref w_NOT_EQUAL), .unset, .unset, .unset] [(.ref w_NOT_EQUAL)])) _
        refine st39.trans ?_
        show Steps p.tables e below (T39.setTop (mkF m 17 #[.val (.int p0), .val (.int ((p0 &&& (2147483647 : Int32)) % (6 : Int32))), .val (.ref w_NOT_EQUAL), .unset, .unset, .unset] [(.ref l_NOT_EQUAL)])) _
        refine XS.astoreN X39.here hx rfl (hb hby at_17) rfl rfl (l' := #[.val (.int p0), .val (.int ((p0 &&& (2147483647 : Int32)) % (6 : Int32))), .val (.ref w_NOT_EQUAL), .val (.ref l_NOT_EQUAL), .unset, .unset]) rfl ?_
        show Steps p.tables e below (T39.setTop (mkF m 18 #[.val (.int p0), .val (.int ((p0 &&& (2147483647 : Int32)) % (6 : Int32))), .val (.ref w_NOT_EQUAL), .val (.ref l_NOT_EQUAL), .unset, .unset] [])) _
        refine XS.aloadN X39.here hx rfl (hb hby at_18) rfl rfl ?_
        show Steps p.tables e below (T39.setTop (mkF m 19 #[.val (.int p0), .val (.int ((p0 &&& (2147483647 : Int32)) % (6 : Int32))), .val (.ref w_NOT_EQUAL), .val (.ref l_NOT_EQUAL), .unset, .unset] [(.ref l_NOT_EQUAL)])) _
        refine XS.iconst X39.here hx rfl (hb hby at_19) ?_
        show Steps p.tables e below (T39.setTop (mkF m 20 #[.val (.int p0), .val (.int ((p0 &&& (2147483647 : Int32)) % (6 : Int32))), .val (.ref w_NOT_EQUAL), .val (.ref l_NOT_EQUAL), .unset, .unset] [(.int (0 : Int32)), (.ref l_NOT_EQUAL)])) _
        refine st40.trans ?_
        show Steps p.tables e below (T40.setTop (mkF m 23 #[.val (.int p0), .val (.int ((p0 &&& (2147483647 : Int32)) % (6 : Int32))), .val (.ref w_NOT_EQUAL), .val (.ref l_NOT_EQUAL), .unset, .unset] [(.int (33 : Int32))])) _
        refine XS.istore X40.here hx rfl (hb hby at_23) rfl (l' := #[.val (.int p0), .val (.int ((p0 &&& (2147483647 : Int32)) % (6 : Int32))), .val (.ref w_NOT_EQUAL), .val (.ref l_NOT_EQUAL), .val (.int (33 : Int32)), .unset]) rfl ?_
        show Steps p.tables e below (T40.setTop (mkF m 25 #[.val (.int p0), .val (.int ((p0 &&& (2147483647 : Int32)) % (6 : Int32))), .val (.ref w_NOT_EQUAL), .val (.ref l_NOT_EQUAL), .val (.int (33 : Int32)), .unset] [])) _
        refine XS.iload X40.here hx rfl (hb hby at_25) rfl ?_
        show Steps p.tables e below (T40.setTop (mkF m 27 #[.val (.int p0), .val (.int ((p0 &&& (2147483647 : Int32)) % (6 : Int32))), .val (.ref w_NOT_EQUAL), .val (.ref l_NOT_EQUAL), .val (.int (33 : Int32)), .unset] [(.int (33 : Int32))])) _
        refine XS.bipush X40.here hx rfl (hb hby at_27) ?_
        show Steps p.tables e below (T40.setTop (mkF m 29 #[.val (.int p0), .val (.int ((p0 &&& (2147483647 : Int32)) % (6 : Int32))), .val (.ref w_NOT_EQUAL), .val (.ref l_NOT_EQUAL), .val (.int (33 : Int32)), .unset] [(.int (60 : Int32)), (.int (33 : Int32))])) _
        refine XS.icmpNo X40.here hx rfl (hb hby at_29) rfl (feq (by decide : ¬ ((33 : Int32) = (60 : Int32)))).1 ?_
        show Steps p.tables e below (T40.setTop (mkF m 32 #[.val (.int p0), .val (.int ((p0 &&& (2147483647 : Int32)) % (6 : Int32))), .val (.ref w_NOT_EQUAL), .val (.ref l_NOT_EQUAL), .val (.int (33 : Int32)), .unset] [])) _
        refine XS.iload X40.here hx rfl (hb hby at_32) rfl ?_
        show Steps p.tables e below (T40.setTop (mkF m 34 #[.val (.int p0), .val (.int ((p0 &&& (2147483647 : Int32)) % (6 : Int32))), .val (.ref w_NOT_EQUAL), .val (.ref l_NOT_EQUAL), .val (.int (33 : Int32)), .unset] [(.int (33 : Int32))])) _
        refine XS.bipush X40.here hx rfl (hb hby at_34) ?_
        show Steps p.tables e below (T40.setTop (mkF m 36 #[.val (.int p0), .val (.int ((p0 &&& (2147483647 : Int32)) % (6 : Int32))), .val (.ref w_NOT_EQUAL), .val (.ref l_NOT_EQUAL), .val (.int (33 : Int32)), .unset] [(.int (62 : Int32)), (.int (33 : Int32))])) _
        refine XS.icmpYes X40.here hx rfl (pc0 := 36) (pc' := 43) rfl (hb hby at_36) rfl (feq (by decide : ¬ ((33 : Int32) = (62 : Int32)))).2 (by decide) (by decide) ?_
        show Steps p.tables e below (T40.setTop (mkF m 43 #[.val (.int p0), .val (.int ((p0 &&& (2147483647 : Int32)) % (6 : Int32))), .val (.ref w_NOT_EQUAL), .val (.ref l_NOT_EQUAL), .val (.int (33 : Int32)), .unset] [])) _
        refine XS.iconst X40.here hx rfl (hb hby at_43) ?_
        show Steps p.tables e below (T40.setTop (mkF m 44 #[.val (.int p0), .val (.int ((p0 &&& (2147483647 : Int32)) % (6 : Int32))), .val (.ref w_NOT_EQUAL), .val (.ref l_NOT_EQUAL), .val (.int (33 : Int32)), .unset] [(.int (0 : Int32))])) _
        refine XS.istore X40.here hx rfl (hb hby at_44) rfl (l' := #[.val (.int p0), .val (.int ((p0 &&& (2147483647 : Int32)) % (6 : Int32))), .val (.ref w_NOT_EQUAL), .val (.ref l_NOT_EQUAL), .val (.int (33 : Int32)), .val (.int (0 : Int32))]) rfl ?_
        show Steps p.tables e below (T40.setTop (mkF m 46 #[.val (.int p0), .val (.int ((p0 &&& (2147483647 : Int32)) % (6 : Int32))), .val (.ref w_NOT_EQUAL), .val (.ref l_NOT_EQUAL), .val (.int (33 : Int32)), .val (.int (0 : Int32))] [])) _
        refine XS.aloadN X40.here hx rfl (hb hby at_46) rfl rfl ?_
        show Steps p.tables e below (T40.setTop (mkF m 47 #[.val (.int p0), .val (.int ((p0 &&& (2147483647 : Int32)) % (6 : Int32))), .val (.ref w_NOT_EQUAL), .val (.ref l_NOT_EQUAL), .val (.int (33 : Int32)), .val (.int (0 : Int32))] [(.ref w_NOT_EQUAL)])) _
        refine st41.trans ?_
        show Steps p.tables e below (T41.setTop (mkF m 50 #[.val (.int p0), .val (.int ((p0 &&& (2147483647 : Int32)) % (6 : Int32))), .val (.ref w_NOT_EQUAL), .val (.ref l_NOT_EQUAL), .val (.int (33 : Int32)), .val (.int (0 : Int32))] [(.int (0 : Int32))])) _
        refine XS.iload X41.here hx rfl (hb hby at_50) rfl ?_
        show Steps p.tables e below (T41.setTop (mkF m 52 #[.val (.int p0), .val (.int ((p0 &&& (2147483647 : Int32)) % (6 : Int32))), .val (.ref w_NOT_EQUAL), .val (.ref l_NOT_EQUAL), .val (.int (33 : Int32)), .val (.int (0 : Int32))] [(.int (0 : Int32)), (.int (0 : Int32))])) _
        refine XS.icmpNo X41.here hx rfl (hb hby at_52) rfl (teq (by decide : (0 : Int32) = (0 : Int32))).2 ?_
        show Steps p.tables e below (T41.setTop (mkF m 55 #[.val (.int p0), .val (.int ((p0 &&& (2147483647 : Int32)) % (6 : Int32))), .val (.ref w_NOT_EQUAL), .val (.ref l_NOT_EQUAL), .val (.int (33 : Int32)), .val (.int (0 : Int32))] [])) _
        refine XS.iconst X41.here hx rfl (hb hby at_55) ?_
        show Steps p.tables e below (T41.setTop (mkF m 56 #[.val (.int p0), .val (.int ((p0 &&& (2147483647 : Int32)) % (6 : Int32))), .val (.ref w_NOT_EQUAL), .val (.ref l_NOT_EQUAL), .val (.int (33 : Int32)), .val (.int (0 : Int32))] [(.int (1 : Int32))])) _
        refine XS.goto X41.here hx rfl (pc0 := 56) (pc' := 60) rfl (hb hby at_56) (by decide) (by decide) ?_
        show Steps p.tables e below (T41.setTop (mkF m 60 #[.val (.int p0), .val (.int ((p0 &&& (2147483647 : Int32)) % (6 : Int32))), .val (.ref w_NOT_EQUAL), .val (.ref l_NOT_EQUAL), .val (.int (33 : Int32)), .val (.int (0 : Int32))] [(.int (1 : Int32))])) _
        exact retN X41 hx (t := .boolean) Bd.returns (by simp) (hb hby at_60) hr
      · show Q_law Z p0 w_EQUAL w_NOT_EQUAL w_LESS w_LESS_OR_EQUAL w_GREATER w_GREATER_OR_EQUAL kc fm l_EQUAL v_EQUAL cl_EQUAL l_NOT_EQUAL v_NOT_EQUAL cl_NOT_EQUAL l_LESS v_LESS cl_LESS l_LESS_OR_EQUAL v_LESS_OR_EQUAL cl_LESS_OR_EQUAL l_GREATER v_GREATER cl_GREATER l_GREATER_OR_EQUAL v_GREATER_OR_EQUAL cl_GREATER_OR_EQUAL h0 n0 _ T41.heap _
        refine ⟨?_, N41, trivial⟩
        rw [F_law, if_neg hs_34, if_pos hs_38]
    · by_cases hs_42 : ((p0 &&& (2147483647 : Int32)) % (6 : Int32)) = (2 : Int32)
      · have q32 : (F_pick ((p0 &&& (2147483647 : Int32)) % (6 : Int32)) w_EQUAL w_NOT_EQUAL w_LESS w_LESS_OR_EQUAL w_GREATER w_GREATER_OR_EQUAL) = w_LESS := by rw [F_pick, if_neg hs_34, if_neg hs_38, if_pos hs_42]
        rw [q32] at st32
        obtain ⟨cq43, kq43, q43a, q43b, q43c⟩ := isOf hZ e32 E_LESS
        obtain ⟨_, _, ⟨T43, L43, k43, n43⟩, -, X43, ⟨Lc43, hQ43, l43, y43, z43⟩, st43⟩ := X32.virtualBack hx (y := (⟨"com/example/gard/gard/core/Condition$Operator", "toString", "()Ljava/lang/String;"⟩ : MethodName)) (z := (⟨"com/example/gard/gard/core/Condition$Operator", "toString", "()Ljava/lang/String;"⟩ : MethodName)) hown (mvT hZ (hw _ (List.mem_of_getElem? (i := 8) rfl))) (mvT hZ (hw _ (List.mem_of_getElem? (i := 9) rfl))) (notFace_of_selects (args := #[]) (mvT hZ (hw _ (List.mem_of_getElem? (i := 11) rfl)))) (mvT hZ (hw _ (List.mem_of_getElem? (i := 11) rfl))) (mvT hZ (hw _ (List.mem_of_getElem? (i := 10) rfl))) (by decide) (backOf (W := 0) (rm_sym l Z a0' hw [] w_LESS l_LESS h0 n0 Z0 HL_LESS) hZ (hw _ (List.mem_of_getElem? (i := 12) rfl)) (hw _ (List.mem_of_getElem? (i := 6) rfl)) (by decide) (by decide)) q43a q43c (g := (mkF m 14 #[.val (.int p0), .val (.int ((p0 &&& (2147483647 : Int32)) % (6 : Int32))), .val (.ref w_LESS), .unset, .unset, .unset] [(.ref w_LESS)])) rfl (by rw [hml]; rfl) (Steps.refl _) (argsL := []) (rest := []) (lenOf own_pd5 rfl) rfl (by show 2 * 0 + _ ≤ _; exact Nat.le_of_eq rfl) (hb hby at_14) (fun _ _ => ⟨rfl, e32, (by decide : 0 + 0 ≤ _), (by decide : 0 + 0 ≤ _)⟩)
        dsimp only [Pt.U, Pt.locs, Pt.cells, Pt.slots] at X43 l43 y43 z43 st43 hQ43
        subst l43 y43 z43
        obtain ⟨rfl, N43q, e43⟩ := hQ43
        have N43 := Fr.app N32 N43q
        obtain ⟨cq44, kq44, q44a, q44b, q44c⟩ := isOf hZ e43 EL_LESS
        obtain ⟨_, _, ⟨T44, L44, k44, n44⟩, -, X44, ⟨Lc44, hQ44, l44, y44, z44⟩, st44⟩ := X43.virtualBack hx (y := (⟨"java/lang/String", "charAt", "(I)C"⟩ : MethodName)) (z := (⟨"java/lang/String", "charAt", "(I)C"⟩ : MethodName)) hown (mvT hZ (hw _ (List.mem_of_getElem? (i := 15) rfl))) (mvT hZ (hw _ (List.mem_of_getElem? (i := 16) rfl))) (notFace_of_selects (args := #[]) (mvT hZ (hw _ (List.mem_of_getElem? (i := 18) rfl)))) (mvT hZ (hw _ (List.mem_of_getElem? (i := 18) rfl))) (mvT hZ (hw _ (List.mem_of_getElem? (i := 17) rfl))) (by decide) (backOf (W := 0) (rm_chr l Z a0' hw [] l_LESS (0 : Int32) v_LESS cl_LESS (1 : Int32) (60 : Int32) kc fm h0 n0 Z0 EL_LESS HC_LESS HV_LESS Ar_LESS hsz_LESS hnn_LESS (by decide) (by decide) hat_LESS S_cs hkc S_fm hfm) hZ (hw _ (List.mem_of_getElem? (i := 20) rfl)) (hw _ (List.mem_of_getElem? (i := 19) rfl)) (by decide) (by decide)) q44a q44c (g := (mkF m 20 #[.val (.int p0), .val (.int ((p0 &&& (2147483647 : Int32)) % (6 : Int32))), .val (.ref w_LESS), .val (.ref l_LESS), .unset, .unset] [(.int (0 : Int32)), (.ref l_LESS)])) rfl (by rw [hml]; rfl) (Steps.refl _) (argsL := [(.int (0 : Int32))]) (rest := []) (lenOf own_pd6 rfl) rfl (by show 2 * 0 + _ ≤ _; exact Nat.le_of_eq rfl) (hb hby at_20) (fun _ _ => ⟨rfl, e43, (by decide : 0 + 0 ≤ _), (by decide : 0 + 0 ≤ _)⟩)
        dsimp only [Pt.U, Pt.locs, Pt.cells, Pt.slots] at X44 l44 y44 z44 st44 hQ44
        subst l44 y44 z44
        obtain ⟨rfl, N44q, e44⟩ := hQ44
        have N44 := Fr.app N43 N44q
        have q44 : (F_chr (60 : Int32)) = (60 : Int32) := by unfold F_chr F_lchar; decide +kernel
        rw [q44] at st44
        obtain ⟨cq45, kq45, q45a, q45b, q45c⟩ := isOf hZ e44 E_LESS
        obtain ⟨_, _, ⟨T45, L45, k45, n45⟩, -, X45, ⟨Lc45, hQ45, l45, y45, z45⟩, st45⟩ := X44.virtualBack hx (y := (⟨"com/example/gard/gard/core/Condition$Operator", "orders", "()Z"⟩ : MethodName)) (z := (⟨"com/example/gard/gard/core/Condition$Operator", "orders", "()Z"⟩ : MethodName)) hown (mvT hZ (hw _ (List.mem_of_getElem? (i := 43) rfl))) (mvT hZ (hw _ (List.mem_of_getElem? (i := 44) rfl))) (notFace_of_selects (args := #[]) (mvT hZ (hw _ (List.mem_of_getElem? (i := 46) rfl)))) (mvT hZ (hw _ (List.mem_of_getElem? (i := 46) rfl))) (mvT hZ (hw _ (List.mem_of_getElem? (i := 45) rfl))) (by decide) (backOf (W := 0) (rm_ord l Z a0' hw [] w_LESS w_EQUAL w_NOT_EQUAL h0 n0 Z0 S_EQUAL S_NOT_EQUAL) hZ (hw _ (List.mem_of_getElem? (i := 47) rfl)) (hw _ (List.mem_of_getElem? (i := 6) rfl)) (by decide) (by decide)) q45a q45c (g := (mkF m 47 #[.val (.int p0), .val (.int ((p0 &&& (2147483647 : Int32)) % (6 : Int32))), .val (.ref w_LESS), .val (.ref l_LESS), .val (.int (60 : Int32)), .val (.int (1 : Int32))] [(.ref w_LESS)])) rfl (by rw [hml]; rfl) (Steps.refl _) (argsL := []) (rest := []) (lenOf own_pd2 rfl) rfl (by show 2 * 0 + _ ≤ _; exact Nat.le_of_eq rfl) (hb hby at_47) (fun _ _ => ⟨rfl, e44, (by decide : 0 + 0 ≤ _), (by decide : 0 + 0 ≤ _)⟩)
        dsimp only [Pt.U, Pt.locs, Pt.cells, Pt.slots] at X45 l45 y45 z45 st45 hQ45
        subst l45 y45 z45
        obtain ⟨rfl, N45q, e45⟩ := hQ45
        have N45 := Fr.app N44 N45q
        have q45 : (F_ord w_LESS w_EQUAL w_NOT_EQUAL) = (1 : Int32) := by rw [F_ord, if_neg ne_LESS_EQUAL, if_neg ne_LESS_NOT_EQUAL]
        rw [q45] at st45
        obtain ⟨fs, hr, hrun, hended, hW, hsame⟩ := X45.leave (v := some (.int (1 : Int32))) (fun h => by rw [Bd.returns] at h; cases h)
        refine ⟨_, _, pre33 _ ?_, hrun, hended, _, _, rfl, ?_, ⟨_, rfl⟩, hW, hsame.mono (by decide) (by decide)⟩
        · show Steps p.tables e below (s₁.setTop (mkF m 9 #[.val (.int p0), .val (.int ((p0 &&& (2147483647 : Int32)) % (6 : Int32))), .unset, .unset, .unset, .unset] [(.int ((p0 &&& (2147483647 : Int32)) % (6 : Int32)))])) _
          refine st32 _ ?_
          show Steps p.tables e below (T32.setTop (mkF m 12 #[.val (.int p0), .val (.int ((p0 &&& (2147483647 : Int32)) % (6 : Int32))), .unset, .unset, .unset, .unset] [(.ref w_LESS)])) _
          refine XS.astoreN X32.here hx rfl (hb hby at_12) rfl rfl (l' := #[.val (.int p0), .val (.int ((p0 &&& (2147483647 : Int32)) % (6 : Int32))), .val (.ref w_LESS), .unset, .unset, .unset]) rfl ?_
          show Steps p.tables e below (T32.setTop (mkF m 13 #[.val (.int p0), .val (.int ((p0 &&& (2147483647 : Int32)) % (6 : Int32))), .val (.ref w_LESS), .unset, .unset, .unset] [])) _
          refine XS.aloadN X32.here hx rfl (hb hby at_13) rfl rfl ?_
          show Steps p.tables e below (T32.setTop (mkF m 14 #[.val (.int p0), .val (.int ((p0 &&& (2147483647 : Int32)) % (6 : Int32))), .val (.ref w_LESS), .unset, .unset, .unset] [(.ref w_LESS)])) _
          refine st43.trans ?_
          show Steps p.tables e below (T43.setTop (mkF m 17 #[.val (.int p0), .val (.int ((p0 &&& (2147483647 : Int32)) % (6 : Int32))), .val (.ref w_LESS), .unset, .unset, .unset] [(.ref l_LESS)])) _
          refine XS.astoreN X43.here hx rfl (hb hby at_17) rfl rfl (l' := #[.val (.int p0), .val (.int ((p0 &&& (2147483647 : Int32)) % (6 : Int32))), .val (.ref w_LESS), .val (.ref l_LESS), .unset, .unset]) rfl ?_
          show Steps p.tables e below (T43.setTop (mkF m 18 #[.val (.int p0), .val (.int ((p0 &&& (2147483647 : Int32)) % (6 : Int32))), .val (.ref w_LESS), .val (.ref l_LESS), .unset, .unset] [])) _
          refine XS.aloadN X43.here hx rfl (hb hby at_18) rfl rfl ?_
          show Steps p.tables e below (T43.setTop (mkF m 19 #[.val (.int p0), .val (.int ((p0 &&& (2147483647 : Int32)) % (6 : Int32))), .val (.ref w_LESS), .val (.ref l_LESS), .unset, .unset] [(.ref l_LESS)])) _
          refine XS.iconst X43.here hx rfl (hb hby at_19) ?_
          show Steps p.tables e below (T43.setTop (mkF m 20 #[.val (.int p0), .val (.int ((p0 &&& (2147483647 : Int32)) % (6 : Int32))), .val (.ref w_LESS), .val (.ref l_LESS), .unset, .unset] [(.int (0 : Int32)), (.ref l_LESS)])) _
          refine st44.trans ?_
          show Steps p.tables e below (T44.setTop (mkF m 23 #[.val (.int p0), .val (.int ((p0 &&& (2147483647 : Int32)) % (6 : Int32))), .val (.ref w_LESS), .val (.ref l_LESS), .unset, .unset] [(.int (60 : Int32))])) _
          refine XS.istore X44.here hx rfl (hb hby at_23) rfl (l' := #[.val (.int p0), .val (.int ((p0 &&& (2147483647 : Int32)) % (6 : Int32))), .val (.ref w_LESS), .val (.ref l_LESS), .val (.int (60 : Int32)), .unset]) rfl ?_
          show Steps p.tables e below (T44.setTop (mkF m 25 #[.val (.int p0), .val (.int ((p0 &&& (2147483647 : Int32)) % (6 : Int32))), .val (.ref w_LESS), .val (.ref l_LESS), .val (.int (60 : Int32)), .unset] [])) _
          refine XS.iload X44.here hx rfl (hb hby at_25) rfl ?_
          show Steps p.tables e below (T44.setTop (mkF m 27 #[.val (.int p0), .val (.int ((p0 &&& (2147483647 : Int32)) % (6 : Int32))), .val (.ref w_LESS), .val (.ref l_LESS), .val (.int (60 : Int32)), .unset] [(.int (60 : Int32))])) _
          refine XS.bipush X44.here hx rfl (hb hby at_27) ?_
          show Steps p.tables e below (T44.setTop (mkF m 29 #[.val (.int p0), .val (.int ((p0 &&& (2147483647 : Int32)) % (6 : Int32))), .val (.ref w_LESS), .val (.ref l_LESS), .val (.int (60 : Int32)), .unset] [(.int (60 : Int32)), (.int (60 : Int32))])) _
          refine XS.icmpYes X44.here hx rfl (pc0 := 29) (pc' := 39) rfl (hb hby at_29) rfl (teq (by decide : (60 : Int32) = (60 : Int32))).1 (by decide) (by decide) ?_
          show Steps p.tables e below (T44.setTop (mkF m 39 #[.val (.int p0), .val (.int ((p0 &&& (2147483647 : Int32)) % (6 : Int32))), .val (.ref w_LESS), .val (.ref l_LESS), .val (.int (60 : Int32)), .unset] [])) _
          refine XS.iconst X44.here hx rfl (hb hby at_39) ?_
          show Steps p.tables e below (T44.setTop (mkF m 40 #[.val (.int p0), .val (.int ((p0 &&& (2147483647 : Int32)) % (6 : Int32))), .val (.ref w_LESS), .val (.ref l_LESS), .val (.int (60 : Int32)), .unset] [(.int (1 : Int32))])) _
          refine XS.goto X44.here hx rfl (pc0 := 40) (pc' := 44) rfl (hb hby at_40) (by decide) (by decide) ?_
          show Steps p.tables e below (T44.setTop (mkF m 44 #[.val (.int p0), .val (.int ((p0 &&& (2147483647 : Int32)) % (6 : Int32))), .val (.ref w_LESS), .val (.ref l_LESS), .val (.int (60 : Int32)), .unset] [(.int (1 : Int32))])) _
          refine XS.istore X44.here hx rfl (hb hby at_44) rfl (l' := #[.val (.int p0), .val (.int ((p0 &&& (2147483647 : Int32)) % (6 : Int32))), .val (.ref w_LESS), .val (.ref l_LESS), .val (.int (60 : Int32)), .val (.int (1 : Int32))]) rfl ?_
          show Steps p.tables e below (T44.setTop (mkF m 46 #[.val (.int p0), .val (.int ((p0 &&& (2147483647 : Int32)) % (6 : Int32))), .val (.ref w_LESS), .val (.ref l_LESS), .val (.int (60 : Int32)), .val (.int (1 : Int32))] [])) _
          refine XS.aloadN X44.here hx rfl (hb hby at_46) rfl rfl ?_
          show Steps p.tables e below (T44.setTop (mkF m 47 #[.val (.int p0), .val (.int ((p0 &&& (2147483647 : Int32)) % (6 : Int32))), .val (.ref w_LESS), .val (.ref l_LESS), .val (.int (60 : Int32)), .val (.int (1 : Int32))] [(.ref w_LESS)])) _
          refine st45.trans ?_
          show Steps p.tables e below (T45.setTop (mkF m 50 #[.val (.int p0), .val (.int ((p0 &&& (2147483647 : Int32)) % (6 : Int32))), .val (.ref w_LESS), .val (.ref l_LESS), .val (.int (60 : Int32)), .val (.int (1 : Int32))] [(.int (1 : Int32))])) _
          refine XS.iload X45.here hx rfl (hb hby at_50) rfl ?_
          show Steps p.tables e below (T45.setTop (mkF m 52 #[.val (.int p0), .val (.int ((p0 &&& (2147483647 : Int32)) % (6 : Int32))), .val (.ref w_LESS), .val (.ref l_LESS), .val (.int (60 : Int32)), .val (.int (1 : Int32))] [(.int (1 : Int32)), (.int (1 : Int32))])) _
          refine XS.icmpNo X45.here hx rfl (hb hby at_52) rfl (teq (by decide : (1 : Int32) = (1 : Int32))).2 ?_
          show Steps p.tables e below (T45.setTop (mkF m 55 #[.val (.int p0), .val (.int ((p0 &&& (2147483647 : Int32)) % (6 : Int32))), .val (.ref w_LESS), .val (.ref l_LESS), .val (.int (60 : Int32)), .val (.int (1 : Int32))] [])) _
          refine XS.iconst X45.here hx rfl (hb hby at_55) ?_
          show Steps p.tables e below (T45.setTop (mkF m 56 #[.val (.int p0), .val (.int ((p0 &&& (2147483647 : Int32)) % (6 : Int32))), .val (.ref w_LESS), .val (.ref l_LESS), .val (.int (60 : Int32)), .val (.int (1 : Int32))] [(.int (1 : Int32))])) _
          refine XS.goto X45.here hx rfl (pc0 := 56) (pc' := 60) rfl (hb hby at_56) (by decide) (by decide) ?_
          show Steps p.tables e below (T45.setTop (mkF m 60 #[.val (.int p0), .val (.int ((p0 &&& (2147483647 : Int32)) % (6 : Int32))), .val (.ref w_LESS), .val (.ref l_LESS), .val (.int (60 : Int32)), .val (.int (1 : Int32))] [(.int (1 : Int32))])) _
          exact retN X45 hx (t := .boolean) Bd.returns (by simp) (hb hby at_60) hr
        · show Q_law Z p0 w_EQUAL w_NOT_EQUAL w_LESS w_LESS_OR_EQUAL w_GREATER w_GREATER_OR_EQUAL kc fm l_EQUAL v_EQUAL cl_EQUAL l_NOT_EQUAL v_NOT_EQUAL cl_NOT_EQUAL l_LESS v_LESS cl_LESS l_LESS_OR_EQUAL v_LESS_OR_EQUAL cl_LESS_OR_EQUAL l_GREATER v_GREATER cl_GREATER l_GREATER_OR_EQUAL v_GREATER_OR_EQUAL cl_GREATER_OR_EQUAL h0 n0 _ T45.heap _
          refine ⟨?_, N45, trivial⟩
          rw [F_law, if_neg hs_34, if_neg hs_38, if_pos hs_42]
      · by_cases hs_46 : ((p0 &&& (2147483647 : Int32)) % (6 : Int32)) = (3 : Int32)
        · have q32 : (F_pick ((p0 &&& (2147483647 : Int32)) % (6 : Int32)) w_EQUAL w_NOT_EQUAL w_LESS w_LESS_OR_EQUAL w_GREATER w_GREATER_OR_EQUAL) = w_LESS_OR_EQUAL := by rw [F_pick, if_neg hs_34, if_neg hs_38, if_neg hs_42, if_pos hs_46]
          rw [q32] at st32
          obtain ⟨cq47, kq47, q47a, q47b, q47c⟩ := isOf hZ e32 E_LESS_OR_EQUAL
          obtain ⟨_, _, ⟨T47, L47, k47, n47⟩, -, X47, ⟨Lc47, hQ47, l47, y47, z47⟩, st47⟩ := X32.virtualBack hx (y := (⟨"com/example/gard/gard/core/Condition$Operator", "toString", "()Ljava/lang/String;"⟩ : MethodName)) (z := (⟨"com/example/gard/gard/core/Condition$Operator", "toString", "()Ljava/lang/String;"⟩ : MethodName)) hown (mvT hZ (hw _ (List.mem_of_getElem? (i := 8) rfl))) (mvT hZ (hw _ (List.mem_of_getElem? (i := 9) rfl))) (notFace_of_selects (args := #[]) (mvT hZ (hw _ (List.mem_of_getElem? (i := 11) rfl)))) (mvT hZ (hw _ (List.mem_of_getElem? (i := 11) rfl))) (mvT hZ (hw _ (List.mem_of_getElem? (i := 10) rfl))) (by decide) (backOf (W := 0) (rm_sym l Z a0' hw [] w_LESS_OR_EQUAL l_LESS_OR_EQUAL h0 n0 Z0 HL_LESS_OR_EQUAL) hZ (hw _ (List.mem_of_getElem? (i := 12) rfl)) (hw _ (List.mem_of_getElem? (i := 6) rfl)) (by decide) (by decide)) q47a q47c (g := (mkF m 14 #[.val (.int p0), .val (.int ((p0 &&& (2147483647 : Int32)) % (6 : Int32))), .val (.ref w_LESS_OR_EQUAL), .unset, .unset, .unset] [(.ref w_LESS_OR_EQUAL)])) rfl (by rw [hml]; rfl) (Steps.refl _) (argsL := []) (rest := []) (lenOf own_pd5 rfl) rfl (by show 2 * 0 + _ ≤ _; exact Nat.le_of_eq rfl) (hb hby at_14) (fun _ _ => ⟨rfl, e32, (by decide : 0 + 0 ≤ _), (by decide : 0 + 0 ≤ _)⟩)
          dsimp only [Pt.U, Pt.locs, Pt.cells, Pt.slots] at X47 l47 y47 z47 st47 hQ47
          subst l47 y47 z47
          obtain ⟨rfl, N47q, e47⟩ := hQ47
          have N47 := Fr.app N32 N47q
          obtain ⟨cq48, kq48, q48a, q48b, q48c⟩ := isOf hZ e47 EL_LESS_OR_EQUAL
          obtain ⟨_, _, ⟨T48, L48, k48, n48⟩, -, X48, ⟨Lc48, hQ48, l48, y48, z48⟩, st48⟩ := X47.virtualBack hx (y := (⟨"java/lang/String", "charAt", "(I)C"⟩ : MethodName)) (z := (⟨"java/lang/String", "charAt", "(I)C"⟩ : MethodName)) hown (mvT hZ (hw _ (List.mem_of_getElem? (i := 15) rfl))) (mvT hZ (hw _ (List.mem_of_getElem? (i := 16) rfl))) (notFace_of_selects (args := #[]) (mvT hZ (hw _ (List.mem_of_getElem? (i := 18) rfl)))) (mvT hZ (hw _ (List.mem_of_getElem? (i := 18) rfl))) (mvT hZ (hw _ (List.mem_of_getElem? (i := 17) rfl))) (by decide) (backOf (W := 0) (rm_chr l Z a0' hw [] l_LESS_OR_EQUAL (0 : Int32) v_LESS_OR_EQUAL cl_LESS_OR_EQUAL (2 : Int32) (60 : Int32) kc fm h0 n0 Z0 EL_LESS_OR_EQUAL HC_LESS_OR_EQUAL HV_LESS_OR_EQUAL Ar_LESS_OR_EQUAL hsz_LESS_OR_EQUAL hnn_LESS_OR_EQUAL (by decide) (by decide) hat_LESS_OR_EQUAL S_cs hkc S_fm hfm) hZ (hw _ (List.mem_of_getElem? (i := 20) rfl)) (hw _ (List.mem_of_getElem? (i := 19) rfl)) (by decide) (by decide)) q48a q48c (g := (mkF m 20 #[.val (.int p0), .val (.int ((p0 &&& (2147483647 : Int32)) % (6 : Int32))), .val (.ref w_LESS_OR_EQUAL), .val (.ref l_LESS_OR_EQUAL), .unset, .unset] [(.int (0 : Int32)), (.ref l_LESS_OR_EQUAL)])) rfl (by rw [hml]; rfl) (Steps.refl _) (argsL := [(.int (0 : Int32))]) (rest := []) (lenOf own_pd6 rfl) rfl (by show 2 * 0 + _ ≤ _; exact Nat.le_of_eq rfl) (hb hby at_20) (fun _ _ => ⟨rfl, e47, (by decide : 0 + 0 ≤ _), (by decide : 0 + 0 ≤ _)⟩)
          dsimp only [Pt.U, Pt.locs, Pt.cells, Pt.slots] at X48 l48 y48 z48 st48 hQ48
          subst l48 y48 z48
          obtain ⟨rfl, N48q, e48⟩ := hQ48
          have N48 := Fr.app N47 N48q
          have q48 : (F_chr (60 : Int32)) = (60 : Int32) := by unfold F_chr F_lchar; decide +kernel
          rw [q48] at st48
          obtain ⟨cq49, kq49, q49a, q49b, q49c⟩ := isOf hZ e48 E_LESS_OR_EQUAL
          obtain ⟨_, _, ⟨T49, L49, k49, n49⟩, -, X49, ⟨Lc49, hQ49, l49, y49, z49⟩, st49⟩ := X48.virtualBack hx (y := (⟨"com/example/gard/gard/core/Condition$Operator", "orders", "()Z"⟩ : MethodName)) (z := (⟨"com/example/gard/gard/core/Condition$Operator", "orders", "()Z"⟩ : MethodName)) hown (mvT hZ (hw _ (List.mem_of_getElem? (i := 43) rfl))) (mvT hZ (hw _ (List.mem_of_getElem? (i := 44) rfl))) (notFace_of_selects (args := #[]) (mvT hZ (hw _ (List.mem_of_getElem? (i := 46) rfl)))) (mvT hZ (hw _ (List.mem_of_getElem? (i := 46) rfl))) (mvT hZ (hw _ (List.mem_of_getElem? (i := 45) rfl))) (by decide) (backOf (W := 0) (rm_ord l Z a0' hw [] w_LESS_OR_EQUAL w_EQUAL w_NOT_EQUAL h0 n0 Z0 S_EQUAL S_NOT_EQUAL) hZ (hw _ (List.mem_of_getElem? (i := 47) rfl)) (hw _ (List.mem_of_getElem? (i := 6) rfl)) (by decide) (by decide)) q49a q49c (g := (mkF m 47 #[.val (.int p0), .val (.int ((p0 &&& (2147483647 : Int32)) % (6 : Int32))), .val (.ref w_LESS_OR_EQUAL), .val (.ref l_LESS_OR_EQUAL), .val (.int (60 : Int32)), .val (.int (1 : Int32))] [(.ref w_LESS_OR_EQUAL)])) rfl (by rw [hml]; rfl) (Steps.refl _) (argsL := []) (rest := []) (lenOf own_pd2 rfl) rfl (by show 2 * 0 + _ ≤ _; exact Nat.le_of_eq rfl) (hb hby at_47) (fun _ _ => ⟨rfl, e48, (by decide : 0 + 0 ≤ _), (by decide : 0 + 0 ≤ _)⟩)
          dsimp only [Pt.U, Pt.locs, Pt.cells, Pt.slots] at X49 l49 y49 z49 st49 hQ49
          subst l49 y49 z49
          obtain ⟨rfl, N49q, e49⟩ := hQ49
          have N49 := Fr.app N48 N49q
          have q49 : (F_ord w_LESS_OR_EQUAL w_EQUAL w_NOT_EQUAL) = (1 : Int32) := by rw [F_ord, if_neg ne_LESS_OR_EQUAL_EQUAL, if_neg ne_LESS_OR_EQUAL_NOT_EQUAL]
          rw [q49] at st49
          obtain ⟨fs, hr, hrun, hended, hW, hsame⟩ := X49.leave (v := some (.int (1 : Int32))) (fun h => by rw [Bd.returns] at h; cases h)
          refine ⟨_, _, pre33 _ ?_, hrun, hended, _, _, rfl, ?_, ⟨_, rfl⟩, hW, hsame.mono (by decide) (by decide)⟩
          · show Steps p.tables e below (s₁.setTop (mkF m 9 #[.val (.int p0), .val (.int ((p0 &&& (2147483647 : Int32)) % (6 : Int32))), .unset, .unset, .unset, .unset] [(.int ((p0 &&& (2147483647 : Int32)) % (6 : Int32)))])) _
            refine st32 _ ?_
            show Steps p.tables e below (T32.setTop (mkF m 12 #[.val (.int p0), .val (.int ((p0 &&& (2147483647 : Int32)) % (6 : Int32))), .unset, .unset, .unset, .unset] [(.ref w_LESS_OR_EQUAL)])) _
            refine XS.astoreN X32.here hx rfl (hb hby at_12) rfl rfl (l' := #[.val (.int p0), .val (.int ((p0 &&& (2147483647 : Int32)) % (6 : Int32))), .val (.ref w_LESS_OR_EQUAL), .unset, .unset, .unset]) rfl ?_
            show Steps p.tables e below (T32.setTop (mkF m 13 #[.val (.int p0), .val (.int ((p0 &&& (2147483647 : Int32)) % (6 : Int32))), .val (.ref w_LESS_OR_EQUAL), .unset, .unset, .unset] [])) _
            refine XS.aloadN X32.here hx rfl (hb hby at_13) rfl rfl ?_
            show Steps p.tables e below (T32.setTop (mkF m 14 #[.val (.int p0), .val (.int ((p0 &&& (2147483647 : Int32)) % (6 : Int32))), .val (.ref w_LESS_OR_EQUAL), .unset, .unset, .unset] [(.ref w_LESS_OR_EQUAL)])) _
            refine st47.trans ?_
            show Steps p.tables e below (T47.setTop (mkF m 17 #[.val (.int p0), .val (.int ((p0 &&& (2147483647 : Int32)) % (6 : Int32))), .val (.ref w_LESS_OR_EQUAL), .unset, .unset, .unset] [(.ref l_LESS_OR_EQUAL)])) _
            refine XS.astoreN X47.here hx rfl (hb hby at_17) rfl rfl (l' := #[.val (.int p0), .val (.int ((p0 &&& (2147483647 : Int32)) % (6 : Int32))), .val (.ref w_LESS_OR_EQUAL), .val (.ref l_LESS_OR_EQUAL), .unset, .unset]) rfl ?_
            show Steps p.tables e below (T47.setTop (mkF m 18 #[.val (.int p0), .val (.int ((p0 &&& (2147483647 : Int32)) % (6 : Int32))), .val (.ref w_LESS_OR_EQUAL), .val (.ref l_LESS_OR_EQUAL), .unset, .unset] [])) _
            refine XS.aloadN X47.here hx rfl (hb hby at_18) rfl rfl ?_
            show Steps p.tables e below (T47.setTop (mkF m 19 #[.val (.int p0), .val (.int ((p0 &&& (2147483647 : Int32)) % (6 : Int32))), .val (.ref w_LESS_OR_EQUAL), .val (.ref l_LESS_OR_EQUAL), .unset, .unset] [(.ref l_LESS_OR_EQUAL)])) _
            refine XS.iconst X47.here hx rfl (hb hby at_19) ?_
            show Steps p.tables e below (T47.setTop (mkF m 20 #[.val (.int p0), .val (.int ((p0 &&& (2147483647 : Int32)) % (6 : Int32))), .val (.ref w_LESS_OR_EQUAL), .val (.ref l_LESS_OR_EQUAL), .unset, .unset] [(.int (0 : Int32)), (.ref l_LESS_OR_EQUAL)])) _
            refine st48.trans ?_
            show Steps p.tables e below (T48.setTop (mkF m 23 #[.val (.int p0), .val (.int ((p0 &&& (2147483647 : Int32)) % (6 : Int32))), .val (.ref w_LESS_OR_EQUAL), .val (.ref l_LESS_OR_EQUAL), .unset, .unset] [(.int (60 : Int32))])) _
            refine XS.istore X48.here hx rfl (hb hby at_23) rfl (l' := #[.val (.int p0), .val (.int ((p0 &&& (2147483647 : Int32)) % (6 : Int32))), .val (.ref w_LESS_OR_EQUAL), .val (.ref l_LESS_OR_EQUAL), .val (.int (60 : Int32)), .unset]) rfl ?_
            show Steps p.tables e below (T48.setTop (mkF m 25 #[.val (.int p0), .val (.int ((p0 &&& (2147483647 : Int32)) % (6 : Int32))), .val (.ref w_LESS_OR_EQUAL), .val (.ref l_LESS_OR_EQUAL), .val (.int (60 : Int32)), .unset] [])) _
            refine XS.iload X48.here hx rfl (hb hby at_25) rfl ?_
            show Steps p.tables e below (T48.setTop (mkF m 27 #[.val (.int p0), .val (.int ((p0 &&& (2147483647 : Int32)) % (6 : Int32))), .val (.ref w_LESS_OR_EQUAL), .val (.ref l_LESS_OR_EQUAL), .val (.int (60 : Int32)), .unset] [(.int (60 : Int32))])) _
            refine XS.bipush X48.here hx rfl (hb hby at_27) ?_
            show Steps p.tables e below (T48.setTop (mkF m 29 #[.val (.int p0), .val (.int ((p0 &&& (2147483647 : Int32)) % (6 : Int32))), .val (.ref w_LESS_OR_EQUAL), .val (.ref l_LESS_OR_EQUAL), .val (.int (60 : Int32)), .unset] [(.int (60 : Int32)), (.int (60 : Int32))])) _
            refine XS.icmpYes X48.here hx rfl (pc0 := 29) (pc' := 39) rfl (hb hby at_29) rfl (teq (by decide : (60 : Int32) = (60 : Int32))).1 (by decide) (by decide) ?_
            show Steps p.tables e below (T48.setTop (mkF m 39 #[.val (.int p0), .val (.int ((p0 &&& (2147483647 : Int32)) % (6 : Int32))), .val (.ref w_LESS_OR_EQUAL), .val (.ref l_LESS_OR_EQUAL), .val (.int (60 : Int32)), .unset] [])) _
            refine XS.iconst X48.here hx rfl (hb hby at_39) ?_
            show Steps p.tables e below (T48.setTop (mkF m 40 #[.val (.int p0), .val (.int ((p0 &&& (2147483647 : Int32)) % (6 : Int32))), .val (.ref w_LESS_OR_EQUAL), .val (.ref l_LESS_OR_EQUAL), .val (.int (60 : Int32)), .unset] [(.int (1 : Int32))])) _
            refine XS.goto X48.here hx rfl (pc0 := 40) (pc' := 44) rfl (hb hby at_40) (by decide) (by decide) ?_
            show Steps p.tables e below (T48.setTop (mkF m 44 #[.val (.int p0), .val (.int ((p0 &&& (2147483647 : Int32)) % (6 : Int32))), .val (.ref w_LESS_OR_EQUAL), .val (.ref l_LESS_OR_EQUAL), .val (.int (60 : Int32)), .unset] [(.int (1 : Int32))])) _
            refine XS.istore X48.here hx rfl (hb hby at_44) rfl (l' := #[.val (.int p0), .val (.int ((p0 &&& (2147483647 : Int32)) % (6 : Int32))), .val (.ref w_LESS_OR_EQUAL), .val (.ref l_LESS_OR_EQUAL), .val (.int (60 : Int32)), .val (.int (1 : Int32))]) rfl ?_
            show Steps p.tables e below (T48.setTop (mkF m 46 #[.val (.int p0), .val (.int ((p0 &&& (2147483647 : Int32)) % (6 : Int32))), .val (.ref w_LESS_OR_EQUAL), .val (.ref l_LESS_OR_EQUAL), .val (.int (60 : Int32)), .val (.int (1 : Int32))] [])) _
            refine XS.aloadN X48.here hx rfl (hb hby at_46) rfl rfl ?_
            show Steps p.tables e below (T48.setTop (mkF m 47 #[.val (.int p0), .val (.int ((p0 &&& (2147483647 : Int32)) % (6 : Int32))), .val (.ref w_LESS_OR_EQUAL), .val (.ref l_LESS_OR_EQUAL), .val (.int (60 : Int32)), .val (.int (1 : Int32))] [(.ref w_LESS_OR_EQUAL)])) _
            refine st49.trans ?_
            show Steps p.tables e below (T49.setTop (mkF m 50 #[.val (.int p0), .val (.int ((p0 &&& (2147483647 : Int32)) % (6 : Int32))), .val (.ref w_LESS_OR_EQUAL), .val (.ref l_LESS_OR_EQUAL), .val (.int (60 : Int32)), .val (.int (1 : Int32))] [(.int (1 : Int32))])) _
            refine XS.iload X49.here hx rfl (hb hby at_50) rfl ?_
            show Steps p.tables e below (T49.setTop (mkF m 52 #[.val (.int p0), .val (.int ((p0 &&& (2147483647 : Int32)) % (6 : Int32))), .val (.ref w_LESS_OR_EQUAL), .val (.ref l_LESS_OR_EQUAL), .val (.int (60 : Int32)), .val (.int (1 : Int32))] [(.int (1 : Int32)), (.int (1 : Int32))])) _
            refine XS.icmpNo X49.here hx rfl (hb hby at_52) rfl (teq (by decide : (1 : Int32) = (1 : Int32))).2 ?_
            show Steps p.tables e below (T49.setTop (mkF m 55 #[.val (.int p0), .val (.int ((p0 &&& (2147483647 : Int32)) % (6 : Int32))), .val (.ref w_LESS_OR_EQUAL), .val (.ref l_LESS_OR_EQUAL), .val (.int (60 : Int32)), .val (.int (1 : Int32))] [])) _
            refine XS.iconst X49.here hx rfl (hb hby at_55) ?_
            show Steps p.tables e below (T49.setTop (mkF m 56 #[.val (.int p0), .val (.int ((p0 &&& (2147483647 : Int32)) % (6 : Int32))), .val (.ref w_LESS_OR_EQUAL), .val (.ref l_LESS_OR_EQUAL), .val (.int (60 : Int32)), .val (.int (1 : Int32))] [(.int (1 : Int32))])) _
            refine XS.goto X49.here hx rfl (pc0 := 56) (pc' := 60) rfl (hb hby at_56) (by decide) (by decide) ?_
            show Steps p.tables e below (T49.setTop (mkF m 60 #[.val (.int p0), .val (.int ((p0 &&& (2147483647 : Int32)) % (6 : Int32))), .val (.ref w_LESS_OR_EQUAL), .val (.ref l_LESS_OR_EQUAL), .val (.int (60 : Int32)), .val (.int (1 : Int32))] [(.int (1 : Int32))])) _
            exact retN X49 hx (t := .boolean) Bd.returns (by simp) (hb hby at_60) hr
          · show Q_law Z p0 w_EQUAL w_NOT_EQUAL w_LESS w_LESS_OR_EQUAL w_GREATER w_GREATER_OR_EQUAL kc fm l_EQUAL v_EQUAL cl_EQUAL l_NOT_EQUAL v_NOT_EQUAL cl_NOT_EQUAL l_LESS v_LESS cl_LESS l_LESS_OR_EQUAL v_LESS_OR_EQUAL cl_LESS_OR_EQUAL l_GREATER v_GREATER cl_GREATER l_GREATER_OR_EQUAL v_GREATER_OR_EQUAL cl_GREATER_OR_EQUAL h0 n0 _ T49.heap _
            refine ⟨?_, N49, trivial⟩
            rw [F_law, if_neg hs_34, if_neg hs_38, if_neg hs_42, if_pos hs_46]
        · by_cases hs_50 : ((p0 &&& (2147483647 : Int32)) % (6 : Int32)) = (4 : Int32)
          · have q32 : (F_pick ((p0 &&& (2147483647 : Int32)) % (6 : Int32)) w_EQUAL w_NOT_EQUAL w_LESS w_LESS_OR_EQUAL w_GREATER w_GREATER_OR_EQUAL) = w_GREATER := by rw [F_pick, if_neg hs_34, if_neg hs_38, if_neg hs_42, if_neg hs_46, if_pos hs_50]
            rw [q32] at st32
            obtain ⟨cq51, kq51, q51a, q51b, q51c⟩ := isOf hZ e32 E_GREATER
            obtain ⟨_, _, ⟨T51, L51, k51, n51⟩, -, X51, ⟨Lc51, hQ51, l51, y51, z51⟩, st51⟩ := X32.virtualBack hx (y := (⟨"com/example/gard/gard/core/Condition$Operator", "toString", "()Ljava/lang/String;"⟩ : MethodName)) (z := (⟨"com/example/gard/gard/core/Condition$Operator", "toString", "()Ljava/lang/String;"⟩ : MethodName)) hown (mvT hZ (hw _ (List.mem_of_getElem? (i := 8) rfl))) (mvT hZ (hw _ (List.mem_of_getElem? (i := 9) rfl))) (notFace_of_selects (args := #[]) (mvT hZ (hw _ (List.mem_of_getElem? (i := 11) rfl)))) (mvT hZ (hw _ (List.mem_of_getElem? (i := 11) rfl))) (mvT hZ (hw _ (List.mem_of_getElem? (i := 10) rfl))) (by decide) (backOf (W := 0) (rm_sym l Z a0' hw [] w_GREATER l_GREATER h0 n0 Z0 HL_GREATER) hZ (hw _ (List.mem_of_getElem? (i := 12) rfl)) (hw _ (List.mem_of_getElem? (i := 6) rfl)) (by decide) (by decide)) q51a q51c (g := (mkF m 14 #[.val (.int p0), .val (.int ((p0 &&& (2147483647 : Int32)) % (6 : Int32))), .val (.ref w_GREATER), .unset, .unset, .unset] [(.ref w_GREATER)])) rfl (by rw [hml]; rfl) (Steps.refl _) (argsL := []) (rest := []) (lenOf own_pd5 rfl) rfl (by show 2 * 0 + _ ≤ _; exact Nat.le_of_eq rfl) (hb hby at_14) (fun _ _ => ⟨rfl, e32, (by decide : 0 + 0 ≤ _), (by decide : 0 + 0 ≤ _)⟩)
            dsimp only [Pt.U, Pt.locs, Pt.cells, Pt.slots] at X51 l51 y51 z51 st51 hQ51
            subst l51 y51 z51
            obtain ⟨rfl, N51q, e51⟩ := hQ51
            have N51 := Fr.app N32 N51q
            obtain ⟨cq52, kq52, q52a, q52b, q52c⟩ := isOf hZ e51 EL_GREATER
            obtain ⟨_, _, ⟨T52, L52, k52, n52⟩, -, X52, ⟨Lc52, hQ52, l52, y52, z52⟩, st52⟩ := X51.virtualBack hx (y := (⟨"java/lang/String", "charAt", "(I)C"⟩ : MethodName)) (z := (⟨"java/lang/String", "charAt", "(I)C"⟩ : MethodName)) hown (mvT hZ (hw _ (List.mem_of_getElem? (i := 15) rfl))) (mvT hZ (hw _ (List.mem_of_getElem? (i := 16) rfl))) (notFace_of_selects (args := #[]) (mvT hZ (hw _ (List.mem_of_getElem? (i := 18) rfl)))) (mvT hZ (hw _ (List.mem_of_getElem? (i := 18) rfl))) (mvT hZ (hw _ (List.mem_of_getElem? (i := 17) rfl))) (by decide) (backOf (W := 0) (rm_chr l Z a0' hw [] l_GREATER (0 : Int32) v_GREATER cl_GREATER (1 : Int32) (62 : Int32) kc fm h0 n0 Z0 EL_GREATER HC_GREATER HV_GREATER Ar_GREATER hsz_GREATER hnn_GREATER (by decide) (by decide) hat_GREATER S_cs hkc S_fm hfm) hZ (hw _ (List.mem_of_getElem? (i := 20) rfl)) (hw _ (List.mem_of_getElem? (i := 19) rfl)) (by decide) (by decide)) q52a q52c (g := (mkF m 20 #[.val (.int p0), .val (.int ((p0 &&& (2147483647 : Int32)) % (6 : Int32))), .val (.ref w_GREATER), .val (.ref l_GREATER), .unset, .unset] [(.int (0 : Int32)), (.ref l_GREATER)])) rfl (by rw [hml]; rfl) (Steps.refl _) (argsL := [(.int (0 : Int32))]) (rest := []) (lenOf own_pd6 rfl) rfl (by show 2 * 0 + _ ≤ _; exact Nat.le_of_eq rfl) (hb hby at_20) (fun _ _ => ⟨rfl, e51, (by decide : 0 + 0 ≤ _), (by decide : 0 + 0 ≤ _)⟩)
            dsimp only [Pt.U, Pt.locs, Pt.cells, Pt.slots] at X52 l52 y52 z52 st52 hQ52
            subst l52 y52 z52
            obtain ⟨rfl, N52q, e52⟩ := hQ52
            have N52 := Fr.app N51 N52q
            have q52 : (F_chr (62 : Int32)) = (62 : Int32) := by unfold F_chr F_lchar; decide +kernel
            rw [q52] at st52
            obtain ⟨cq53, kq53, q53a, q53b, q53c⟩ := isOf hZ e52 E_GREATER
            obtain ⟨_, _, ⟨T53, L53, k53, n53⟩, -, X53, ⟨Lc53, hQ53, l53, y53, z53⟩, st53⟩ := X52.virtualBack hx (y := (⟨"com/example/gard/gard/core/Condition$Operator", "orders", "()Z"⟩ : MethodName)) (z := (⟨"com/example/gard/gard/core/Condition$Operator", "orders", "()Z"⟩ : MethodName)) hown (mvT hZ (hw _ (List.mem_of_getElem? (i := 43) rfl))) (mvT hZ (hw _ (List.mem_of_getElem? (i := 44) rfl))) (notFace_of_selects (args := #[]) (mvT hZ (hw _ (List.mem_of_getElem? (i := 46) rfl)))) (mvT hZ (hw _ (List.mem_of_getElem? (i := 46) rfl))) (mvT hZ (hw _ (List.mem_of_getElem? (i := 45) rfl))) (by decide) (backOf (W := 0) (rm_ord l Z a0' hw [] w_GREATER w_EQUAL w_NOT_EQUAL h0 n0 Z0 S_EQUAL S_NOT_EQUAL) hZ (hw _ (List.mem_of_getElem? (i := 47) rfl)) (hw _ (List.mem_of_getElem? (i := 6) rfl)) (by decide) (by decide)) q53a q53c (g := (mkF m 47 #[.val (.int p0), .val (.int ((p0 &&& (2147483647 : Int32)) % (6 : Int32))), .val (.ref w_GREATER), .val (.ref l_GREATER), .val (.int (62 : Int32)), .val (.int (1 : Int32))] [(.ref w_GREATER)])) rfl (by rw [hml]; rfl) (Steps.refl _) (argsL := []) (rest := []) (lenOf own_pd2 rfl) rfl (by show 2 * 0 + _ ≤ _; exact Nat.le_of_eq rfl) (hb hby at_47) (fun _ _ => ⟨rfl, e52, (by decide : 0 + 0 ≤ _), (by decide : 0 + 0 ≤ _)⟩)
            dsimp only [Pt.U, Pt.locs, Pt.cells, Pt.slots] at X53 l53 y53 z53 st53 hQ53
            subst l53 y53 z53
            obtain ⟨rfl, N53q, e53⟩ := hQ53
            have N53 := Fr.app N52 N53q
            have q53 : (F_ord w_GREATER w_EQUAL w_NOT_EQUAL) = (1 : Int32) := by rw [F_ord, if_neg ne_GREATER_EQUAL, if_neg ne_GREATER_NOT_EQUAL]
            rw [q53] at st53
            obtain ⟨fs, hr, hrun, hended, hW, hsame⟩ := X53.leave (v := some (.int (1 : Int32))) (fun h => by rw [Bd.returns] at h; cases h)
            refine ⟨_, _, pre33 _ ?_, hrun, hended, _, _, rfl, ?_, ⟨_, rfl⟩, hW, hsame.mono (by decide) (by decide)⟩
            · show Steps p.tables e below (s₁.setTop (mkF m 9 #[.val (.int p0), .val (.int ((p0 &&& (2147483647 : Int32)) % (6 : Int32))), .unset, .unset, .unset, .unset] [(.int ((p0 &&& (2147483647 : Int32)) % (6 : Int32)))])) _
              refine st32 _ ?_
              show Steps p.tables e below (T32.setTop (mkF m 12 #[.val (.int p0), .val (.int ((p0 &&& (2147483647 : Int32)) % (6 : Int32))), .unset, .unset, .unset, .unset] [(.ref w_GREATER)])) _
              refine XS.astoreN X32.here hx rfl (hb hby at_12) rfl rfl (l' := #[.val (.int p0), .val (.int ((p0 &&& (2147483647 : Int32)) % (6 : Int32))), .val (.ref w_GREATER), .unset, .unset, .unset]) rfl ?_
              show Steps p.tables e below (T32.setTop (mkF m 13 #[.val (.int p0), .val (.int ((p0 &&& (2147483647 : Int32)) % (6 : Int32))), .val (.ref w_GREATER), .unset, .unset, .unset] [])) _
              refine XS.aloadN X32.here hx rfl (hb hby at_13) rfl rfl ?_
              show Steps p.tables e below (T32.setTop (mkF m 14 #[.val (.int p0), .val (.int ((p0 &&& (2147483647 : Int32)) % (6 : Int32))), .val (.ref w_GREATER), .unset, .unset, .unset] [(.ref w_GREATER)])) _
              refine st51.trans ?_
              show Steps p.tables e below (T51.setTop (mkF m 17 #[.val (.int p0), .val (.int ((p0 &&& (2147483647 : Int32)) % (6 : Int32))), .val (.ref w_GREATER), .unset, .unset, .unset] [(.ref l_GREATER)])) _
              refine XS.astoreN X51.here hx rfl (hb hby at_17) rfl rfl (l' := #[.val (.int p0), .val (.int ((p0 &&& (2147483647 : Int32)) % (6 : Int32))), .val (.ref w_GREATER), .val (.ref l_GREATER), .unset, .unset]) rfl ?_
              show Steps p.tables e below (T51.setTop (mkF m 18 #[.val (.int p0), .val (.int ((p0 &&& (2147483647 : Int32)) % (6 : Int32))), .val (.ref w_GREATER), .val (.ref l_GREATER), .unset, .unset] [])) _
              refine XS.aloadN X51.here hx rfl (hb hby at_18) rfl rfl ?_
              show Steps p.tables e below (T51.setTop (mkF m 19 #[.val (.int p0), .val (.int ((p0 &&& (2147483647 : Int32)) % (6 : Int32))), .val (.ref w_GREATER), .val (.ref l_GREATER), .unset, .unset] [(.ref l_GREATER)])) _
              refine XS.iconst X51.here hx rfl (hb hby at_19) ?_
              show Steps p.tables e below (T51.setTop (mkF m 20 #[.val (.int p0), .val (.int ((p0 &&& (2147483647 : Int32)) % (6 : Int32))), .val (.ref w_GREATER), .val (.ref l_GREATER), .unset, .unset] [(.int (0 : Int32)), (.ref l_GREATER)])) _
              refine st52.trans ?_
              show Steps p.tables e below (T52.setTop (mkF m 23 #[.val (.int p0), .val (.int ((p0 &&& (2147483647 : Int32)) % (6 : Int32))), .val (.ref w_GREATER), .val (.ref l_GREATER), .unset, .unset] [(.int (62 : Int32))])) _
              refine XS.istore X52.here hx rfl (hb hby at_23) rfl (l' := #[.val (.int p0), .val (.int ((p0 &&& (2147483647 : Int32)) % (6 : Int32))), .val (.ref w_GREATER), .val (.ref l_GREATER), .val (.int (62 : Int32)), .unset]) rfl ?_
              show Steps p.tables e below (T52.setTop (mkF m 25 #[.val (.int p0), .val (.int ((p0 &&& (2147483647 : Int32)) % (6 : Int32))), .val (.ref w_GREATER), .val (.ref l_GREATER), .val (.int (62 : Int32)), .unset] [])) _
              refine XS.iload X52.here hx rfl (hb hby at_25) rfl ?_
              show Steps p.tables e below (T52.setTop (mkF m 27 #[.val (.int p0), .val (.int ((p0 &&& (2147483647 : Int32)) % (6 : Int32))), .val (.ref w_GREATER), .val (.ref l_GREATER), .val (.int (62 : Int32)), .unset] [(.int (62 : Int32))])) _
              refine XS.bipush X52.here hx rfl (hb hby at_27) ?_
              show Steps p.tables e below (T52.setTop (mkF m 29 #[.val (.int p0), .val (.int ((p0 &&& (2147483647 : Int32)) % (6 : Int32))), .val (.ref w_GREATER), .val (.ref l_GREATER), .val (.int (62 : Int32)), .unset] [(.int (60 : Int32)), (.int (62 : Int32))])) _
              refine XS.icmpNo X52.here hx rfl (hb hby at_29) rfl (feq (by decide : ¬ ((62 : Int32) = (60 : Int32)))).1 ?_
              show Steps p.tables e below (T52.setTop (mkF m 32 #[.val (.int p0), .val (.int ((p0 &&& (2147483647 : Int32)) % (6 : Int32))), .val (.ref w_GREATER), .val (.ref l_GREATER), .val (.int (62 : Int32)), .unset] [])) _
              refine XS.iload X52.here hx rfl (hb hby at_32) rfl ?_
              show Steps p.tables e below (T52.setTop (mkF m 34 #[.val (.int p0), .val (.int ((p0 &&& (2147483647 : Int32)) % (6 : Int32))), .val (.ref w_GREATER), .val (.ref l_GREATER), .val (.int (62 : Int32)), .unset] [(.int (62 : Int32))])) _
              refine XS.bipush X52.here hx rfl (hb hby at_34) ?_
              show Steps p.tables e below (T52.setTop (mkF m 36 #[.val (.int p0), .val (.int ((p0 &&& (2147483647 : Int32)) % (6 : Int32))), .val (.ref w_GREATER), .val (.ref l_GREATER), .val (.int (62 : Int32)), .unset] [(.int (62 : Int32)), (.int (62 : Int32))])) _
              refine XS.icmpNo X52.here hx rfl (hb hby at_36) rfl (teq (by decide : (62 : Int32) = (62 : Int32))).2 ?_
              show Steps p.tables e below (T52.setTop (mkF m 39 #[.val (.int p0), .val (.int ((p0 &&& (2147483647 : Int32)) % (6 : Int32))), .val (.ref w_GREATER), .val (.ref l_GREATER), .val (.int (62 : Int32)), .unset] [])) _
              refine XS.iconst X52.here hx rfl (hb hby at_39) ?_
              show Steps p.tables e below (T52.setTop (mkF m 40 #[.val (.int p0), .val (.int ((p0 &&& (2147483647 : Int32)) % (6 : Int32))), .val (.ref w_GREATER), .val (.ref l_GREATER), .val (.int (62 : Int32)), .unset] [(.int (1 : Int32))])) _
              refine XS.goto X52.here hx rfl (pc0 := 40) (pc' := 44) rfl (hb hby at_40) (by decide) (by decide) ?_
              show Steps p.tables e below (T52.setTop (mkF m 44 #[.val (.int p0), .val (.int ((p0 &&& (2147483647 : Int32)) % (6 : Int32))), .val (.ref w_GREATER), .val (.ref l_GREATER), .val (.int (62 : Int32)), .unset] [(.int (1 : Int32))])) _
              refine XS.istore X52.here hx rfl (hb hby at_44) rfl (l' := #[.val (.int p0), .val (.int ((p0 &&& (2147483647 : Int32)) % (6 : Int32))), .val (.ref w_GREATER), .val (.ref l_GREATER), .val (.int (62 : Int32)), .val (.int (1 : Int32))]) rfl ?_
              show Steps p.tables e below (T52.setTop (mkF m 46 #[.val (.int p0), .val (.int ((p0 &&& (2147483647 : Int32)) % (6 : Int32))), .val (.ref w_GREATER), .val (.ref l_GREATER), .val (.int (62 : Int32)), .val (.int (1 : Int32))] [])) _
              refine XS.aloadN X52.here hx rfl (hb hby at_46) rfl rfl ?_
              show Steps p.tables e below (T52.setTop (mkF m 47 #[.val (.int p0), .val (.int ((p0 &&& (2147483647 : Int32)) % (6 : Int32))), .val (.ref w_GREATER), .val (.ref l_GREATER), .val (.int (62 : Int32)), .val (.int (1 : Int32))] [(.ref w_GREATER)])) _
              refine st53.trans ?_
              show Steps p.tables e below (T53.setTop (mkF m 50 #[.val (.int p0), .val (.int ((p0 &&& (2147483647 : Int32)) % (6 : Int32))), .val (.ref w_GREATER), .val (.ref l_GREATER), .val (.int (62 : Int32)), .val (.int (1 : Int32))] [(.int (1 : Int32))])) _
              refine XS.iload X53.here hx rfl (hb hby at_50) rfl ?_
              show Steps p.tables e below (T53.setTop (mkF m 52 #[.val (.int p0), .val (.int ((p0 &&& (2147483647 : Int32)) % (6 : Int32))), .val (.ref w_GREATER), .val (.ref l_GREATER), .val (.int (62 : Int32)), .val (.int (1 : Int32))] [(.int (1 : Int32)), (.int (1 : Int32))])) _
              refine XS.icmpNo X53.here hx rfl (hb hby at_52) rfl (teq (by decide : (1 : Int32) = (1 : Int32))).2 ?_
              show Steps p.tables e below (T53.setTop (mkF m 55 #[.val (.int p0), .val (.int ((p0 &&& (2147483647 : Int32)) % (6 : Int32))), .val (.ref w_GREATER), .val (.ref l_GREATER), .val (.int (62 : Int32)), .val (.int (1 : Int32))] [])) _
              refine XS.iconst X53.here hx rfl (hb hby at_55) ?_
              show Steps p.tables e below (T53.setTop (mkF m 56 #[.val (.int p0), .val (.int ((p0 &&& (2147483647 : Int32)) % (6 : Int32))), .val (.ref w_GREATER), .val (.ref l_GREATER), .val (.int (62 : Int32)), .val (.int (1 : Int32))] [(.int (1 : Int32))])) _
              refine XS.goto X53.here hx rfl (pc0 := 56) (pc' := 60) rfl (hb hby at_56) (by decide) (by decide) ?_
              show Steps p.tables e below (T53.setTop (mkF m 60 #[.val (.int p0), .val (.int ((p0 &&& (2147483647 : Int32)) % (6 : Int32))), .val (.ref w_GREATER), .val (.ref l_GREATER), .val (.int (62 : Int32)), .val (.int (1 : Int32))] [(.int (1 : Int32))])) _
              exact retN X53 hx (t := .boolean) Bd.returns (by simp) (hb hby at_60) hr
            · show Q_law Z p0 w_EQUAL w_NOT_EQUAL w_LESS w_LESS_OR_EQUAL w_GREATER w_GREATER_OR_EQUAL kc fm l_EQUAL v_EQUAL cl_EQUAL l_NOT_EQUAL v_NOT_EQUAL cl_NOT_EQUAL l_LESS v_LESS cl_LESS l_LESS_OR_EQUAL v_LESS_OR_EQUAL cl_LESS_OR_EQUAL l_GREATER v_GREATER cl_GREATER l_GREATER_OR_EQUAL v_GREATER_OR_EQUAL cl_GREATER_OR_EQUAL h0 n0 _ T53.heap _
              refine ⟨?_, N53, trivial⟩
              rw [F_law, if_neg hs_34, if_neg hs_38, if_neg hs_42, if_neg hs_46, if_pos hs_50]
          · have q32 : (F_pick ((p0 &&& (2147483647 : Int32)) % (6 : Int32)) w_EQUAL w_NOT_EQUAL w_LESS w_LESS_OR_EQUAL w_GREATER w_GREATER_OR_EQUAL) = w_GREATER_OR_EQUAL := by rw [F_pick, if_neg hs_34, if_neg hs_38, if_neg hs_42, if_neg hs_46, if_neg hs_50]
            rw [q32] at st32
            obtain ⟨cq54, kq54, q54a, q54b, q54c⟩ := isOf hZ e32 E_GREATER_OR_EQUAL
            obtain ⟨_, _, ⟨T54, L54, k54, n54⟩, -, X54, ⟨Lc54, hQ54, l54, y54, z54⟩, st54⟩ := X32.virtualBack hx (y := (⟨"com/example/gard/gard/core/Condition$Operator", "toString", "()Ljava/lang/String;"⟩ : MethodName)) (z := (⟨"com/example/gard/gard/core/Condition$Operator", "toString", "()Ljava/lang/String;"⟩ : MethodName)) hown (mvT hZ (hw _ (List.mem_of_getElem? (i := 8) rfl))) (mvT hZ (hw _ (List.mem_of_getElem? (i := 9) rfl))) (notFace_of_selects (args := #[]) (mvT hZ (hw _ (List.mem_of_getElem? (i := 11) rfl)))) (mvT hZ (hw _ (List.mem_of_getElem? (i := 11) rfl))) (mvT hZ (hw _ (List.mem_of_getElem? (i := 10) rfl))) (by decide) (backOf (W := 0) (rm_sym l Z a0' hw [] w_GREATER_OR_EQUAL l_GREATER_OR_EQUAL h0 n0 Z0 HL_GREATER_OR_EQUAL) hZ (hw _ (List.mem_of_getElem? (i := 12) rfl)) (hw _ (List.mem_of_getElem? (i := 6) rfl)) (by decide) (by decide)) q54a q54c (g := (mkF m 14 #[.val (.int p0), .val (.int ((p0 &&& (2147483647 : Int32)) % (6 : Int32))), .val (.ref w_GREATER_OR_EQUAL), .unset, .unset, .unset] [(.ref w_GREATER_OR_EQUAL)])) rfl (by rw [hml]; rfl) (Steps.refl _) (argsL := []) (rest := []) (lenOf own_pd5 rfl) rfl (by show 2 * 0 + _ ≤ _; exact Nat.le_of_eq rfl) (hb hby at_14) (fun _ _ => ⟨rfl, e32, (by decide : 0 + 0 ≤ _), (by decide : 0 + 0 ≤ _)⟩)
            dsimp only [Pt.U, Pt.locs, Pt.cells, Pt.slots] at X54 l54 y54 z54 st54 hQ54
            subst l54 y54 z54
            obtain ⟨rfl, N54q, e54⟩ := hQ54
            have N54 := Fr.app N32 N54q
            obtain ⟨cq55, kq55, q55a, q55b, q55c⟩ := isOf hZ e54 EL_GREATER_OR_EQUAL
            obtain ⟨_, _, ⟨T55, L55, k55, n55⟩, -, X55, ⟨Lc55, hQ55, l55, y55, z55⟩, st55⟩ := X54.virtualBack hx (y := (⟨"java/lang/String", "charAt", "(I)C"⟩ : MethodName)) (z := (⟨"java/lang/String", "charAt", "(I)C"⟩ : MethodName)) hown (mvT hZ (hw _ (List.mem_of_getElem? (i := 15) rfl))) (mvT hZ (hw _ (List.mem_of_getElem? (i := 16) rfl))) (notFace_of_selects (args := #[]) (mvT hZ (hw _ (List.mem_of_getElem? (i := 18) rfl)))) (mvT hZ (hw _ (List.mem_of_getElem? (i := 18) rfl))) (mvT hZ (hw _ (List.mem_of_getElem? (i := 17) rfl))) (by decide) (backOf (W := 0) (rm_chr l Z a0' hw [] l_GREATER_OR_EQUAL (0 : Int32) v_GREATER_OR_EQUAL cl_GREATER_OR_EQUAL (2 : Int32) (62 : Int32) kc fm h0 n0 Z0 EL_GREATER_OR_EQUAL HC_GREATER_OR_EQUAL HV_GREATER_OR_EQUAL Ar_GREATER_OR_EQUAL hsz_GREATER_OR_EQUAL hnn_GREATER_OR_EQUAL (by decide) (by decide) hat_GREATER_OR_EQUAL S_cs hkc S_fm hfm) hZ (hw _ (List.mem_of_getElem? (i := 20) rfl)) (hw _ (List.mem_of_getElem? (i := 19) rfl)) (by decide) (by decide)) q55a q55c (g := (mkF m 20 #[.val (.int p0), .val (.int ((p0 &&& (2147483647 : Int32)) % (6 : Int32))), .val (.ref w_GREATER_OR_EQUAL), .val (.ref l_GREATER_OR_EQUAL), .unset, .unset] [(.int (0 : Int32)), (.ref l_GREATER_OR_EQUAL)])) rfl (by rw [hml]; rfl) (Steps.refl _) (argsL := [(.int (0 : Int32))]) (rest := []) (lenOf own_pd6 rfl) rfl (by show 2 * 0 + _ ≤ _; exact Nat.le_of_eq rfl) (hb hby at_20) (fun _ _ => ⟨rfl, e54, (by decide : 0 + 0 ≤ _), (by decide : 0 + 0 ≤ _)⟩)
            dsimp only [Pt.U, Pt.locs, Pt.cells, Pt.slots] at X55 l55 y55 z55 st55 hQ55
            subst l55 y55 z55
            obtain ⟨rfl, N55q, e55⟩ := hQ55
            have N55 := Fr.app N54 N55q
            have q55 : (F_chr (62 : Int32)) = (62 : Int32) := by unfold F_chr F_lchar; decide +kernel
            rw [q55] at st55
            obtain ⟨cq56, kq56, q56a, q56b, q56c⟩ := isOf hZ e55 E_GREATER_OR_EQUAL
            obtain ⟨_, _, ⟨T56, L56, k56, n56⟩, -, X56, ⟨Lc56, hQ56, l56, y56, z56⟩, st56⟩ := X55.virtualBack hx (y := (⟨"com/example/gard/gard/core/Condition$Operator", "orders", "()Z"⟩ : MethodName)) (z := (⟨"com/example/gard/gard/core/Condition$Operator", "orders", "()Z"⟩ : MethodName)) hown (mvT hZ (hw _ (List.mem_of_getElem? (i := 43) rfl))) (mvT hZ (hw _ (List.mem_of_getElem? (i := 44) rfl))) (notFace_of_selects (args := #[]) (mvT hZ (hw _ (List.mem_of_getElem? (i := 46) rfl)))) (mvT hZ (hw _ (List.mem_of_getElem? (i := 46) rfl))) (mvT hZ (hw _ (List.mem_of_getElem? (i := 45) rfl))) (by decide) (backOf (W := 0) (rm_ord l Z a0' hw [] w_GREATER_OR_EQUAL w_EQUAL w_NOT_EQUAL h0 n0 Z0 S_EQUAL S_NOT_EQUAL) hZ (hw _ (List.mem_of_getElem? (i := 47) rfl)) (hw _ (List.mem_of_getElem? (i := 6) rfl)) (by decide) (by decide)) q56a q56c (g := (mkF m 47 #[.val (.int p0), .val (.int ((p0 &&& (2147483647 : Int32)) % (6 : Int32))), .val (.ref w_GREATER_OR_EQUAL), .val (.ref l_GREATER_OR_EQUAL), .val (.int (62 : Int32)), .val (.int (1 : Int32))] [(.ref w_GREATER_OR_EQUAL)])) rfl (by rw [hml]; rfl) (Steps.refl _) (argsL := []) (rest := []) (lenOf own_pd2 rfl) rfl (by show 2 * 0 + _ ≤ _; exact Nat.le_of_eq rfl) (hb hby at_47) (fun _ _ => ⟨rfl, e55, (by decide : 0 + 0 ≤ _), (by decide : 0 + 0 ≤ _)⟩)
            dsimp only [Pt.U, Pt.locs, Pt.cells, Pt.slots] at X56 l56 y56 z56 st56 hQ56
            subst l56 y56 z56
            obtain ⟨rfl, N56q, e56⟩ := hQ56
            have N56 := Fr.app N55 N56q
            have q56 : (F_ord w_GREATER_OR_EQUAL w_EQUAL w_NOT_EQUAL) = (1 : Int32) := by rw [F_ord, if_neg ne_GREATER_OR_EQUAL_EQUAL, if_neg ne_GREATER_OR_EQUAL_NOT_EQUAL]
            rw [q56] at st56
            obtain ⟨fs, hr, hrun, hended, hW, hsame⟩ := X56.leave (v := some (.int (1 : Int32))) (fun h => by rw [Bd.returns] at h; cases h)
            refine ⟨_, _, pre33 _ ?_, hrun, hended, _, _, rfl, ?_, ⟨_, rfl⟩, hW, hsame.mono (by decide) (by decide)⟩
            · show Steps p.tables e below (s₁.setTop (mkF m 9 #[.val (.int p0), .val (.int ((p0 &&& (2147483647 : Int32)) % (6 : Int32))), .unset, .unset, .unset, .unset] [(.int ((p0 &&& (2147483647 : Int32)) % (6 : Int32)))])) _
              refine st32 _ ?_
              show Steps p.tables e below (T32.setTop (mkF m 12 #[.val (.int p0), .val (.int ((p0 &&& (2147483647 : Int32)) % (6 : Int32))), .unset, .unset, .unset, .unset] [(.ref w_GREATER_OR_EQUAL)])) _
              refine XS.astoreN X32.here hx rfl (hb hby at_12) rfl rfl (l' := #[.val (.int p0), .val (.int ((p0 &&& (2147483647 : Int32)) % (6 : Int32))), .val (.ref w_GREATER_OR_EQUAL), .unset, .unset, .unset]) rfl ?_
              show Steps p.tables e below (T32.setTop (mkF m 13 #[.val (.int p0), .val (.int ((p0 &&& (2147483647 : Int32)) % (6 : Int32))), .val (.ref w_GREATER_OR_EQUAL), .unset, .unset, .unset] [])) _
              refine XS.aloadN X32.here hx rfl (hb hby at_13) rfl rfl ?_
              show Steps p.tables e below (T32.setTop (mkF m 14 #[.val (.int p0), .val (.int ((p0 &&& (2147483647 : Int32)) % (6 : Int32))), .val (.ref w_GREATER_OR_EQUAL), .unset, .unset, .unset] [(.ref w_GREATER_OR_EQUAL)])) _
              refine st54.trans ?_
              show Steps p.tables e below (T54.setTop (mkF m 17 #[.val (.int p0), .val (.int ((p0 &&& (2147483647 : Int32)) % (6 : Int32))), .val (.ref w_GREATER_OR_EQUAL), .unset, .unset, .unset] [(.ref l_GREATER_OR_EQUAL)])) _
              refine XS.astoreN X54.here hx rfl (hb hby at_17) rfl rfl (l' := #[.val (.int p0), .val (.int ((p0 &&& (2147483647 : Int32)) % (6 : Int32))), .val (.ref w_GREATER_OR_EQUAL), .val (.ref l_GREATER_OR_EQUAL), .unset, .unset]) rfl ?_
              show Steps p.tables e below (T54.setTop (mkF m 18 #[.val (.int p0), .val (.int ((p0 &&& (2147483647 : Int32)) % (6 : Int32))), .val (.ref w_GREATER_OR_EQUAL), .val (.ref l_GREATER_OR_EQUAL), .unset, .unset] [])) _
              refine XS.aloadN X54.here hx rfl (hb hby at_18) rfl rfl ?_
              show Steps p.tables e below (T54.setTop (mkF m 19 #[.val (.int p0), .val (.int ((p0 &&& (2147483647 : Int32)) % (6 : Int32))), .val (.ref w_GREATER_OR_EQUAL), .val (.ref l_GREATER_OR_EQUAL), .unset, .unset] [(.ref l_GREATER_OR_EQUAL)])) _
              refine XS.iconst X54.here hx rfl (hb hby at_19) ?_
              show Steps p.tables e below (T54.setTop (mkF m 20 #[.val (.int p0), .val (.int ((p0 &&& (2147483647 : Int32)) % (6 : Int32))), .val (.ref w_GREATER_OR_EQUAL), .val (.ref l_GREATER_OR_EQUAL), .unset, .unset] [(.int (0 : Int32)), (.ref l_GREATER_OR_EQUAL)])) _
              refine st55.trans ?_
              show Steps p.tables e below (T55.setTop (mkF m 23 #[.val (.int p0), .val (.int ((p0 &&& (2147483647 : Int32)) % (6 : Int32))), .val (.ref w_GREATER_OR_EQUAL), .val (.ref l_GREATER_OR_EQUAL), .unset, .unset] [(.int (62 : Int32))])) _
              refine XS.istore X55.here hx rfl (hb hby at_23) rfl (l' := #[.val (.int p0), .val (.int ((p0 &&& (2147483647 : Int32)) % (6 : Int32))), .val (.ref w_GREATER_OR_EQUAL), .val (.ref l_GREATER_OR_EQUAL), .val (.int (62 : Int32)), .unset]) rfl ?_
              show Steps p.tables e below (T55.setTop (mkF m 25 #[.val (.int p0), .val (.int ((p0 &&& (2147483647 : Int32)) % (6 : Int32))), .val (.ref w_GREATER_OR_EQUAL), .val (.ref l_GREATER_OR_EQUAL), .val (.int (62 : Int32)), .unset] [])) _
              refine XS.iload X55.here hx rfl (hb hby at_25) rfl ?_
              show Steps p.tables e below (T55.setTop (mkF m 27 #[.val (.int p0), .val (.int ((p0 &&& (2147483647 : Int32)) % (6 : Int32))), .val (.ref w_GREATER_OR_EQUAL), .val (.ref l_GREATER_OR_EQUAL), .val (.int (62 : Int32)), .unset] [(.int (62 : Int32))])) _
              refine XS.bipush X55.here hx rfl (hb hby at_27) ?_
              show Steps p.tables e below (T55.setTop (mkF m 29 #[.val (.int p0), .val (.int ((p0 &&& (2147483647 : Int32)) % (6 : Int32))), .val (.ref w_GREATER_OR_EQUAL), .val (.ref l_GREATER_OR_EQUAL), .val (.int (62 : Int32)), .unset] [(.int (60 : Int32)), (.int (62 : Int32))])) _
              refine XS.icmpNo X55.here hx rfl (hb hby at_29) rfl (feq (by decide : ¬ ((62 : Int32) = (60 : Int32)))).1 ?_
              show Steps p.tables e below (T55.setTop (mkF m 32 #[.val (.int p0), .val (.int ((p0 &&& (2147483647 : Int32)) % (6 : Int32))), .val (.ref w_GREATER_OR_EQUAL), .val (.ref l_GREATER_OR_EQUAL), .val (.int (62 : Int32)), .unset] [])) _
              refine XS.iload X55.here hx rfl (hb hby at_32) rfl ?_
              show Steps p.tables e below (T55.setTop (mkF m 34 #[.val (.int p0), .val (.int ((p0 &&& (2147483647 : Int32)) % (6 : Int32))), .val (.ref w_GREATER_OR_EQUAL), .val (.ref l_GREATER_OR_EQUAL), .val (.int (62 : Int32)), .unset] [(.int (62 : Int32))])) _
              refine XS.bipush X55.here hx rfl (hb hby at_34) ?_
              show Steps p.tables e below (T55.setTop (mkF m 36 #[.val (.int p0), .val (.int ((p0 &&& (2147483647 : Int32)) % (6 : Int32))), .val (.ref w_GREATER_OR_EQUAL), .val (.ref l_GREATER_OR_EQUAL), .val (.int (62 : Int32)), .unset] [(.int (62 : Int32)), (.int (62 : Int32))])) _
              refine XS.icmpNo X55.here hx rfl (hb hby at_36) rfl (teq (by decide : (62 : Int32) = (62 : Int32))).2 ?_
              show Steps p.tables e below (T55.setTop (mkF m 39 #[.val (.int p0), .val (.int ((p0 &&& (2147483647 : Int32)) % (6 : Int32))), .val (.ref w_GREATER_OR_EQUAL), .val (.ref l_GREATER_OR_EQUAL), .val (.int (62 : Int32)), .unset] [])) _
              refine XS.iconst X55.here hx rfl (hb hby at_39) ?_
              show Steps p.tables e below (T55.setTop (mkF m 40 #[.val (.int p0), .val (.int ((p0 &&& (2147483647 : Int32)) % (6 : Int32))), .val (.ref w_GREATER_OR_EQUAL), .val (.ref l_GREATER_OR_EQUAL), .val (.int (62 : Int32)), .unset] [(.int (1 : Int32))])) _
              refine XS.goto X55.here hx rfl (pc0 := 40) (pc' := 44) rfl (hb hby at_40) (by decide) (by decide) ?_
              show Steps p.tables e below (T55.setTop (mkF m 44 #[.val (.int p0), .val (.int ((p0 &&& (2147483647 : Int32)) % (6 : Int32))), .val (.ref w_GREATER_OR_EQUAL), .val (.ref l_GREATER_OR_EQUAL), .val (.int (62 : Int32)), .unset] [(.int (1 : Int32))])) _
              refine XS.istore X55.here hx rfl (hb hby at_44) rfl (l' := #[.val (.int p0), .val (.int ((p0 &&& (2147483647 : Int32)) % (6 : Int32))), .val (.ref w_GREATER_OR_EQUAL), .val (.ref l_GREATER_OR_EQUAL), .val (.int (62 : Int32)), .val (.int (1 : Int32))]) rfl ?_
              show Steps p.tables e below (T55.setTop (mkF m 46 #[.val (.int p0), .val (.int ((p0 &&& (2147483647 : Int32)) % (6 : Int32))), .val (.ref w_GREATER_OR_EQUAL), .val (.ref l_GREATER_OR_EQUAL), .val (.int (62 : Int32)), .val (.int (1 : Int32))] [])) _
              refine XS.aloadN X55.here hx rfl (hb hby at_46) rfl rfl ?_
              show Steps p.tables e below (T55.setTop (mkF m 47 #[.val (.int p0), .val (.int ((p0 &&& (2147483647 : Int32)) % (6 : Int32))), .val (.ref w_GREATER_OR_EQUAL), .val (.ref l_GREATER_OR_EQUAL), .val (.int (62 : Int32)), .val (.int (1 : Int32))] [(.ref w_GREATER_OR_EQUAL)])) _
              refine st56.trans ?_
              show Steps p.tables e below (T56.setTop (mkF m 50 #[.val (.int p0), .val (.int ((p0 &&& (2147483647 : Int32)) % (6 : Int32))), .val (.ref w_GREATER_OR_EQUAL), .val (.ref l_GREATER_OR_EQUAL), .val (.int (62 : Int32)), .val (.int (1 : Int32))] [(.int (1 : Int32))])) _
              refine XS.iload X56.here hx rfl (hb hby at_50) rfl ?_
              show Steps p.tables e below (T56.setTop (mkF m 52 #[.val (.int p0), .val (.int ((p0 &&& (2147483647 : Int32)) % (6 : Int32))), .val (.ref w_GREATER_OR_EQUAL), .val (.ref l_GREATER_OR_EQUAL), .val (.int (62 : Int32)), .val (.int (1 : Int32))] [(.int (1 : Int32)), (.int (1 : Int32))])) _
              refine XS.icmpNo X56.here hx rfl (hb hby at_52) rfl (teq (by decide : (1 : Int32) = (1 : Int32))).2 ?_
              show Steps p.tables e below (T56.setTop (mkF m 55 #[.val (.int p0), .val (.int ((p0 &&& (2147483647 : Int32)) % (6 : Int32))), .val (.ref w_GREATER_OR_EQUAL), .val (.ref l_GREATER_OR_EQUAL), .val (.int (62 : Int32)), .val (.int (1 : Int32))] [])) _
              refine XS.iconst X56.here hx rfl (hb hby at_55) ?_
              show Steps p.tables e below (T56.setTop (mkF m 56 #[.val (.int p0), .val (.int ((p0 &&& (2147483647 : Int32)) % (6 : Int32))), .val (.ref w_GREATER_OR_EQUAL), .val (.ref l_GREATER_OR_EQUAL), .val (.int (62 : Int32)), .val (.int (1 : Int32))] [(.int (1 : Int32))])) _
              refine XS.goto X56.here hx rfl (pc0 := 56) (pc' := 60) rfl (hb hby at_56) (by decide) (by decide) ?_
              show Steps p.tables e below (T56.setTop (mkF m 60 #[.val (.int p0), .val (.int ((p0 &&& (2147483647 : Int32)) % (6 : Int32))), .val (.ref w_GREATER_OR_EQUAL), .val (.ref l_GREATER_OR_EQUAL), .val (.int (62 : Int32)), .val (.int (1 : Int32))] [(.int (1 : Int32))])) _
              exact retN X56 hx (t := .boolean) Bd.returns (by simp) (hb hby at_60) hr
            · show Q_law Z p0 w_EQUAL w_NOT_EQUAL w_LESS w_LESS_OR_EQUAL w_GREATER w_GREATER_OR_EQUAL kc fm l_EQUAL v_EQUAL cl_EQUAL l_NOT_EQUAL v_NOT_EQUAL cl_NOT_EQUAL l_LESS v_LESS cl_LESS l_LESS_OR_EQUAL v_LESS_OR_EQUAL cl_LESS_OR_EQUAL l_GREATER v_GREATER cl_GREATER l_GREATER_OR_EQUAL v_GREATER_OR_EQUAL cl_GREATER_OR_EQUAL h0 n0 _ T56.heap _
              refine ⟨?_, N56, trivial⟩
              rw [F_law, if_neg hs_34, if_neg hs_38, if_neg hs_42, if_neg hs_46, if_neg hs_50]
theorem own_law (p0 : Int32) : F_law p0 = 1 := by
  unfold F_law
  repeat' split
  all_goals rfl
set_option maxRecDepth 65536 in
set_option maxHeartbeats 40000000 in
theorem own_comes {Post : Tables → Env → Array Value → State → Outcome → State → Prop} (hpost : ∀ tb e args s v u, (limb_1_1.after args s (.returned v) u = true ∧ limb_1_2.after args s (.returned v) u = true ∧ True) → FrameEnd s (.returned v) u (Jvm.fieldLocs frame_1_writes args s ++ Jvm.arrayLocs frame_1_arrays args s ++ Jvm.staticLocs frame_1_statics s) 0 0 → Post tb e args s (.returned v) u) :
    ArmFor flags0 classFile x code maxLocals ret World_1 tables_1 room_1 Calls_1 rest_1 Pre_1 Post := by
  intro l hfl _ _ p e ha hc hk s m args below hf hA hF happ hP
  obtain ⟨hcalls, hrest, hpre⟩ := hP
  obtain ⟨-, -, -, hnamed, -, -, -, hat⟩ := (Spec.applies_iff hf).mp happ
  obtain ⟨hg, hn⟩ := and_e (Cond.before_iff.mp (show (Jvm.Cond.and given_1 narrow_1).before args s = true from hpre))
  obtain ⟨g1, g1'⟩ := and_e hg
  obtain ⟨g2, g2'⟩ := and_e hn
  obtain ⟨g3, g3'⟩ := and_e g2'
  obtain ⟨g4, g4'⟩ := and_e g3'
  obtain ⟨g5, g5'⟩ := and_e g4'
  obtain ⟨g6, g6'⟩ := and_e g5'
  obtain ⟨g7, g7'⟩ := and_e g6'
  obtain ⟨g8, g8'⟩ := and_e g7'
  obtain ⟨g9, g9'⟩ := and_e g8'
  obtain ⟨g10, g10'⟩ := and_e g9'
  obtain ⟨g11, g11'⟩ := and_e g10'
  obtain ⟨g12, g12'⟩ := and_e g11'
  obtain ⟨g13, g13'⟩ := and_e g12'
  obtain ⟨g14, g14'⟩ := and_e g13'
  obtain ⟨g15, g15'⟩ := and_e g14'
  obtain ⟨g16, g16'⟩ := and_e g15'
  obtain ⟨g17, g17'⟩ := and_e g16'
  obtain ⟨g18, g18'⟩ := and_e g17'
  obtain ⟨g19, g19'⟩ := and_e g18'
  obtain ⟨g20, g20'⟩ := and_e g19'
  obtain ⟨g21, g21'⟩ := and_e g20'
  obtain ⟨g22, g22'⟩ := and_e g21'
  obtain ⟨g23, g23'⟩ := and_e g22'
  obtain ⟨g24, g24'⟩ := and_e g23'
  obtain ⟨g25, g25'⟩ := and_e g24'
  obtain ⟨g26, g26'⟩ := and_e g25'
  obtain ⟨g27, g27'⟩ := and_e g26'
  obtain ⟨g28, g28'⟩ := and_e g27'
  obtain ⟨g29, g29'⟩ := and_e g28'
  obtain ⟨g30, g30'⟩ := and_e g29'
  obtain ⟨g31, g31'⟩ := and_e g30'
  obtain ⟨g32, g32'⟩ := and_e g31'
  obtain ⟨g33, g33'⟩ := and_e g32'
  obtain ⟨g34, g34'⟩ := and_e g33'
  obtain ⟨g35, g35'⟩ := and_e g34'
  obtain ⟨g36, g36'⟩ := and_e g35'
  obtain ⟨g37, g37'⟩ := and_e g36'
  obtain ⟨g38, g38'⟩ := and_e g37'
  obtain ⟨g39, g39'⟩ := and_e g38'
  obtain ⟨g40, g40'⟩ := and_e g39'
  obtain ⟨g41, g41'⟩ := and_e g40'
  obtain ⟨g42, g42'⟩ := and_e g41'
  obtain ⟨g43, g43'⟩ := and_e g42'
  obtain ⟨g44, g44'⟩ := and_e g43'
  obtain ⟨g45, g45'⟩ := and_e g44'
  obtain ⟨g46, g46'⟩ := and_e g45'
  obtain ⟨u0, rfl⟩ : ∃ u0 : Value, args = #[u0] := by
    have hs : args.size = 1 := by simpa [Cond.value, given_1] using g1
    obtain ⟨L⟩ := args
    match L, hs with
    | [u0], _ => exact ⟨u0, rfl⟩
  have hw := fun d (hd : d ∈ tables_1) => atoms_spec (ws := Jvm.Cond.code x code maxLocals ret :: tables_1) hat d (List.mem_cons_of_mem _ hd)
  obtain ⟨i0, ei0⟩ := is_v g1'
  obtain rfl : u0 = (.int i0) := Option.some.inj ei0
  obtain ⟨w_EQUAL, ev_EQUAL⟩ := exa_v g2
  have E_EQUAL := Exa.start ev_EQUAL g2
  have S_EQUAL := Sta.start ev_EQUAL (Or.inr ⟨(hw _ (List.mem_of_getElem? (i := 6) rfl)), (hw _ (List.mem_of_getElem? (i := 7) rfl))⟩)
  obtain ⟨w_LESS_OR_EQUAL, ev_LESS_OR_EQUAL⟩ := exa_v g8
  have E_LESS_OR_EQUAL := Exa.start ev_LESS_OR_EQUAL g8
  have S_LESS_OR_EQUAL := Sta.start ev_LESS_OR_EQUAL (Or.inr ⟨(hw _ (List.mem_of_getElem? (i := 6) rfl)), (hw _ (List.mem_of_getElem? (i := 50) rfl))⟩)
  obtain ⟨w_NOT_EQUAL, ev_NOT_EQUAL⟩ := exa_v g16
  have E_NOT_EQUAL := Exa.start ev_NOT_EQUAL g16
  have S_NOT_EQUAL := Sta.start ev_NOT_EQUAL (Or.inr ⟨(hw _ (List.mem_of_getElem? (i := 6) rfl)), (hw _ (List.mem_of_getElem? (i := 52) rfl))⟩)
  obtain ⟨w_LESS, ev_LESS⟩ := exa_v g18
  have E_LESS := Exa.start ev_LESS g18
  have S_LESS := Sta.start ev_LESS (Or.inr ⟨(hw _ (List.mem_of_getElem? (i := 6) rfl)), (hw _ (List.mem_of_getElem? (i := 54) rfl))⟩)
  obtain ⟨w_GREATER_OR_EQUAL, ev_GREATER_OR_EQUAL⟩ := exa_v g30
  have E_GREATER_OR_EQUAL := Exa.start ev_GREATER_OR_EQUAL g30
  have S_GREATER_OR_EQUAL := Sta.start ev_GREATER_OR_EQUAL (Or.inr ⟨(hw _ (List.mem_of_getElem? (i := 6) rfl)), (hw _ (List.mem_of_getElem? (i := 57) rfl))⟩)
  obtain ⟨w_GREATER, ev_GREATER⟩ := exa_v g37
  have E_GREATER := Exa.start ev_GREATER g37
  have S_GREATER := Sta.start ev_GREATER (Or.inr ⟨(hw _ (List.mem_of_getElem? (i := 6) rfl)), (hw _ (List.mem_of_getElem? (i := 59) rfl))⟩)
  obtain ⟨l_EQUAL, evl_EQUAL⟩ := exa_v g3
  have EL_EQUAL := Exa.start evl_EQUAL g3
  have HL_EQUAL := Fld.start ((fld_at ev_EQUAL).symm.trans evl_EQUAL)
  obtain ⟨l_LESS_OR_EQUAL, evl_LESS_OR_EQUAL⟩ := exa_v g9
  have EL_LESS_OR_EQUAL := Exa.start evl_LESS_OR_EQUAL g9
  have HL_LESS_OR_EQUAL := Fld.start ((fld_at ev_LESS_OR_EQUAL).symm.trans evl_LESS_OR_EQUAL)
  obtain ⟨l_LESS, evl_LESS⟩ := exa_v g19
  have EL_LESS := Exa.start evl_LESS g19
  have HL_LESS := Fld.start ((fld_at ev_LESS).symm.trans evl_LESS)
  obtain ⟨l_NOT_EQUAL, evl_NOT_EQUAL⟩ := exa_v g25
  have EL_NOT_EQUAL := Exa.start evl_NOT_EQUAL g25
  have HL_NOT_EQUAL := Fld.start ((fld_at ev_NOT_EQUAL).symm.trans evl_NOT_EQUAL)
  obtain ⟨l_GREATER_OR_EQUAL, evl_GREATER_OR_EQUAL⟩ := exa_v g31
  have EL_GREATER_OR_EQUAL := Exa.start evl_GREATER_OR_EQUAL g31
  have HL_GREATER_OR_EQUAL := Fld.start ((fld_at ev_GREATER_OR_EQUAL).symm.trans evl_GREATER_OR_EQUAL)
  obtain ⟨l_GREATER, evl_GREATER⟩ := exa_v g38
  have EL_GREATER := Exa.start evl_GREATER g38
  have HL_GREATER := Fld.start ((fld_at ev_GREATER).symm.trans evl_GREATER)
  obtain ⟨v_EQUAL, evv_EQUAL⟩ := arr_v g5
  obtain ⟨cl_EQUAL, Ar_EQUAL⟩ := Arr.start evv_EQUAL g5
  have HV_EQUAL := Fld.start ((fld_at evl_EQUAL).symm.trans evv_EQUAL)
  obtain ⟨v_LESS_OR_EQUAL, evv_LESS_OR_EQUAL⟩ := arr_v g11
  obtain ⟨cl_LESS_OR_EQUAL, Ar_LESS_OR_EQUAL⟩ := Arr.start evv_LESS_OR_EQUAL g11
  have HV_LESS_OR_EQUAL := Fld.start ((fld_at evl_LESS_OR_EQUAL).symm.trans evv_LESS_OR_EQUAL)
  obtain ⟨v_LESS, evv_LESS⟩ := arr_v g21
  obtain ⟨cl_LESS, Ar_LESS⟩ := Arr.start evv_LESS g21
  have HV_LESS := Fld.start ((fld_at evl_LESS).symm.trans evv_LESS)
  obtain ⟨v_NOT_EQUAL, evv_NOT_EQUAL⟩ := arr_v g27
  obtain ⟨cl_NOT_EQUAL, Ar_NOT_EQUAL⟩ := Arr.start evv_NOT_EQUAL g27
  have HV_NOT_EQUAL := Fld.start ((fld_at evl_NOT_EQUAL).symm.trans evv_NOT_EQUAL)
  obtain ⟨v_GREATER_OR_EQUAL, evv_GREATER_OR_EQUAL⟩ := arr_v g33
  obtain ⟨cl_GREATER_OR_EQUAL, Ar_GREATER_OR_EQUAL⟩ := Arr.start evv_GREATER_OR_EQUAL g33
  have HV_GREATER_OR_EQUAL := Fld.start ((fld_at evl_GREATER_OR_EQUAL).symm.trans evv_GREATER_OR_EQUAL)
  obtain ⟨v_GREATER, evv_GREATER⟩ := arr_v g40
  obtain ⟨cl_GREATER, Ar_GREATER⟩ := Arr.start evv_GREATER g40
  have HV_GREATER := Fld.start ((fld_at evl_GREATER).symm.trans evv_GREATER)
  have HC_EQUAL := Fld.start ((fld_at evl_EQUAL).symm.trans (own_eqk g4))
  obtain ⟨hsz_EQUAL, hnn_EQUAL⟩ := own_len g6 evv_EQUAL Ar_EQUAL
  have hat_EQUAL := (elem_in (own_eqk g7) evv_EQUAL (Term.int_eval _) Ar_EQUAL.1).2
  have HC_LESS_OR_EQUAL := Fld.start ((fld_at evl_LESS_OR_EQUAL).symm.trans (own_eqk g10))
  obtain ⟨hsz_LESS_OR_EQUAL, hnn_LESS_OR_EQUAL⟩ := own_len g12 evv_LESS_OR_EQUAL Ar_LESS_OR_EQUAL
  have hat_LESS_OR_EQUAL := (elem_in (own_eqk g13) evv_LESS_OR_EQUAL (Term.int_eval _) Ar_LESS_OR_EQUAL.1).2
  have HC_LESS := Fld.start ((fld_at evl_LESS).symm.trans (own_eqk g20))
  obtain ⟨hsz_LESS, hnn_LESS⟩ := own_len g22 evv_LESS Ar_LESS
  have hat_LESS := (elem_in (own_eqk g23) evv_LESS (Term.int_eval _) Ar_LESS.1).2
  have HC_NOT_EQUAL := Fld.start ((fld_at evl_NOT_EQUAL).symm.trans (own_eqk g26))
  obtain ⟨hsz_NOT_EQUAL, hnn_NOT_EQUAL⟩ := own_len g28 evv_NOT_EQUAL Ar_NOT_EQUAL
  have hat_NOT_EQUAL := (elem_in (own_eqk g29) evv_NOT_EQUAL (Term.int_eval _) Ar_NOT_EQUAL.1).2
  have HC_GREATER_OR_EQUAL := Fld.start ((fld_at evl_GREATER_OR_EQUAL).symm.trans (own_eqk g32))
  obtain ⟨hsz_GREATER_OR_EQUAL, hnn_GREATER_OR_EQUAL⟩ := own_len g34 evv_GREATER_OR_EQUAL Ar_GREATER_OR_EQUAL
  have hat_GREATER_OR_EQUAL := (elem_in (own_eqk g35) evv_GREATER_OR_EQUAL (Term.int_eval _) Ar_GREATER_OR_EQUAL.1).2
  have HC_GREATER := Fld.start ((fld_at evl_GREATER).symm.trans (own_eqk g39))
  obtain ⟨hsz_GREATER, hnn_GREATER⟩ := own_len g41 evv_GREATER Ar_GREATER
  have hat_GREATER := (elem_in (own_eqk g42) evv_GREATER (Term.int_eval _) Ar_GREATER.1).2
  skip
  skip
  skip
  skip
  have o_LESS_OR_EQUAL := (fld_at ev_LESS_OR_EQUAL).symm.trans (own_eqk g14)
  have o_EQUAL := (fld_at ev_EQUAL).symm.trans (own_eqk g15)
  have o_NOT_EQUAL := (fld_at ev_NOT_EQUAL).symm.trans (own_eqk g17)
  have o_LESS := (fld_at ev_LESS).symm.trans (own_eqk g24)
  have o_GREATER_OR_EQUAL := (fld_at ev_GREATER_OR_EQUAL).symm.trans (own_eqk g36)
  have o_GREATER := (fld_at ev_GREATER).symm.trans (own_eqk g43)
  obtain ⟨hsets, hown0⟩ := atoms_of _ (rest_1_c_eq ▸ (show rest_1_c.before _ s = true from hrest))
  obtain ⟨kc, evk⟩ := is_v (Cond.before_iff.mp (hsets _ (List.mem_of_getElem? (i := 1) rfl)))
  have S_cs := Sta.start evk (Or.inl (hsets _ (List.mem_of_getElem? (i := 0) rfl)))
  have hkc : ¬ (kc = (0 : Int32)) := gotF (Cond.eq_ints evk (Term.int_eval _)) (not_v (Cond.before_iff.mp (hsets _ (List.mem_of_getElem? (i := 2) rfl))))
  obtain ⟨fm, evf, hfm⟩ := isR_v (Cond.before_iff.mp (hsets _ (List.mem_of_getElem? (i := 8) rfl)))
  have S_fm := Sta.start evf (Or.inl (hsets _ (List.mem_of_getElem? (i := 7) rfl)))
  have ne_NOT_EQUAL_EQUAL : ¬ (w_NOT_EQUAL = w_EQUAL) := fun q => by
    have q2 : s.fieldOf? w_NOT_EQUAL "java/lang/Enum" "ordinal" "I" = s.fieldOf? w_EQUAL "java/lang/Enum" "ordinal" "I" := by rw [q]
    rw [o_NOT_EQUAL, o_EQUAL] at q2
    simp at q2
  have ne_LESS_EQUAL : ¬ (w_LESS = w_EQUAL) := fun q => by
    have q2 : s.fieldOf? w_LESS "java/lang/Enum" "ordinal" "I" = s.fieldOf? w_EQUAL "java/lang/Enum" "ordinal" "I" := by rw [q]
    rw [o_LESS, o_EQUAL] at q2
    simp at q2
  have ne_LESS_NOT_EQUAL : ¬ (w_LESS = w_NOT_EQUAL) := fun q => by
    have q2 : s.fieldOf? w_LESS "java/lang/Enum" "ordinal" "I" = s.fieldOf? w_NOT_EQUAL "java/lang/Enum" "ordinal" "I" := by rw [q]
    rw [o_LESS, o_NOT_EQUAL] at q2
    simp at q2
  have ne_LESS_OR_EQUAL_EQUAL : ¬ (w_LESS_OR_EQUAL = w_EQUAL) := fun q => by
    have q2 : s.fieldOf? w_LESS_OR_EQUAL "java/lang/Enum" "ordinal" "I" = s.fieldOf? w_EQUAL "java/lang/Enum" "ordinal" "I" := by rw [q]
    rw [o_LESS_OR_EQUAL, o_EQUAL] at q2
    simp at q2
  have ne_LESS_OR_EQUAL_NOT_EQUAL : ¬ (w_LESS_OR_EQUAL = w_NOT_EQUAL) := fun q => by
    have q2 : s.fieldOf? w_LESS_OR_EQUAL "java/lang/Enum" "ordinal" "I" = s.fieldOf? w_NOT_EQUAL "java/lang/Enum" "ordinal" "I" := by rw [q]
    rw [o_LESS_OR_EQUAL, o_NOT_EQUAL] at q2
    simp at q2
  have ne_GREATER_EQUAL : ¬ (w_GREATER = w_EQUAL) := fun q => by
    have q2 : s.fieldOf? w_GREATER "java/lang/Enum" "ordinal" "I" = s.fieldOf? w_EQUAL "java/lang/Enum" "ordinal" "I" := by rw [q]
    rw [o_GREATER, o_EQUAL] at q2
    simp at q2
  have ne_GREATER_NOT_EQUAL : ¬ (w_GREATER = w_NOT_EQUAL) := fun q => by
    have q2 : s.fieldOf? w_GREATER "java/lang/Enum" "ordinal" "I" = s.fieldOf? w_NOT_EQUAL "java/lang/Enum" "ordinal" "I" := by rw [q]
    rw [o_GREATER, o_NOT_EQUAL] at q2
    simp at q2
  have ne_GREATER_OR_EQUAL_EQUAL : ¬ (w_GREATER_OR_EQUAL = w_EQUAL) := fun q => by
    have q2 : s.fieldOf? w_GREATER_OR_EQUAL "java/lang/Enum" "ordinal" "I" = s.fieldOf? w_EQUAL "java/lang/Enum" "ordinal" "I" := by rw [q]
    rw [o_GREATER_OR_EQUAL, o_EQUAL] at q2
    simp at q2
  have ne_GREATER_OR_EQUAL_NOT_EQUAL : ¬ (w_GREATER_OR_EQUAL = w_NOT_EQUAL) := fun q => by
    have q2 : s.fieldOf? w_GREATER_OR_EQUAL "java/lang/Enum" "ordinal" "I" = s.fieldOf? w_NOT_EQUAL "java/lang/Enum" "ordinal" "I" := by rw [q]
    rw [o_GREATER_OR_EQUAL, o_NOT_EQUAL] at q2
    simp at q2
  have hlaw := own_law i0
  obtain ⟨n, o, h1, h2, h3, v, L, rfl, ⟨hv, N, -⟩, hq⟩ := rm_law l s _ hw tables_1 i0 w_EQUAL w_NOT_EQUAL w_LESS w_LESS_OR_EQUAL w_GREATER w_GREATER_OR_EQUAL kc fm l_EQUAL v_EQUAL cl_EQUAL l_NOT_EQUAL v_NOT_EQUAL cl_NOT_EQUAL l_LESS v_LESS cl_LESS l_LESS_OR_EQUAL v_LESS_OR_EQUAL cl_LESS_OR_EQUAL l_GREATER v_GREATER cl_GREATER l_GREATER_OR_EQUAL v_GREATER_OR_EQUAL cl_GREATER_OR_EQUAL s.heap s.heap.size (Nat.le_refl _) S_EQUAL E_EQUAL S_NOT_EQUAL E_NOT_EQUAL S_LESS E_LESS S_LESS_OR_EQUAL E_LESS_OR_EQUAL S_GREATER E_GREATER S_GREATER_OR_EQUAL E_GREATER_OR_EQUAL ne_NOT_EQUAL_EQUAL ne_LESS_EQUAL ne_LESS_NOT_EQUAL ne_LESS_OR_EQUAL_EQUAL ne_LESS_OR_EQUAL_NOT_EQUAL ne_GREATER_EQUAL ne_GREATER_NOT_EQUAL ne_GREATER_OR_EQUAL_EQUAL ne_GREATER_OR_EQUAL_NOT_EQUAL S_cs hkc S_fm hfm HL_EQUAL EL_EQUAL HC_EQUAL HV_EQUAL Ar_EQUAL hsz_EQUAL hnn_EQUAL hat_EQUAL HL_NOT_EQUAL EL_NOT_EQUAL HC_NOT_EQUAL HV_NOT_EQUAL Ar_NOT_EQUAL hsz_NOT_EQUAL hnn_NOT_EQUAL hat_NOT_EQUAL HL_LESS EL_LESS HC_LESS HV_LESS Ar_LESS hsz_LESS hnn_LESS hat_LESS HL_LESS_OR_EQUAL EL_LESS_OR_EQUAL HC_LESS_OR_EQUAL HV_LESS_OR_EQUAL Ar_LESS_OR_EQUAL hsz_LESS_OR_EQUAL hnn_LESS_OR_EQUAL hat_LESS_OR_EQUAL HL_GREATER EL_GREATER HC_GREATER HV_GREATER Ar_GREATER hsz_GREATER hnn_GREATER hat_GREATER HL_GREATER_OR_EQUAL EL_GREATER_OR_EQUAL HC_GREATER_OR_EQUAL HV_GREATER_OR_EQUAL Ar_GREATER_OR_EQUAL hsz_GREATER_OR_EQUAL hnn_GREATER_OR_EQUAL hat_GREATER_OR_EQUAL p e ha hc hk s m _ below hf ((Spec.applies_iff_loose hf).mp happ).1 ⟨rfl, State.Warmed39.refl s, rfl⟩ trivial
  rw [hlaw] at hv
  subst hv
  refine ⟨n, _, h1, h2, h3, hpost _ _ _ _ _ _ ⟨Cond.after_iff.mpr rfl, Cond.after_iff.mpr (eq_i res_at (Term.int_eval (1)) rfl), trivial⟩ ⟨hq.1, hq.2.1, (hq.2.2.sift fun y hy => Or.inr (N y hy)).mono (by decide) (by decide)⟩⟩
theorem main_1_1 : Claimed_1_1 := own_comes fun _ _ _ _ _ _ h hF => ⟨h.1, hF⟩
theorem main_1_2 : Claimed_1_2 := own_comes fun _ _ _ _ _ _ h hF => ⟨h.2.1, hF⟩
end Jvm.Pilot.@@N@@
namespace Jvm.Pilot.@@N@@
open Jvm Jvm.ClassFile Sem Op Lib Jvm.Free Jvm.Stand Jvm.Pilot.@@N@@.Jvm.D
/-! MADE BY PROGRAM (witnessworld.py) out of the Statement's table words and the real class files: 18 classes; the members and pool entries that the words name. The judged class is class 1, her method 2. -/
namespace start1
open Jvm.ClassFile
def u (s : String) : CpInfo := .utf8 (stringToUtf16 s)
/-- a pool by its gaps: so many unusable entries, then the entry; so many at the end -/
def gap : Nat → List CpInfo → List CpInfo
  | 0, r => r
  | n + 1, r => .unusable :: gap n r
def poolList (es : List (Nat × CpInfo)) (last : Nat) : List CpInfo := es.foldr (fun e r => gap e.1 (e.2 :: r)) (gap last [])
def pool (es : List (Nat × CpInfo)) (last : Nat) : Array CpInfo := ⟨poolList es last⟩
def fileOf (pool : Array CpInfo) (this : Nat) (attrs : Array Attribute := #[]) (ms : Array MethodInfo := #[]) (fl : Nat := 33) (sup : Nat := 0) (ifs : Array Nat := #[]) (fds : Array FieldInfo := #[]) : ClassFile where
  minorVersion := 0
  majorVersion := 65
  constantPool := pool
  accessFlags := fl
  thisClass := this
  superClass := sup
  interfaces := ifs
  fields := fds
  methods := ms
  attributes := attrs
def plain (name : String) (sup : Option ClassId) : Class where
  name := name
  kind := .ordinary
  loader := none
  accessFlags := 33
  super := sup
  interfaces := #[]
  cf := none
  fields := #[]
  methods := #[]
  instanceTypes := #[]
  staticTypes := #[]
  resolved := #[]
  callSites := []
  init := .initialized
  statics := none
  mirror := none

def pool0 : Array CpInfo := pool [(5, u "<init>"), (0, u "()V"), (1, .class_ 10), (1, u "java/lang/Object")] 113

def k0m0 : Method := { name := "<init>", desc := "()V", sig := { parameters := [], returnType := none }, accessFlags := 1, code := none }
/-- java/lang/Object -/
def k0 : Class := { plain "java/lang/Object" none with
  accessFlags := 33
  interfaces := #[]
  cf := some (fileOf pool0 8 #[] #[{ accessFlags := 1, nameIndex := 5, descriptorIndex := 6, attributes := #[] }] 33 0 #[] #[])
  fields := #[]
  methods := #[k0m0]
  instanceTypes := #[]
  staticTypes := #[]
  resolved := Array.replicate 124 none
  statics := none }

def pool1 : Array CpInfo := pool [(2, .class_ 4), (1, u "java/lang/Object"), (0, u "<init>"), (0, u "()V"), (0, .fieldref 8 9), (0, .class_ 10), (0, .nameAndType 11 12), (0, u "com/example/gard/gard/core/Condition$Operator"), (0, u "EQUAL"), (0, u "Lcom/example/gard/gard/core/Condition$Operator;"), (0, .fieldref 8 14), (0, .nameAndType 15 12), (0, u "NOT_EQUAL"), (0, .fieldref 8 17), (0, .nameAndType 18 12), (0, u "LESS"), (0, .fieldref 8 20), (0, .nameAndType 21 12), (0, u "LESS_OR_EQUAL"), (0, .fieldref 8 23), (0, .nameAndType 24 12), (0, u "GREATER"), (0, .fieldref 8 26), (0, .nameAndType 27 12), (0, u "GREATER_OR_EQUAL"), (0, .integer 2147483647), (0, .methodref 30 31), (0, .class_ 32), (0, .nameAndType 33 34), (0, u "com/example/gard/gard/core/OperatorOrdersPinLaw"), (0, u "pick"), (0, u "(I)Lcom/example/gard/gard/core/Condition$Operator;"), (0, .methodref 8 36), (0, .nameAndType 37 38), (0, u "toString"), (0, u "()Ljava/lang/String;"), (0, .methodref 40 41), (0, .class_ 42), (0, .nameAndType 43 44), (0, u "java/lang/String"), (0, u "charAt"), (0, u "(I)C"), (0, .methodref 8 46), (0, .nameAndType 47 48), (0, u "orders"), (0, u "()Z"), (3, u "law"), (0, u "(I)Z")] 6

def k1m0 : Method := { name := "<init>", desc := "()V", sig := { parameters := [], returnType := none }, accessFlags := 2, code := none }
def k1c1 : Code := { maxStack := 2, maxLocals := 1, code := method_2_code, exceptionTable := #[], attributes := #[] }
def k1m1 : Method := { name := "pick", desc := "(I)Lcom/example/gard/gard/core/Condition$Operator;", sig := { parameters := [.int], returnType := some (.object "com/example/gard/gard/core/Condition$Operator") }, accessFlags := 10, code := some k1c1 }
def k1c2 : Code := { maxStack := 2, maxLocals := 6, code := code, exceptionTable := #[], attributes := #[] }
def k1m2 : Method := { name := "law", desc := "(I)Z", sig := { parameters := [.int], returnType := some .boolean }, accessFlags := 9, code := some k1c2 }
/-- com/example/gard/gard/core/OperatorOrdersPinLaw -/
def k1 : Class := { plain "com/example/gard/gard/core/OperatorOrdersPinLaw" (some 0) with
  accessFlags := 49
  interfaces := #[]
  cf := some (fileOf pool1 30 #[] #[{ accessFlags := 2, nameIndex := 5, descriptorIndex := 6, attributes := #[] }, { accessFlags := 10, nameIndex := 33, descriptorIndex := 34, attributes := #[] }, { accessFlags := 9, nameIndex := 52, descriptorIndex := 53, attributes := #[] }] 49 2 #[] #[])
  fields := #[]
  methods := #[k1m0, k1m1, k1m2]
  instanceTypes := #[]
  staticTypes := #[]
  resolved := Array.replicate 60 none
  statics := none }

def pool2 : Array CpInfo := pool [(1, .class_ 2), (0, u "java/lang/constant/Constable"), (0, .class_ 4), (0, u "java/lang/Object")] 6

/-- java/lang/constant/Constable -/
def k2 : Class := { plain "java/lang/constant/Constable" (some 0) with
  accessFlags := 1537
  interfaces := #[]
  cf := some (fileOf pool2 1 #[] #[] 1537 3 #[] #[])
  fields := #[]
  methods := #[]
  instanceTypes := #[]
  staticTypes := #[]
  resolved := Array.replicate 11 none
  statics := none }

def pool3 : Array CpInfo := pool [(1, .class_ 2), (0, u "java/lang/Comparable"), (0, .class_ 4), (0, u "java/lang/Object")] 7

/-- java/lang/Comparable -/
def k3 : Class := { plain "java/lang/Comparable" (some 0) with
  accessFlags := 1537
  interfaces := #[]
  cf := some (fileOf pool3 1 #[] #[] 1537 3 #[] #[])
  fields := #[]
  methods := #[]
  instanceTypes := #[]
  staticTypes := #[]
  resolved := Array.replicate 12 none
  statics := none }

def pool4 : Array CpInfo := pool [(1, .class_ 2), (0, u "java/io/Serializable"), (0, .class_ 4), (0, u "java/lang/Object")] 2

/-- java/io/Serializable -/
def k4 : Class := { plain "java/io/Serializable" (some 0) with
  accessFlags := 1537
  interfaces := #[]
  cf := some (fileOf pool4 1 #[] #[] 1537 3 #[] #[])
  fields := #[]
  methods := #[]
  instanceTypes := #[]
  staticTypes := #[]
  resolved := Array.replicate 7 none
  statics := none }

def pool5 : Array CpInfo := pool [(2, .class_ 4), (1, u "java/lang/Enum"), (0, u "name"), (0, u "Ljava/lang/String;"), (2, u "ordinal"), (0, u "I"), (1, .class_ 14), (1, u "java/lang/Object"), (4, u "hash"), (86, .class_ 108), (1, u "java/lang/Enum$EnumDesc"), (2, .class_ 112), (0, u "java/lang/constant/Constable"), (0, .class_ 114), (0, u "java/lang/Comparable"), (0, .class_ 116), (0, u "java/io/Serializable")] 87

/-- java/lang/Enum -/
def k5 : Class := { plain "java/lang/Enum" (some 0) with
  accessFlags := 1057
  interfaces := #[2, 3, 4]
  cf := some (fileOf pool5 2 #[.nestMembers #[106]] #[] 1057 12 #[111, 113, 115] #[{ accessFlags := 18, nameIndex := 5, descriptorIndex := 6, attributes := #[] }, { accessFlags := 18, nameIndex := 9, descriptorIndex := 10, attributes := #[] }, { accessFlags := 2, nameIndex := 19, descriptorIndex := 10, attributes := #[] }])
  fields := #[{ name := "name", type := (.object "java/lang/String"), accessFlags := 18, slot := 0, constantValue := 0 }, { name := "ordinal", type := .int, accessFlags := 18, slot := 1, constantValue := 0 }, { name := "hash", type := .int, accessFlags := 2, slot := 2, constantValue := 0 }]
  methods := #[]
  instanceTypes := #[(.object "java/lang/String"), .int, .int]
  staticTypes := #[]
  resolved := Array.replicate 204 none
  statics := none }

def pool6 : Array CpInfo := pool [(1, .class_ 2), (0, u "com/example/gard/gard/core/Condition$Operator"), (0, .fieldref 1 4), (0, .nameAndType 5 6), (0, u "EQUAL"), (0, u "Lcom/example/gard/gard/core/Condition$Operator;"), (0, .fieldref 1 8), (0, .nameAndType 9 6), (0, u "NOT_EQUAL"), (2, u "LESS"), (2, u "LESS_OR_EQUAL"), (2, u "GREATER"), (2, u "GREATER_OR_EQUAL"), (2, u "$VALUES"), (0, u "[Lcom/example/gard/gard/core/Condition$Operator;"), (6, .class_ 34), (1, u "java/lang/Enum"), (6, .fieldref 1 42), (0, .nameAndType 43 44), (0, u "symbol"), (0, u "Ljava/lang/String;"), (93, u "orders"), (0, u "()Z"), (1, u "toString"), (0, u "()Ljava/lang/String;"), (6, .class_ 150), (0, u "com/example/gard/gard/core/Condition")] 2

def k6c0 : Code := { maxStack := 2, maxLocals := 1, code := prog_13_method_5_code, exceptionTable := #[], attributes := #[] }
def k6m0 : Method := { name := "orders", desc := "()Z", sig := { parameters := [], returnType := some .boolean }, accessFlags := 1, code := some k6c0 }
def k6c1 : Code := { maxStack := 1, maxLocals := 1, code := prog_13_method_8_code, exceptionTable := #[], attributes := #[] }
def k6m1 : Method := { name := "toString", desc := "()Ljava/lang/String;", sig := { parameters := [], returnType := some (.object "java/lang/String") }, accessFlags := 1, code := some k6c1 }
/-- com/example/gard/gard/core/Condition$Operator -/
def k6 : Class := { plain "com/example/gard/gard/core/Condition$Operator" (some 5) with
  accessFlags := 16433
  interfaces := #[]
  cf := some (fileOf pool6 1 #[.nestHost 149] #[{ accessFlags := 1, nameIndex := 138, descriptorIndex := 139, attributes := #[] }, { accessFlags := 1, nameIndex := 141, descriptorIndex := 142, attributes := #[] }] 16433 32 #[] #[{ accessFlags := 16409, nameIndex := 5, descriptorIndex := 6, attributes := #[] }, { accessFlags := 16409, nameIndex := 9, descriptorIndex := 6, attributes := #[] }, { accessFlags := 16409, nameIndex := 12, descriptorIndex := 6, attributes := #[] }, { accessFlags := 16409, nameIndex := 15, descriptorIndex := 6, attributes := #[] }, { accessFlags := 16409, nameIndex := 18, descriptorIndex := 6, attributes := #[] }, { accessFlags := 16409, nameIndex := 21, descriptorIndex := 6, attributes := #[] }, { accessFlags := 18, nameIndex := 43, descriptorIndex := 44, attributes := #[] }, { accessFlags := 4122, nameIndex := 24, descriptorIndex := 25, attributes := #[] }])
  fields := #[{ name := "EQUAL", type := (.object "com/example/gard/gard/core/Condition$Operator"), accessFlags := 16409, slot := 0, constantValue := 0 }, { name := "NOT_EQUAL", type := (.object "com/example/gard/gard/core/Condition$Operator"), accessFlags := 16409, slot := 1, constantValue := 0 }, { name := "LESS", type := (.object "com/example/gard/gard/core/Condition$Operator"), accessFlags := 16409, slot := 2, constantValue := 0 }, { name := "LESS_OR_EQUAL", type := (.object "com/example/gard/gard/core/Condition$Operator"), accessFlags := 16409, slot := 3, constantValue := 0 }, { name := "GREATER", type := (.object "com/example/gard/gard/core/Condition$Operator"), accessFlags := 16409, slot := 4, constantValue := 0 }, { name := "GREATER_OR_EQUAL", type := (.object "com/example/gard/gard/core/Condition$Operator"), accessFlags := 16409, slot := 5, constantValue := 0 }, { name := "symbol", type := (.object "java/lang/String"), accessFlags := 18, slot := 3, constantValue := 0 }, { name := "$VALUES", type := (.array (.object "com/example/gard/gard/core/Condition$Operator")), accessFlags := 4122, slot := 6, constantValue := 0 }]
  methods := #[k6m0, k6m1]
  instanceTypes := #[(.object "java/lang/String"), .int, .int, (.object "java/lang/String")]
  staticTypes := #[(.object "com/example/gard/gard/core/Condition$Operator"), (.object "com/example/gard/gard/core/Condition$Operator"), (.object "com/example/gard/gard/core/Condition$Operator"), (.object "com/example/gard/gard/core/Condition$Operator"), (.object "com/example/gard/gard/core/Condition$Operator"), (.object "com/example/gard/gard/core/Condition$Operator"), (.array (.object "com/example/gard/gard/core/Condition$Operator"))]
  resolved := Array.replicate 153 none
  statics := some 0 }

def pool7 : Array CpInfo := pool [(2, .class_ 4), (1, u "java/lang/CharSequence"), (42, .class_ 48), (0, u "java/lang/CharSequence$1CodePointIterator"), (10, .class_ 60), (0, u "java/lang/CharSequence$1CharIterator"), (5, .class_ 67), (0, u "java/lang/Object")] 63

/-- java/lang/CharSequence -/
def k7 : Class := { plain "java/lang/CharSequence" (some 0) with
  accessFlags := 1537
  interfaces := #[]
  cf := some (fileOf pool7 2 #[.nestMembers #[47, 59]] #[] 1537 66 #[] #[])
  fields := #[]
  methods := #[]
  instanceTypes := #[]
  staticTypes := #[]
  resolved := Array.replicate 131 none
  statics := none }

def pool8 : Array CpInfo := pool [(1, .class_ 2), (0, u "java/lang/constant/ConstantDesc"), (0, .class_ 4), (0, u "java/lang/Object")] 32

/-- java/lang/constant/ConstantDesc -/
def k8 : Class := { plain "java/lang/constant/ConstantDesc" (some 0) with
  accessFlags := 1537
  interfaces := #[]
  cf := some (fileOf pool8 1 #[] #[] 1537 3 #[] #[])
  fields := #[]
  methods := #[]
  instanceTypes := #[]
  staticTypes := #[]
  resolved := Array.replicate 37 none
  statics := none }

def pool9 : Array CpInfo := pool [(2, .class_ 4), (1, u "java/lang/Object"), (0, u "<init>"), (0, u "()V"), (2, .fieldref 10 11), (0, .class_ 12), (0, .nameAndType 13 14), (0, u "java/lang/String"), (0, u "value"), (0, u "[B"), (0, .fieldref 10 16), (0, .nameAndType 17 18), (0, u "coder"), (0, u "B"), (2, u "hash"), (0, u "I"), (2, u "hashIsZero"), (0, u "Z"), (11, .fieldref 10 39), (0, .nameAndType 40 26), (0, u "COMPACT_STRINGS"), (66, .class_ 109), (1, u "java/lang/StringLatin1"), (32, u "()Z"), (220, u "([BI)C"), (27, u "(II)V"), (35, u "(I)C"), (64, .methodref 10 493), (0, .nameAndType 494 142), (0, u "isLatin1"), (0, .methodref 107 496), (0, .nameAndType 497 363), (0, u "charAt"), (3, u "checkIndex"), (73, .class_ 576), (0, u "java/lang/CharSequence"), (22, u "CASE_INSENSITIVE_ORDER"), (0, u "Ljava/util/Comparator;"), (452, .fieldref 1054 1055), (0, .class_ 1056), (0, .nameAndType 1057 1058), (0, u "jdk/internal/util/Preconditions"), (0, u "SIOOBE_FORMATTER"), (0, u "Ljava/util/function/BiFunction;"), (0, .methodref 1054 1060), (0, .nameAndType 501 1061), (0, u "(IILjava/util/function/BiFunction;)I"), (39, u "serialPersistentFields"), (0, u "[Ljava/io/ObjectStreamField;"), (0, .class_ 1104), (0, u "java/lang/String$CaseInsensitiveComparator"), (1, .class_ 1107), (0, u "java/io/Serializable"), (0, .class_ 1109), (0, u "java/lang/Comparable"), (0, .class_ 1111), (0, u "java/lang/constant/Constable"), (0, .class_ 1113), (0, u "java/lang/constant/ConstantDesc"), (2, u "serialVersionUID"), (0, u "J"), (3, u "REPL"), (0, u "C"), (2, u "LATIN1"), (1, u "UTF16")] 323

def k9m0 : Method := { name := "<init>", desc := "()V", sig := { parameters := [], returnType := none }, accessFlags := 1, code := none }
def k9c1 : Code := { maxStack := 2, maxLocals := 2, code := jdk_42_method_56_code, exceptionTable := #[], attributes := #[] }
def k9m1 : Method := { name := "charAt", desc := "(I)C", sig := { parameters := [.int], returnType := some .char }, accessFlags := 1, code := some k9c1 }
def k9c2 : Code := { maxStack := 1, maxLocals := 1, code := jdk_42_method_154_code, exceptionTable := #[], attributes := #[] }
def k9m2 : Method := { name := "isLatin1", desc := "()Z", sig := { parameters := [], returnType := some .boolean }, accessFlags := 0, code := some k9c2 }
def k9c3 : Code := { maxStack := 3, maxLocals := 2, code := jdk_42_method_155_code, exceptionTable := #[], attributes := #[] }
def k9m3 : Method := { name := "checkIndex", desc := "(II)V", sig := { parameters := [.int, .int], returnType := none }, accessFlags := 8, code := some k9c3 }
/-- java/lang/String -/
def k9 : Class := { plain "java/lang/String" (some 0) with
  accessFlags := 49
  interfaces := #[4, 3, 7, 2, 8]
  cf := some (fileOf pool9 10 #[.nestMembers #[1103]] #[{ accessFlags := 1, nameIndex := 5, descriptorIndex := 6, attributes := #[] }, { accessFlags := 1, nameIndex := 497, descriptorIndex := 427, attributes := #[] }, { accessFlags := 0, nameIndex := 494, descriptorIndex := 142, attributes := #[] }, { accessFlags := 8, nameIndex := 501, descriptorIndex := 391, attributes := #[] }] 49 2 #[1106, 1108, 575, 1110, 1112] #[{ accessFlags := 18, nameIndex := 13, descriptorIndex := 14, attributes := #[] }, { accessFlags := 18, nameIndex := 17, descriptorIndex := 18, attributes := #[] }, { accessFlags := 2, nameIndex := 21, descriptorIndex := 22, attributes := #[] }, { accessFlags := 2, nameIndex := 25, descriptorIndex := 26, attributes := #[] }, { accessFlags := 26, nameIndex := 1116, descriptorIndex := 1117, attributes := #[] }, { accessFlags := 24, nameIndex := 40, descriptorIndex := 26, attributes := #[] }, { accessFlags := 26, nameIndex := 1101, descriptorIndex := 1102, attributes := #[] }, { accessFlags := 26, nameIndex := 1121, descriptorIndex := 1122, attributes := #[] }, { accessFlags := 25, nameIndex := 599, descriptorIndex := 600, attributes := #[] }, { accessFlags := 24, nameIndex := 1125, descriptorIndex := 18, attributes := #[] }, { accessFlags := 24, nameIndex := 1127, descriptorIndex := 18, attributes := #[] }])
  fields := #[{ name := "value", type := (.array .byte), accessFlags := 18, slot := 0, constantValue := 0 }, { name := "coder", type := .byte, accessFlags := 18, slot := 1, constantValue := 0 }, { name := "hash", type := .int, accessFlags := 2, slot := 2, constantValue := 0 }, { name := "hashIsZero", type := .boolean, accessFlags := 2, slot := 3, constantValue := 0 }, { name := "serialVersionUID", type := .long, accessFlags := 26, slot := 0, constantValue := 0 }, { name := "COMPACT_STRINGS", type := .boolean, accessFlags := 24, slot := 1, constantValue := 0 }, { name := "serialPersistentFields", type := (.array (.object "java/io/ObjectStreamField")), accessFlags := 26, slot := 2, constantValue := 0 }, { name := "REPL", type := .char, accessFlags := 26, slot := 3, constantValue := 0 }, { name := "CASE_INSENSITIVE_ORDER", type := (.object "java/util/Comparator"), accessFlags := 25, slot := 4, constantValue := 0 }, { name := "LATIN1", type := .byte, accessFlags := 24, slot := 5, constantValue := 0 }, { name := "UTF16", type := .byte, accessFlags := 24, slot := 6, constantValue := 0 }]
  methods := #[k9m0, k9m1, k9m2, k9m3]
  instanceTypes := #[(.array .byte), .byte, .int, .boolean]
  staticTypes := #[.long, .boolean, (.array (.object "java/io/ObjectStreamField")), .char, (.object "java/util/Comparator"), .byte, .byte]
  resolved := Array.replicate 1451 none
  statics := some 1 }

def pool10 : Array CpInfo := pool [(1, .class_ 2), (0, u "java/lang/String"), (1, .class_ 6), (1, u "java/lang/Object"), (0, u "<init>"), (0, u "()V"), (0, .methodref 1 10), (0, .nameAndType 11 12), (0, u "checkIndex"), (0, u "(II)V"), (1, .class_ 16), (1, u "java/lang/StringLatin1"), (36, u "([BI)C"), (67, u "$assertionsDisabled"), (0, u "Z"), (98, .class_ 223), (1, u "java/lang/StringLatin1$LinesSpliterator"), (28, u "charAt"), (137, .class_ 391), (0, u "java/lang/StringLatin1$CharsSpliterator")] 3

def k10m0 : Method := { name := "<init>", desc := "()V", sig := { parameters := [], returnType := none }, accessFlags := 0, code := none }
def k10c1 : Code := { maxStack := 2, maxLocals := 2, code := jdk_43_method_2_code, exceptionTable := #[], attributes := #[] }
def k10m1 : Method := { name := "charAt", desc := "([BI)C", sig := { parameters := [(.array .byte), .int], returnType := some .char }, accessFlags := 9, code := some k10c1 }
/-- java/lang/StringLatin1 -/
def k10 : Class := { plain "java/lang/StringLatin1" (some 0) with
  accessFlags := 48
  interfaces := #[]
  cf := some (fileOf pool10 14 #[.nestMembers #[390, 221]] #[{ accessFlags := 0, nameIndex := 7, descriptorIndex := 8, attributes := #[] }, { accessFlags := 9, nameIndex := 252, descriptorIndex := 53, attributes := #[] }] 48 4 #[] #[{ accessFlags := 4120, nameIndex := 121, descriptorIndex := 122, attributes := #[] }])
  fields := #[{ name := "$assertionsDisabled", type := .boolean, accessFlags := 4120, slot := 0, constantValue := 0 }]
  methods := #[k10m0, k10m1]
  instanceTypes := #[]
  staticTypes := #[.boolean]
  resolved := Array.replicate 395 none
  statics := none }

def pool11 : Array CpInfo := pool [(2, .class_ 4), (1, u "java/lang/Object"), (0, u "<init>"), (0, u "()V"), (17, .class_ 26), (1, u "jdk/internal/util/Preconditions"), (6, u "checkIndex"), (21, .class_ 56), (0, u "jdk/internal/util/Preconditions$4"), (57, .class_ 115), (0, u "jdk/internal/util/Preconditions$1"), (7, u "SIOOBE_FORMATTER"), (0, u "Ljava/util/function/BiFunction;"), (0, .class_ 126), (0, u "jdk/internal/util/Preconditions$2"), (3, u "AIOOBE_FORMATTER"), (0, .class_ 132), (0, u "jdk/internal/util/Preconditions$3"), (3, u "IOOBE_FORMATTER"), (41, u "(IILjava/util/function/BiFunction;)I")] 15

def k11m0 : Method := { name := "<init>", desc := "()V", sig := { parameters := [], returnType := none }, accessFlags := 1, code := none }
def k11c1 : Code := { maxStack := 3, maxLocals := 3, code := jdk_41_method_11_code, exceptionTable := #[], attributes := #[] }
def k11m1 : Method := { name := "checkIndex", desc := "(IILjava/util/function/BiFunction;)I", sig := { parameters := [.int, .int, (.object "java/util/function/BiFunction")], returnType := some .int }, accessFlags := 9, code := some k11c1 }
/-- jdk/internal/util/Preconditions -/
def k11 : Class := { plain "jdk/internal/util/Preconditions" (some 0) with
  accessFlags := 33
  interfaces := #[]
  cf := some (fileOf pool11 24 #[.nestMembers #[55, 131, 125, 114]] #[{ accessFlags := 1, nameIndex := 5, descriptorIndex := 6, attributes := #[] }, { accessFlags := 9, nameIndex := 33, descriptorIndex := 178, attributes := #[] }] 33 2 #[] #[{ accessFlags := 25, nameIndex := 123, descriptorIndex := 124, attributes := #[] }, { accessFlags := 25, nameIndex := 130, descriptorIndex := 124, attributes := #[] }, { accessFlags := 25, nameIndex := 136, descriptorIndex := 124, attributes := #[] }])
  fields := #[{ name := "SIOOBE_FORMATTER", type := (.object "java/util/function/BiFunction"), accessFlags := 25, slot := 0, constantValue := 0 }, { name := "AIOOBE_FORMATTER", type := (.object "java/util/function/BiFunction"), accessFlags := 25, slot := 1, constantValue := 0 }, { name := "IOOBE_FORMATTER", type := (.object "java/util/function/BiFunction"), accessFlags := 25, slot := 2, constantValue := 0 }]
  methods := #[k11m0, k11m1]
  instanceTypes := #[]
  staticTypes := #[(.object "java/util/function/BiFunction"), (.object "java/util/function/BiFunction"), (.object "java/util/function/BiFunction")]
  resolved := Array.replicate 194 none
  statics := some 2 }

def pool12 : Array CpInfo := pool [(9, u "<init>"), (6, .class_ 18), (1, u "java/lang/Object"), (0, u "()V"), (1, .class_ 23), (1, u "jdk/internal/util/ArraysSupport"), (0, u "LOG2_ARRAY_LONG_INDEX_SCALE"), (0, u "I"), (2, u "U"), (0, u "Ljdk/internal/misc/Unsafe;"), (8, u "BIG_ENDIAN"), (0, u "Z"), (8, u "LOG2_BYTE_BIT_SIZE"), (4, u "LOG2_ARRAY_INT_INDEX_SCALE"), (54, u "JLA"), (0, u "Ljdk/internal/access/JavaLangAccess;"), (11, u "LOG2_ARRAY_BOOLEAN_INDEX_SCALE"), (9, u "LOG2_ARRAY_BYTE_INDEX_SCALE"), (5, u "LOG2_ARRAY_CHAR_INDEX_SCALE"), (5, u "LOG2_ARRAY_SHORT_INDEX_SCALE"), (18, u "LOG2_ARRAY_FLOAT_INDEX_SCALE"), (24, u "LOG2_ARRAY_DOUBLE_INDEX_SCALE"), (89, u "T_BOOLEAN"), (2, u "T_CHAR"), (1, u "T_FLOAT"), (1, u "T_DOUBLE"), (1, u "T_BYTE"), (1, u "T_SHORT"), (1, u "T_INT"), (1, u "T_LONG"), (1, u "SOFT_MAX_ARRAY_LENGTH")] 83

def k12m0 : Method := { name := "<init>", desc := "()V", sig := { parameters := [], returnType := none }, accessFlags := 2, code := none }
/-- jdk/internal/util/ArraysSupport -/
def k12 : Class := { plain "jdk/internal/util/ArraysSupport" (some 0) with
  accessFlags := 33
  interfaces := #[]
  cf := some (fileOf pool12 21 #[] #[{ accessFlags := 2, nameIndex := 9, descriptorIndex := 19, attributes := #[] }] 33 16 #[] #[{ accessFlags := 24, nameIndex := 28, descriptorIndex := 29, attributes := #[] }, { accessFlags := 26, nameIndex := 38, descriptorIndex := 39, attributes := #[] }, { accessFlags := 25, nameIndex := 121, descriptorIndex := 25, attributes := #[] }, { accessFlags := 25, nameIndex := 131, descriptorIndex := 25, attributes := #[] }, { accessFlags := 25, nameIndex := 137, descriptorIndex := 25, attributes := #[] }, { accessFlags := 25, nameIndex := 143, descriptorIndex := 25, attributes := #[] }, { accessFlags := 25, nameIndex := 53, descriptorIndex := 25, attributes := #[] }, { accessFlags := 25, nameIndex := 24, descriptorIndex := 25, attributes := #[] }, { accessFlags := 25, nameIndex := 162, descriptorIndex := 25, attributes := #[] }, { accessFlags := 25, nameIndex := 187, descriptorIndex := 25, attributes := #[] }, { accessFlags := 26, nameIndex := 48, descriptorIndex := 25, attributes := #[] }, { accessFlags := 25, nameIndex := 277, descriptorIndex := 25, attributes := #[] }, { accessFlags := 25, nameIndex := 280, descriptorIndex := 25, attributes := #[] }, { accessFlags := 25, nameIndex := 282, descriptorIndex := 25, attributes := #[] }, { accessFlags := 25, nameIndex := 284, descriptorIndex := 25, attributes := #[] }, { accessFlags := 25, nameIndex := 286, descriptorIndex := 25, attributes := #[] }, { accessFlags := 25, nameIndex := 288, descriptorIndex := 25, attributes := #[] }, { accessFlags := 25, nameIndex := 290, descriptorIndex := 25, attributes := #[] }, { accessFlags := 25, nameIndex := 292, descriptorIndex := 25, attributes := #[] }, { accessFlags := 26, nameIndex := 108, descriptorIndex := 109, attributes := #[] }, { accessFlags := 25, nameIndex := 294, descriptorIndex := 25, attributes := #[] }])
  fields := #[{ name := "U", type := (.object "jdk/internal/misc/Unsafe"), accessFlags := 24, slot := 0, constantValue := 0 }, { name := "BIG_ENDIAN", type := .boolean, accessFlags := 26, slot := 1, constantValue := 0 }, { name := "LOG2_ARRAY_BOOLEAN_INDEX_SCALE", type := .int, accessFlags := 25, slot := 2, constantValue := 0 }, { name := "LOG2_ARRAY_BYTE_INDEX_SCALE", type := .int, accessFlags := 25, slot := 3, constantValue := 0 }, { name := "LOG2_ARRAY_CHAR_INDEX_SCALE", type := .int, accessFlags := 25, slot := 4, constantValue := 0 }, { name := "LOG2_ARRAY_SHORT_INDEX_SCALE", type := .int, accessFlags := 25, slot := 5, constantValue := 0 }, { name := "LOG2_ARRAY_INT_INDEX_SCALE", type := .int, accessFlags := 25, slot := 6, constantValue := 0 }, { name := "LOG2_ARRAY_LONG_INDEX_SCALE", type := .int, accessFlags := 25, slot := 7, constantValue := 0 }, { name := "LOG2_ARRAY_FLOAT_INDEX_SCALE", type := .int, accessFlags := 25, slot := 8, constantValue := 0 }, { name := "LOG2_ARRAY_DOUBLE_INDEX_SCALE", type := .int, accessFlags := 25, slot := 9, constantValue := 0 }, { name := "LOG2_BYTE_BIT_SIZE", type := .int, accessFlags := 26, slot := 10, constantValue := 0 }, { name := "T_BOOLEAN", type := .int, accessFlags := 25, slot := 11, constantValue := 0 }, { name := "T_CHAR", type := .int, accessFlags := 25, slot := 12, constantValue := 0 }, { name := "T_FLOAT", type := .int, accessFlags := 25, slot := 13, constantValue := 0 }, { name := "T_DOUBLE", type := .int, accessFlags := 25, slot := 14, constantValue := 0 }, { name := "T_BYTE", type := .int, accessFlags := 25, slot := 15, constantValue := 0 }, { name := "T_SHORT", type := .int, accessFlags := 25, slot := 16, constantValue := 0 }, { name := "T_INT", type := .int, accessFlags := 25, slot := 17, constantValue := 0 }, { name := "T_LONG", type := .int, accessFlags := 25, slot := 18, constantValue := 0 }, { name := "JLA", type := (.object "jdk/internal/access/JavaLangAccess"), accessFlags := 26, slot := 19, constantValue := 0 }, { name := "SOFT_MAX_ARRAY_LENGTH", type := .int, accessFlags := 25, slot := 20, constantValue := 0 }]
  methods := #[k12m0]
  instanceTypes := #[]
  staticTypes := #[(.object "jdk/internal/misc/Unsafe"), .boolean, .int, .int, .int, .int, .int, .int, .int, .int, .int, .int, .int, .int, .int, .int, .int, .int, .int, (.object "jdk/internal/access/JavaLangAccess"), .int]
  resolved := Array.replicate 378 none
  statics := none }

def pool13 : Array CpInfo := pool [(1, u "java/lang/Cloneable"), (0, .class_ 1), (0, u "java/lang/Object"), (0, .class_ 3)] 3

/-- java/lang/Cloneable -/
def k13 : Class := { plain "java/lang/Cloneable" (some 0) with
  accessFlags := 1537
  interfaces := #[]
  cf := some (fileOf pool13 2 #[] #[] 1537 4 #[] #[])
  fields := #[]
  methods := #[]
  instanceTypes := #[]
  staticTypes := #[]
  resolved := Array.replicate 8 none
  statics := none }

/-- the primitive byte -/
def k14 : Class := { plain "byte" none with kind := .primitive 'B', accessFlags := 0x411 }
/-- [B -/
def k15 : Class := { plain "[B" (some 0) with kind := .array 14 .byte, interfaces := #[13, 4], accessFlags := 1041 }

/-- the primitive int -/
def k16 : Class := { plain "int" none with kind := .primitive 'I', accessFlags := 0x411 }
/-- [I -/
def k17 : Class := { plain "[I" (some 0) with kind := .array 16 .int, interfaces := #[13, 4], accessFlags := 1041 }

def heap : Heap := #[{ cls := 6, slots := #[.ref 3, .ref 9, .ref 10, .ref 6, .ref 18, .ref 15, .null], vm := .statics 6 },
  { cls := 9, slots := #[.long 0, .int 1, .null, .int 0, .null, .int 0, .int 0], vm := .statics 9 },
  { cls := 11, slots := #[.null, .null, .null], vm := .statics 11 },
  { cls := 6, slots := #[.null, .int 0, .int 0, .ref 4], vm := .none },
  { cls := 9, slots := #[.ref 5, .int 0, .int 0, .int 0], vm := .none },
  { cls := 15, slots := #[.int 61, .int 61], vm := .none },
  { cls := 6, slots := #[.null, .int 3, .int 0, .ref 7], vm := .none },
  { cls := 9, slots := #[.ref 8, .int 0, .int 0, .int 0], vm := .none },
  { cls := 15, slots := #[.int 60, .int 61], vm := .none },
  { cls := 6, slots := #[.null, .int 1, .int 0, .ref 13], vm := .none },
  { cls := 6, slots := #[.null, .int 2, .int 0, .ref 11], vm := .none },
  { cls := 9, slots := #[.ref 12, .int 0, .int 0, .int 0], vm := .none },
  { cls := 15, slots := #[.int 60], vm := .none },
  { cls := 9, slots := #[.ref 14, .int 0, .int 0, .int 0], vm := .none },
  { cls := 15, slots := #[.int 33, .int 61], vm := .none },
  { cls := 6, slots := #[.null, .int 5, .int 0, .ref 16], vm := .none },
  { cls := 9, slots := #[.ref 17, .int 0, .int 0, .int 0], vm := .none },
  { cls := 15, slots := #[.int 62, .int 61], vm := .none },
  { cls := 6, slots := #[.null, .int 4, .int 0, .ref 19], vm := .none },
  { cls := 9, slots := #[.ref 20, .int 0, .int 0, .int 0], vm := .none },
  { cls := 15, slots := #[.int 62], vm := .none }]
def classes : Array Class := #[k0, k1, k2, k3, k4, k5, k6, k7, k8, k9, k10, k11, k12, k13, k14, k15, k16, k17]
def interned : List (Array UInt16 × Addr) := []
def slotsUsed : Nat := 75
def theMethod : MethodId := ⟨1, 2⟩
def args0 : Array Value := #[.int 5]
def aboutOver (below : List Frame) : State where
  vm := { classes := classes, interned := interned.toArray }
  heap := heap
  slotsUsed := slotsUsed
  threads := #[{ frames := .invoking theMethod args0 :: below }]
def below0 : List Frame := [.native { method := ⟨0, 0⟩, args := #[] }]
def about1 : State := aboutOver below0
def p0 : Program := .bare "" "" ""
def e0 : Env := launch0.env 0 0 0
theorem w_frames : about1.frames = Frame.invoking theMethod args0 :: below0 := rfl
set_option maxRecDepth 65536 in
theorem w_args : argsFit about1.vm theMethod args0 = true := by decide +kernel
set_option maxRecDepth 65536 in
theorem w_heap : heapFits about1 = true := by decide +kernel
set_option maxRecDepth 65536 in
theorem w_runnable : about1.curStatus? = some .runnable := by decide +kernel
set_option maxRecDepth 65536 in
theorem w_alone : about1.alone = true := by decide +kernel
set_option maxRecDepth 65536 in
theorem w_named : about1.methodNamed? x = some theMethod := by decide +kernel
set_option maxRecDepth 65536 in
theorem w_hears : about1.hears theMethod below0 = true := by decide +kernel
set_option maxRecDepth 65536 in
theorem w_ripe : about1.ripe theMethod args0 below0 = true := by decide +kernel
theorem w_running : about1.status = .running := rfl
set_option maxRecDepth 65536 in
theorem w_room : about1.hasRoom e0.platform room_1 = true :=
  launch0.hasRoom_least _ room_1 (by decide +kernel) (by decide +kernel) (by decide +kernel) (by decide +kernel) (by decide +kernel) (by decide +kernel)
theorem allAtoms_all (ts : List Jvm.Cond) (a : Array Jvm.Value) (st : Jvm.State) : (allAtoms ts).before a st = ts.all (fun c => c.before a st) := by
  induction ts with
  | nil => rfl
  | cons c t ih =>
    show (Jvm.Cond.and c (allAtoms t)).before a st = _
    rw [Jvm.Cond.before_and, ih, List.all_cons]
def words1 : List Jvm.Cond := Jvm.Cond.code x code maxLocals ret :: tables_1
/-- a 'code' word, met by the world's own term for the bytes: nothing is compared byte by byte -/
theorem code_word {y : MethodName} {bytes : ByteArray} {mx : Nat} {rt : Option FieldType} {a : Array Value} {s : State} {m : MethodId} {meth : Method} {c : Code} (h1 : s.methodNamed? y = some m) (h2 : s.vm.method? m = some meth) (h3 : meth.code = some c) (h4 : c.code = bytes)
    (h5 : (c.maxLocals == mx && c.exceptionTable.isEmpty && decide (c.maxStack ≤ mostOperands) && decide (meth.sig.returnType = rt) && !meth.locks && decide (parseMethodDescriptor y.desc = some meth.sig)) = true) : (Jvm.Cond.code y bytes mx rt).before a s = true := by
  simp only [Bool.and_eq_true, beq_iff_eq, Bool.not_eq_true', decide_eq_true_eq] at h5
  obtain ⟨⟨⟨⟨⟨g1, g2⟩, g3⟩, g4⟩, g5⟩, g6⟩ := h5
  simp [Cond.before, Cond.holds, Cond.value, h1, h2, h3, h4, g1, g2, g3, g4, g5, g6]
def isCode : Jvm.Cond → Bool
  | .code _ _ _ _ => true
  | _ => false
theorem all_split {L : List Jvm.Cond} {P : Jvm.Cond → Bool} (h1 : L.all (fun c => isCode c || P c) = true) (h2 : ∀ c ∈ L.filter isCode, P c = true) : L.all P = true := by
  refine List.all_eq_true.mpr fun c hc => ?_
  have h := List.all_eq_true.mp h1 c hc
  rcases Bool.eq_false_or_eq_true (isCode c) with hi | hi
  · exact h2 c (List.mem_filter.mpr ⟨hc, hi⟩)
  · simpa [hi] using h
set_option maxRecDepth 65536 in
theorem w_c0 : (Jvm.Cond.code x code maxLocals ret).before args0 about1 = true := code_word (m := ⟨1, 2⟩) (meth := k1m2) (c := k1c2) (by decide +kernel) rfl rfl rfl (by decide +kernel)
set_option maxRecDepth 65536 in
theorem w_c1 : (Jvm.Cond.code ({ cls := "com/example/gard/gard/core/OperatorOrdersPinLaw", name := "pick", desc := "(I)Lcom/example/gard/gard/core/Condition$Operator;" } : Jvm.MethodName) method_2_code (1 : Nat) (Option.some (Jvm.ClassFile.FieldType.object "com/example/gard/gard/core/Condition$Operator"))).before args0 about1 = true := code_word (m := ⟨1, 1⟩) (meth := k1m1) (c := k1c1) (by decide +kernel) rfl rfl rfl (by decide +kernel)
set_option maxRecDepth 65536 in
theorem w_c2 : (Jvm.Cond.code ({ cls := "com/example/gard/gard/core/Condition$Operator", name := "toString", desc := "()Ljava/lang/String;" } : Jvm.MethodName) prog_13_method_8_code (1 : Nat) (Option.some (Jvm.ClassFile.FieldType.object "java/lang/String"))).before args0 about1 = true := code_word (m := ⟨6, 1⟩) (meth := k6m1) (c := k6c1) (by decide +kernel) rfl rfl rfl (by decide +kernel)
set_option maxRecDepth 65536 in
theorem w_c3 : (Jvm.Cond.code ({ cls := "java/lang/String", name := "charAt", desc := "(I)C" } : Jvm.MethodName) jdk_42_method_56_code (2 : Nat) (Option.some Jvm.ClassFile.FieldType.char)).before args0 about1 = true := code_word (m := ⟨9, 1⟩) (meth := k9m1) (c := k9c1) (by decide +kernel) rfl rfl rfl (by decide +kernel)
set_option maxRecDepth 65536 in
theorem w_c4 : (Jvm.Cond.code ({ cls := "java/lang/String", name := "isLatin1", desc := "()Z" } : Jvm.MethodName) jdk_42_method_154_code (1 : Nat) (Option.some Jvm.ClassFile.FieldType.boolean)).before args0 about1 = true := code_word (m := ⟨9, 2⟩) (meth := k9m2) (c := k9c2) (by decide +kernel) rfl rfl rfl (by decide +kernel)
set_option maxRecDepth 65536 in
theorem w_c5 : (Jvm.Cond.code ({ cls := "java/lang/StringLatin1", name := "charAt", desc := "([BI)C" } : Jvm.MethodName) jdk_43_method_2_code (2 : Nat) (Option.some Jvm.ClassFile.FieldType.char)).before args0 about1 = true := code_word (m := ⟨10, 1⟩) (meth := k10m1) (c := k10c1) (by decide +kernel) rfl rfl rfl (by decide +kernel)
set_option maxRecDepth 65536 in
theorem w_c6 : (Jvm.Cond.code ({ cls := "java/lang/String", name := "checkIndex", desc := "(II)V" } : Jvm.MethodName) jdk_42_method_155_code (2 : Nat) (Option.none : Option Jvm.ClassFile.FieldType)).before args0 about1 = true := code_word (m := ⟨9, 3⟩) (meth := k9m3) (c := k9c3) (by decide +kernel) rfl rfl rfl (by decide +kernel)
set_option maxRecDepth 65536 in
theorem w_c7 : (Jvm.Cond.code ({ cls := "jdk/internal/util/Preconditions", name := "checkIndex", desc := "(IILjava/util/function/BiFunction;)I" } : Jvm.MethodName) jdk_41_method_11_code (3 : Nat) (Option.some Jvm.ClassFile.FieldType.int)).before args0 about1 = true := code_word (m := ⟨11, 1⟩) (meth := k11m1) (c := k11c1) (by decide +kernel) rfl rfl rfl (by decide +kernel)
set_option maxRecDepth 65536 in
theorem w_c8 : (Jvm.Cond.code ({ cls := "com/example/gard/gard/core/Condition$Operator", name := "orders", desc := "()Z" } : Jvm.MethodName) prog_13_method_5_code (1 : Nat) (Option.some Jvm.ClassFile.FieldType.boolean)).before args0 about1 = true := code_word (m := ⟨6, 0⟩) (meth := k6m0) (c := k6c0) (by decide +kernel) rfl rfl rfl (by decide +kernel)
def codes1 : List Jvm.Cond := [Jvm.Cond.code x code maxLocals ret, Jvm.Cond.code ({ cls := "com/example/gard/gard/core/OperatorOrdersPinLaw", name := "pick", desc := "(I)Lcom/example/gard/gard/core/Condition$Operator;" } : Jvm.MethodName) method_2_code (1 : Nat) (Option.some (Jvm.ClassFile.FieldType.object "com/example/gard/gard/core/Condition$Operator")), Jvm.Cond.code ({ cls := "com/example/gard/gard/core/Condition$Operator", name := "toString", desc := "()Ljava/lang/String;" } : Jvm.MethodName) prog_13_method_8_code (1 : Nat) (Option.some (Jvm.ClassFile.FieldType.object "java/lang/String")), Jvm.Cond.code ({ cls := "java/lang/String", name := "charAt", desc := "(I)C" } : Jvm.MethodName) jdk_42_method_56_code (2 : Nat) (Option.some Jvm.ClassFile.FieldType.char), Jvm.Cond.code ({ cls := "java/lang/String", name := "isLatin1", desc := "()Z" } : Jvm.MethodName) jdk_42_method_154_code (1 : Nat) (Option.some Jvm.ClassFile.FieldType.boolean), Jvm.Cond.code ({ cls := "java/lang/StringLatin1", name := "charAt", desc := "([BI)C" } : Jvm.MethodName) jdk_43_method_2_code (2 : Nat) (Option.some Jvm.ClassFile.FieldType.char), Jvm.Cond.code ({ cls := "java/lang/String", name := "checkIndex", desc := "(II)V" } : Jvm.MethodName) jdk_42_method_155_code (2 : Nat) (Option.none : Option Jvm.ClassFile.FieldType), Jvm.Cond.code ({ cls := "jdk/internal/util/Preconditions", name := "checkIndex", desc := "(IILjava/util/function/BiFunction;)I" } : Jvm.MethodName) jdk_41_method_11_code (3 : Nat) (Option.some Jvm.ClassFile.FieldType.int), Jvm.Cond.code ({ cls := "com/example/gard/gard/core/Condition$Operator", name := "orders", desc := "()Z" } : Jvm.MethodName) prog_13_method_5_code (1 : Nat) (Option.some Jvm.ClassFile.FieldType.boolean)]
set_option maxRecDepth 65536 in
theorem codes_eq : words1.filter isCode = codes1 := rfl
theorem w_codes : ∀ c ∈ words1.filter isCode, c.before args0 about1 = true := by
  rw [codes_eq]
  intro c hc
  simp only [codes1, List.mem_cons, List.not_mem_nil, or_false] at hc
  rcases hc with rfl | rfl | rfl | rfl | rfl | rfl | rfl | rfl | rfl
  · exact w_c0
  · exact w_c1
  · exact w_c2
  · exact w_c3
  · exact w_c4
  · exact w_c5
  · exact w_c6
  · exact w_c7
  · exact w_c8
set_option maxRecDepth 65536 in
theorem w_t1 : (words1.take 24).all (fun c => isCode c || c.before args0 about1) = true := by decide +kernel
set_option maxRecDepth 65536 in
theorem w_t2 : ((words1.drop 24).take 24).all (fun c => isCode c || c.before args0 about1) = true := by decide +kernel
set_option maxRecDepth 65536 in
theorem w_t3 : ((words1.drop 24).drop 24).all (fun c => isCode c || c.before args0 about1) = true := by decide +kernel
theorem w_tables : (allAtoms (Jvm.Cond.code x code maxLocals ret :: tables_1)).before args0 about1 = true := by
  rw [allAtoms_all]
  show words1.all (fun c => c.before args0 about1) = true
  refine all_split ?_ w_codes
  rw [← List.take_append_drop 24 words1, List.all_append, w_t1, ← List.take_append_drop 24 (words1.drop 24), List.all_append, w_t2, w_t3]
  rfl
set_option maxRecDepth 65536 in
theorem w_rest : rest_1_c.before args0 about1 = true := by decide +kernel
set_option maxRecDepth 65536 in
theorem w_case : (Jvm.Cond.and given_1 narrow_1).before args0 about1 = true := by decide +kernel
theorem w_applies : (headSpec (Jvm.Cond.code x code maxLocals ret :: tables_1) room_1).applies x e0.platform about1 = true :=
  (Spec.applies_iff w_frames).mpr ⟨w_running, w_runnable, w_alone, w_named, w_hears, w_ripe, w_room, w_tables⟩
theorem atStart : AtStart classFile x code maxLocals ret World_1 tables_1 room_1 Calls_1 rest_1 Pre_1 launch0 p0 e0 about1 theMethod args0 below0 :=
  ⟨lists_1, trivial, launch0.admits_env _ _ _, launch0.least_env, fairChoices_fair.cas, fairChoices_fair.clock, w_frames, w_args, w_heap, w_applies, trivial, w_rest, w_case⟩
end start1
theorem witness_1 : WitnessClaimed_1 := ⟨start1.p0, start1.e0, start1.about1, start1.theMethod, start1.args0, start1.below0, start1.atStart⟩
end Jvm.Pilot.@@N@@
