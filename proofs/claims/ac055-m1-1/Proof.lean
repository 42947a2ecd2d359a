import JvmDerived
import JvmDerived.Pilot.@@N@@Statement
import JvmDerived.Pilot.@@N@@Code
set_option linter.unusedVariables false
set_option linter.unusedSimpArgs false
@@BLOCK:NumsL.lean.txt@@
namespace Jvm.Pilot.@@N@@
open Jvm Jvm.ClassFile Sem Op Lib Jvm.Free Jvm.Stand Jvm.LawKit Jvm.RoadKit Bundle Jvm.Pilot.@@N@@.Jvm.D
theorem own_retI {p : Program} {l : Launch} {e : Env} {R : Room} {s : State} {m : MethodId} {args : Array Value} {below : List Frame} {meth : Method} {c : Code} {T : State} {locs : List Loc} {cells slots : Nat} (X : Stand p l e R s m args below meth c T locs cells slots) (hx : p.tables.exec = Jvm.exec) {pc : Nat} {Ls : Array Slot} {z : Int32} {rest : List Value} (hret : meth.sig.returnType = some .int) (hd : decode c.code pc = .ok (.ireturn, 1)) {fs : List Frame}
    (hl : ∀ (f : JFrame) (acts : List Action), f.method = m → f.locked = none → f.entered = [] → (doReturn e (T.setTop f) acts (some (.int z))).1 = T.setFrames fs) : Steps p.tables e below (T.setTop (mkF m pc Ls (.int z :: rest))) (T.setFrames fs) :=
  retOut X hx hret rfl (Or.inl ⟨rfl, Or.inl rfl, z, rfl⟩) hd hl
theorem own_retA {p : Program} {l : Launch} {e : Env} {R : Room} {s : State} {m : MethodId} {args : Array Value} {below : List Frame} {meth : Method} {c : Code} {T : State} {locs : List Loc} {cells slots : Nat} (X : Stand p l e R s m args below meth c T locs cells slots) (hx : p.tables.exec = Jvm.exec) {pc : Nat} {Ls : Array Slot} {w : Value} {t : FieldType} {rest : List Value} (hret : meth.sig.returnType = some t) (ht : t.isReference = true) (hw : w.isRef = true) (hn : narrow t w = w) (hd : decode c.code pc = .ok (.areturn, 1)) {fs : List Frame}
    (hl : ∀ (f : JFrame) (acts : List Action), f.method = m → f.locked = none → f.entered = [] → (doReturn e (T.setTop f) acts (some w)).1 = T.setFrames fs) : Steps p.tables e below (T.setTop (mkF m pc Ls (w :: rest))) (T.setFrames fs) :=
  retOut X hx hret hn (Or.inr (Or.inr (Or.inr (Or.inr ⟨rfl, ht, hw⟩)))) hd hl
theorem own_retJ {p : Program} {l : Launch} {e : Env} {R : Room} {s : State} {m : MethodId} {args : Array Value} {below : List Frame} {meth : Method} {c : Code} {T : State} {locs : List Loc} {cells slots : Nat} (X : Stand p l e R s m args below meth c T locs cells slots) (hx : p.tables.exec = Jvm.exec) {pc : Nat} {Ls : Array Slot} {z : Int64} {rest : List Value} (hret : meth.sig.returnType = some .long) (hd : decode c.code pc = .ok (.lreturn, 1)) {fs : List Frame}
    (hl : ∀ (f : JFrame) (acts : List Action), f.method = m → f.locked = none → f.entered = [] → (doReturn e (T.setTop f) acts (some (.long z))).1 = T.setFrames fs) : Steps p.tables e below (T.setTop (mkF m pc Ls (.long z :: rest))) (T.setFrames fs) :=
  retOut X hx hret rfl (Or.inr (Or.inl ⟨rfl, rfl, z, rfl⟩)) hd hl
theorem own_exttr {h0 h h' : Heap} (E : Ext h0 h) (E' : Ext h h') : Ext h0 h' := ⟨Nat.le_trans E.1 E'.1, fun a c q => E'.2 _ _ (E.2 _ _ q)⟩
theorem own_extwr {h0 h h' : Heap} {a : Addr} {sl : Nat} {v : Value} (E : Ext h0 h) (W : Wr h h' a sl v) (q : h0.size ≤ a) : Ext h0 h' := by
  refine ⟨Nat.le_trans E.1 (Nat.le_of_eq W.size.symm), fun x c hc => ?_⟩
  obtain ⟨c', e1, -, -, -, e5, -⟩ := wr_at W (E.2 x c hc)
  have hx : x < h0.size := (Array.getElem?_eq_some_iff.mp hc).1
  rw [e5 (Nat.ne_of_lt (Nat.lt_of_lt_of_le hx q))] at e1
  exact e1
theorem own_wmono {s t : State} {o : Outcome} {L : List Loc} {k n k' n' : Nat} (h : ReturnedEndW s o t L k n) (hk : k ≤ k') (hn : n ≤ n') : ReturnedEndW s o t L k' n' := ⟨h.1, h.2.1, h.2.2.1, h.2.2.2.mono hk hn⟩
theorem own_strAtoms {Z : State} {a0 : Array Value} (w1 : (Jvm.Cond.initialized "java/lang/String").before a0 Z = true) (w2 : (Jvm.Cond.instantiable "java/lang/String" 4).before a0 Z = true) (w3 : (Jvm.Cond.arrayClass .byte).before a0 Z = true) (w4 : (Jvm.Cond.laysFinal "java/lang/String" "java/lang/String" "value" "[B").before a0 Z = true) (w5 : (Jvm.Cond.laysFinal "java/lang/String" "java/lang/String" "coder" "B").before a0 Z = true) (w6 : (Jvm.Cond.soleField "java/lang/String" "value").before a0 Z = true) (w7 : (Jvm.Cond.soleField "java/lang/String" "coder").before a0 Z = true) : ∀ a ∈ Bundle.stringAtoms, a.before a0 Z = true := by
  intro a ha
  simp only [Bundle.stringAtoms, List.mem_cons, List.not_mem_nil, or_false] at ha
  rcases ha with rfl | rfl | rfl | rfl | rfl | rfl | rfl <;> assumption
theorem own_extkeep {h0 h h' : Heap} {a : Addr} (E : Ext h0 h) (K : Keep h h' [a]) (q : h0.size ≤ a) : Ext h0 h' := ⟨Nat.le_trans E.1 K.1, fun x c hc => K.2.1 x c (E.2 x c hc) (fun hm => absurd (List.mem_singleton.mp hm) (Nat.ne_of_lt (Nat.lt_of_lt_of_le (Array.getElem?_eq_some_iff.mp hc).1 q)))⟩
theorem own_fld2 {Z : State} {h : Heap} {a : Addr} {C O n d O1 n1 d1 : String} {v1 : Value} {a0 : Array Value} {k : Nat} (E : Exa Z h a C) (F : Fld Z h a O1 n1 d1 v1) (L : Laid Z a0 C O n d) (wi : (Jvm.Cond.instantiable C k).before a0 Z = true) : ∃ v, Fld Z h a O n d v := by
  obtain ⟨cell, kc, h1, h2, h3, h4, h5⟩ := E
  obtain ⟨cell', cf', k', i', f', g1, -, -, g4, g5, -, -⟩ := F
  cases h1.symm.trans g1
  obtain ⟨c, k2, cf, kf, i, f, a1, a2, a3, a4, a5, a6, -⟩ := L.spec
  cases h2.symm.trans a1
  cases h3.symm.trans a2
  obtain ⟨c2, k3, i1, i2, i3, -⟩ := Cond.instantiable_spec wi
  cases h2.symm.trans i1
  cases h3.symm.trans i2
  have hs := h5 i3
  have hlt : f.slot < cell.slots.size := by rw [hs]; exact (Array.getElem?_eq_some_iff.mp a6).1
  exact ⟨cell.slots[f.slot], cell, cf, kf, i, f, h1, a3, a4, g4, g5, a5, Array.getElem?_eq_getElem hlt⟩
theorem own_retD {p : Program} {l : Launch} {e : Env} {R : Room} {s : State} {m : MethodId} {args : Array Value} {below : List Frame} {meth : Method} {c : Code} {T : State} {locs : List Loc} {cells slots : Nat} (X : Stand p l e R s m args below meth c T locs cells slots) (hx : p.tables.exec = Jvm.exec) {pc : Nat} {Ls : Array Slot} {z : UInt64} {rest : List Value} (hret : meth.sig.returnType = some .double) (hd : decode c.code pc = .ok (.dreturn, 1)) {fs : List Frame}
    (hl : ∀ (f : JFrame) (acts : List Action), f.method = m → f.locked = none → f.entered = [] → (doReturn e (T.setTop f) acts (some (.double z))).1 = T.setFrames fs) : Steps p.tables e below (T.setTop (mkF m pc Ls (.double z :: rest))) (T.setFrames fs) :=
  retOut X hx hret rfl (Or.inr (Or.inr (Or.inl ⟨rfl, rfl, z, rfl⟩))) hd hl
theorem own_eqk {args : Array Value} {first s : State} {o : Option Outcome} {idx : List Nat} {t : Term} {k : Int32} (h : (Jvm.Cond.eq t (.int k)).value args first o s idx = some true) : t.eval args first o idx s = some (.int k) := by
  have hk : (Term.int k).eval args first o idx s = some (.int k) := Term.int_eval k
  cases ht : t.eval args first o idx s with
  | none => simp [Cond.value, ht] at h
  | some x => cases x <;> simp [Cond.value, ht, hk] at h ⊢ <;> exact h
theorem own_len {args : Array Value} {s : State} {t : Term} {a : Addr} {cl : Cell} {n : Int32} {ty : FieldType} (h : (Jvm.Cond.eq (.length t) (.int n)).value args s none s [] = some true) (ev : t.eval args s none [] s = some (.ref a)) (A : Arr s s.heap a cl ty) : cl.slots.size = n.toNatClampNeg ∧ ¬ n < 0 := by
  have q := own_eqk h
  have ha := A.fin (Vm.Alike.refl _)
  by_cases hl : cl.slots.size < 2 ^ 31
  · rw [len_f ev ha hl] at q
    have q2 : cl.slots.size.toInt32 = n := by simpa using q
    have q3 := len_toInt hl
    rw [q2] at q3
    refine ⟨?_, ?_⟩
    · simp only [Int32.toNatClampNeg]; omega
    · rw [Int32.lt_iff_toInt_lt]; simp only [Int32.reduceToInt]; omega
  · simp [Term.eval, ev, ha, hl] at q
theorem own_hin {cl : Cell} {z j : Int32} (hsz : cl.slots.size = z.toNatClampNeg) (hlo : ¬ j < (0 : Int32)) (hhi : j < z) : ¬ (j < 0 ∨ cl.slots.size ≤ j.toNatClampNeg) := by
  simp only [Int32.lt_iff_toInt_lt, Int32.reduceToInt, Int32.toNatClampNeg] at *
  omega
theorem own_pn0 : plainName "jdk/internal/util/Preconditions" = true := by first | (simp [plainName, overriddenIn]; done) | decide +kernel
theorem own_d_pcheck_0 : decode jdk_41_method_11_code 0 = .ok (.iload_n 0, 1) := by decide +kernel
theorem own_d_pcheck_1 : decode jdk_41_method_11_code 1 = .ok (.ifCond .lt 8, 3) := by decide +kernel
theorem own_d_pcheck_4 : decode jdk_41_method_11_code 4 = .ok (.iload_n 0, 1) := by decide +kernel
theorem own_d_pcheck_5 : decode jdk_41_method_11_code 5 = .ok (.iload_n 1, 1) := by decide +kernel
theorem own_d_pcheck_6 : decode jdk_41_method_11_code 6 = .ok (.if_icmp .lt 10, 3) := by decide +kernel
theorem own_d_pcheck_16 : decode jdk_41_method_11_code 16 = .ok (.iload_n 0, 1) := by decide +kernel
theorem own_d_pcheck_17 : decode jdk_41_method_11_code 17 = .ok (.ireturn, 1) := by decide +kernel
def F_pcheck (p0 : Int32) : Int32 := p0
theorem own_ef_pcheck (m : MethodId) (p0 : Int32) (p1 : Int32) (a2 : Value) (ha2 : a2.isRef = true) : entryFrame m #[(.int p0), (.int p1), a2] 3 = mkF m 0 #[.val (.int p0), .val (.int p1), .val a2] [] := by
  rcases ref_cases ha2 with rfl | ⟨_, rfl⟩ <;> first | (simp [entryFrame, mkF, argsToLocals, Value.category]; done) | rfl
def Q_pcheck (Z : State) (p0 : Int32) (p1 : Int32) (a2 : Value) (h0 : Heap) (n0 : Nat) (v : Option Value) (h : Heap) (L : List Loc) : Prop := v = some (.int (F_pcheck p0)) ∧ Fr n0 L ∧ h = h0
set_option maxRecDepth 65536 in
set_option maxHeartbeats 40000000 in
theorem rm_pcheck (l : Launch) (Z : State) (a0' : Array Value) (hw : ∀ d ∈ tables_1, d.before a0' Z = true) (ws : List Jvm.Cond) (p0 : Int32) (p1 : Int32) (a2 : Value) (h0 : Heap) (n0 : Nat) (Z0 : n0 ≤ h0.size) (ha2 : a2.isRef = true) (hlo : ¬ (p0 < (0 : Int32))) (hhi : p0 < p1) :
    MetFree l (⟨"jdk/internal/util/Preconditions", "checkIndex", "(IILjava/util/function/BiFunction;)I"⟩ : MethodName) (head1 (Jvm.Cond.code (⟨"jdk/internal/util/Preconditions", "checkIndex", "(IILjava/util/function/BiFunction;)I"⟩ : MethodName) jdk_41_method_11_code 3 (some .int) :: ws) ({ frames := 0, cells := 0, slots := 0, locals := 0 } : Room)) (fun a U => a = #[(.int p0), (.int p1), a2] ∧ Z.Warmed39 U.vm ∧ U.heap = h0) (fun _ _ _ _ _ => True) (fun _ U o U' => ∃ v L, o = .returned v ∧ Q_pcheck Z p0 p1 a2 h0 n0 v U'.heap L ∧ FrameEnd U o U' L ({ frames := 0, cells := 0, slots := 0, locals := 0 } : Room).cells ({ frames := 0, cells := 0, slots := 0, locals := 0 } : Room).slots) := by
  refine MetFree.of_bodySF (plainFor_of_name own_pn0) hisR ?_
  intro p e s m args below meth c s₁ Bd hml0 hP hK
  obtain ⟨rfl, hZ, hh⟩ := hP
  have hx := Bd.exec
  have hby := Bd.bytes
  have hml : c.maxLocals = 3 := hml0
  have hown : s.vm.findClass "jdk/internal/util/Preconditions" = some m.cls := findClass_of_methodNamed Bd.named
  have hnm := (name_of_methodNamed Bd.named Bd.method).1
  have X0 : Stand p l e ({ frames := 0, cells := 0, slots := 0, locals := 0 } : Room) s m #[(.int p0), (.int p1), a2] below meth c s₁ [] 0 0 := Stand.of_body Bd
  have e0 : s₁.heap = h0 := by rw [← hh, Bd.state]; rfl
  have N0 := Fr.nil n0
  have pre0 : ∀ t, Steps p.tables e below (s₁.setTop (mkF m 0 #[.val (.int p0), .val (.int p1), .val a2] [])) t → Steps p.tables e below (s₁.setTop (entryFrame m #[(.int p0), (.int p1), a2] 3)) t := fun t k => castTop (own_ef_pcheck m p0 p1 a2 ha2) k
  obtain ⟨fs, hr, hrun, hended, hW, hsame⟩ := X0.leave (v := some (.int p0)) (fun h => by rw [Bd.returns] at h; cases h)
  refine ⟨_, _, pre0 _ ?_, hrun, hended, _, _, rfl, ?_, ⟨_, rfl⟩, hW, hsame.mono (by decide) (by decide)⟩
  · show Steps p.tables e below (s₁.setTop (mkF m 0 #[.val (.int p0), .val (.int p1), .val a2] [])) _
    refine XS.iloadN X0.here hx rfl (hb hby own_d_pcheck_0) rfl ?_
    show Steps p.tables e below (s₁.setTop (mkF m 1 #[.val (.int p0), .val (.int p1), .val a2] [(.int p0)])) _
    refine XS.ifNo X0.here hx rfl (hb hby own_d_pcheck_1) rfl ((if0 _ _).trans (flt hlo).1) ?_
    show Steps p.tables e below (s₁.setTop (mkF m 4 #[.val (.int p0), .val (.int p1), .val a2] [])) _
    refine XS.iloadN X0.here hx rfl (hb hby own_d_pcheck_4) rfl ?_
    show Steps p.tables e below (s₁.setTop (mkF m 5 #[.val (.int p0), .val (.int p1), .val a2] [(.int p0)])) _
    refine XS.iloadN X0.here hx rfl (hb hby own_d_pcheck_5) rfl ?_
    show Steps p.tables e below (s₁.setTop (mkF m 6 #[.val (.int p0), .val (.int p1), .val a2] [(.int p1), (.int p0)])) _
    refine XS.icmpYes X0.here hx rfl (pc0 := 6) (pc' := 16) rfl (hb hby own_d_pcheck_6) rfl (tlt hhi).1 (by decide) (by decide) ?_
    show Steps p.tables e below (s₁.setTop (mkF m 16 #[.val (.int p0), .val (.int p1), .val a2] [])) _
    refine XS.iloadN X0.here hx rfl (hb hby own_d_pcheck_16) rfl ?_
    show Steps p.tables e below (s₁.setTop (mkF m 17 #[.val (.int p0), .val (.int p1), .val a2] [(.int p0)])) _
    exact own_retI X0 hx Bd.returns (hb hby own_d_pcheck_17) hr
  · show Q_pcheck Z p0 p1 a2 h0 n0 _ s₁.heap _
    refine ⟨?_, N0, e0⟩
    rw [F_pcheck]
theorem own_pn1 : plainName "java/lang/String" = true := by first | (simp [plainName, overriddenIn]; done) | decide +kernel
theorem own_d_scheck_0 : decode jdk_42_method_155_code 0 = .ok (.iload_n 0, 1) := by decide +kernel
theorem own_d_scheck_1 : decode jdk_42_method_155_code 1 = .ok (.iload_n 1, 1) := by decide +kernel
theorem own_d_scheck_2 : decode jdk_42_method_155_code 2 = .ok (.getstatic 1053, 3) := by decide +kernel
theorem own_d_scheck_5 : decode jdk_42_method_155_code 5 = .ok (.invokestatic 1059, 3) := by decide +kernel
theorem own_pd0 : parseMethodDescriptor "(IILjava/util/function/BiFunction;)I" = some ⟨[.int, .int, (.object "java/util/function/BiFunction")], some .int⟩ := by decide +kernel
theorem own_d_scheck_8 : decode jdk_42_method_155_code 8 = .ok (.pop, 1) := by decide +kernel
theorem own_d_scheck_9 : decode jdk_42_method_155_code 9 = .ok (.return_, 1) := by decide +kernel
theorem own_ef_scheck (m : MethodId) (p0 : Int32) (p1 : Int32) : entryFrame m #[(.int p0), (.int p1)] 2 = mkF m 0 #[.val (.int p0), .val (.int p1)] [] := by first | (simp [entryFrame, mkF, argsToLocals, Value.category]; done) | rfl
def Q_scheck (Z : State) (p0 : Int32) (p1 : Int32) (fm : Value) (h0 : Heap) (n0 : Nat) (v : Option Value) (h : Heap) (L : List Loc) : Prop := v = none ∧ Fr n0 L ∧ h = h0
set_option maxRecDepth 65536 in
set_option maxHeartbeats 40000000 in
theorem rm_scheck (l : Launch) (Z : State) (a0' : Array Value) (hw : ∀ d ∈ tables_1, d.before a0' Z = true) (ws : List Jvm.Cond) (p0 : Int32) (p1 : Int32) (fm : Value) (h0 : Heap) (n0 : Nat) (Z0 : n0 ≤ h0.size) (hlo : ¬ (p0 < (0 : Int32))) (hhi : p0 < p1) (S_fm : Sta Z h0 "jdk/internal/util/Preconditions" "SIOOBE_FORMATTER" "Ljava/util/function/BiFunction;" fm) (hfm : fm.isRef = true) :
    MetFree l (⟨"java/lang/String", "checkIndex", "(II)V"⟩ : MethodName) (head1 (Jvm.Cond.code (⟨"java/lang/String", "checkIndex", "(II)V"⟩ : MethodName) jdk_42_method_155_code 2 none :: ws) ({ frames := 1, cells := 0, slots := 0, locals := 14 } : Room)) (fun a U => a = #[(.int p0), (.int p1)] ∧ Z.Warmed39 U.vm ∧ U.heap = h0) (fun _ _ _ _ _ => True) (fun _ U o U' => ∃ v L, o = .returned v ∧ Q_scheck Z p0 p1 fm h0 n0 v U'.heap L ∧ FrameEnd U o U' L ({ frames := 1, cells := 0, slots := 0, locals := 14 } : Room).cells ({ frames := 1, cells := 0, slots := 0, locals := 14 } : Room).slots) := by
  refine MetFree.of_bodySF (plainFor_of_name own_pn1) hisR ?_
  intro p e s m args below meth c s₁ Bd hml0 hP hK
  obtain ⟨rfl, hZ, hh⟩ := hP
  have hx := Bd.exec
  have hby := Bd.bytes
  have hml : c.maxLocals = 2 := hml0
  have hown : s.vm.findClass "java/lang/String" = some m.cls := findClass_of_methodNamed Bd.named
  have hnm := (name_of_methodNamed Bd.named Bd.method).1
  have X0 : Stand p l e ({ frames := 1, cells := 0, slots := 0, locals := 14 } : Room) s m #[(.int p0), (.int p1)] below meth c s₁ [] 0 0 := Stand.of_body Bd
  have e0 : s₁.heap = h0 := by rw [← hh, Bd.state]; rfl
  have N0 := Fr.nil n0
  have pre0 : ∀ t, Steps p.tables e below (s₁.setTop (mkF m 0 #[.val (.int p0), .val (.int p1)] [])) t → Steps p.tables e below (s₁.setTop (entryFrame m #[(.int p0), (.int p1)] 2)) t := fun t k => castTop (own_ef_scheck m p0 p1) k
  obtain ⟨T1, X1, e1, st1⟩ := getS2 X0 hx hZ hown (host := "") (Or.inl (hw _ (List.mem_of_getElem? (i := 48) rfl))) Via.refl e0 S_fm (g := (mkF m 2 #[.val (.int p0), .val (.int p1)] [(.int p1), (.int p0)])) rfl (hb hby own_d_scheck_2)
  obtain ⟨_, _, ⟨T2, L2, k2, n2⟩, -, X2, ⟨Lc2, hQ2, l2, y2, z2⟩, st2⟩ := Jvm.LawKit.callS X1 hx (y := (⟨"jdk/internal/util/Preconditions", "checkIndex", "(IILjava/util/function/BiFunction;)I"⟩ : MethodName)) hown (mvT hZ (hw _ (List.mem_of_getElem? (i := 50) rfl))) (mvT hZ (hw _ (List.mem_of_getElem? (i := 51) rfl))) (mvT hZ (hw _ (List.mem_of_getElem? (i := 49) rfl))) (mvT hZ (hw _ (List.mem_of_getElem? (i := 52) rfl))) (by decide) (backOf (W := 0) (rm_pcheck l Z a0' hw [] p0 p1 fm h0 n0 Z0 hfm hlo hhi) hZ (hw _ (List.mem_of_getElem? (i := 52) rfl)) (hw _ (List.mem_of_getElem? (i := 49) rfl)) (by decide) (by decide)) (g := (mkF m 5 #[.val (.int p0), .val (.int p1)] [fm, (.int p1), (.int p0)])) rfl (by rw [hml]; rfl) (argsL := [(.int p0), (.int p1), fm]) (rest := []) (lenOf own_pd0 rfl) rfl (by show 2 * 0 + _ ≤ _; exact Nat.le_of_eq rfl) (hb hby own_d_scheck_5) (fun _ _ => ⟨rfl, e1, (by decide : 0 + 0 ≤ _), (by decide : 0 + 0 ≤ _)⟩)
  dsimp only [Pt.U, Pt.locs, Pt.cells, Pt.slots] at X2 l2 y2 z2 st2 hQ2
  subst l2 y2 z2
  obtain ⟨rfl, N2q, e2⟩ := hQ2
  have N2 := Fr.app N0 N2q
  obtain ⟨fs, hr, hrun, hended, hW, hsame⟩ := X2.leave (v := none) (fun _ => rfl)
  refine ⟨_, _, pre0 _ ?_, hrun, hended, _, _, rfl, ?_, ⟨_, rfl⟩, hW, hsame.mono (by decide) (by decide)⟩
  · show Steps p.tables e below (s₁.setTop (mkF m 0 #[.val (.int p0), .val (.int p1)] [])) _
    refine XS.iloadN X0.here hx rfl (hb hby own_d_scheck_0) rfl ?_
    show Steps p.tables e below (s₁.setTop (mkF m 1 #[.val (.int p0), .val (.int p1)] [(.int p0)])) _
    refine XS.iloadN X0.here hx rfl (hb hby own_d_scheck_1) rfl ?_
    show Steps p.tables e below (s₁.setTop (mkF m 2 #[.val (.int p0), .val (.int p1)] [(.int p1), (.int p0)])) _
    refine st1 _ ?_
    show Steps p.tables e below (T1.setTop (mkF m 5 #[.val (.int p0), .val (.int p1)] [fm, (.int p1), (.int p0)])) _
    refine st2 _ ?_
    show Steps p.tables e below (T2.setTop (mkF m 8 #[.val (.int p0), .val (.int p1)] [(.int p0)])) _
    refine XS.pop X2.here hx rfl (hb hby own_d_scheck_8) rfl rfl ?_
    show Steps p.tables e below (T2.setTop (mkF m 9 #[.val (.int p0), .val (.int p1)] [])) _
    exact X2.returnOut hx Bd.returns (hb hby own_d_scheck_9) hr
  · show Q_scheck Z p0 p1 fm h0 n0 _ T2.heap _
    refine ⟨?_, N2, e2⟩
    rfl
theorem own_pn2 : plainName "java/lang/StringLatin1" = true := by first | (simp [plainName, overriddenIn]; done) | decide +kernel
theorem own_d_lchar_0 : decode jdk_43_method_2_code 0 = .ok (.iload_n 1, 1) := by decide +kernel
theorem own_d_lchar_1 : decode jdk_43_method_2_code 1 = .ok (.aload_n 0, 1) := by decide +kernel
theorem own_d_lchar_2 : decode jdk_43_method_2_code 2 = .ok (.arraylength, 1) := by decide +kernel
theorem own_d_lchar_3 : decode jdk_43_method_2_code 3 = .ok (.invokestatic 9, 3) := by decide +kernel
theorem own_pd1 : parseMethodDescriptor "(II)V" = some ⟨[.int, .int], none⟩ := by decide +kernel
theorem own_d_lchar_6 : decode jdk_43_method_2_code 6 = .ok (.aload_n 0, 1) := by decide +kernel
theorem own_d_lchar_7 : decode jdk_43_method_2_code 7 = .ok (.iload_n 1, 1) := by decide +kernel
theorem own_d_lchar_8 : decode jdk_43_method_2_code 8 = .ok (.baload, 1) := by decide +kernel
theorem own_d_lchar_9 : decode jdk_43_method_2_code 9 = .ok (.sipush 255, 3) := by decide +kernel
theorem own_d_lchar_12 : decode jdk_43_method_2_code 12 = .ok (.iand, 1) := by decide +kernel
theorem own_d_lchar_13 : decode jdk_43_method_2_code 13 = .ok (.i2c, 1) := by decide +kernel
theorem own_d_lchar_14 : decode jdk_43_method_2_code 14 = .ok (.ireturn, 1) := by decide +kernel
def F_lchar (b : Int32) : Int32 := (nar .char ((b &&& (255 : Int32)).toUInt32.toUInt16.toUInt32.toInt32))
theorem own_ef_lchar (m : MethodId) (a0 : Addr) (p1 : Int32) : entryFrame m #[(.ref a0), (.int p1)] 2 = mkF m 0 #[.val (.ref a0), .val (.int p1)] [] := by first | (simp [entryFrame, mkF, argsToLocals, Value.category]; done) | rfl
def Q_lchar (Z : State) (a0 : Addr) (p1 : Int32) (cl : Cell) (z : Int32) (b : Int32) (fm : Value) (h0 : Heap) (n0 : Nat) (v : Option Value) (h : Heap) (L : List Loc) : Prop := v = some (.int (F_lchar b)) ∧ Fr n0 L ∧ h = h0
set_option maxRecDepth 65536 in
set_option maxHeartbeats 40000000 in
theorem rm_lchar (l : Launch) (Z : State) (a0' : Array Value) (hw : ∀ d ∈ tables_1, d.before a0' Z = true) (ws : List Jvm.Cond) (a0 : Addr) (p1 : Int32) (cl : Cell) (z : Int32) (b : Int32) (fm : Value) (h0 : Heap) (n0 : Nat) (Z0 : n0 ≤ h0.size) (Ar : Arr Z h0 a0 cl .byte) (hsz : cl.slots.size = z.toNatClampNeg) (hnn : ¬ z < 0) (hlo : ¬ (p1 < (0 : Int32))) (hhi : p1 < z) (hat : cl.slots[p1.toNatClampNeg]? = some (.int b)) (S_fm : Sta Z h0 "jdk/internal/util/Preconditions" "SIOOBE_FORMATTER" "Ljava/util/function/BiFunction;" fm) (hfm : fm.isRef = true) :
    MetFree l (⟨"java/lang/StringLatin1", "charAt", "([BI)C"⟩ : MethodName) (head1 (Jvm.Cond.code (⟨"java/lang/StringLatin1", "charAt", "([BI)C"⟩ : MethodName) jdk_43_method_2_code 2 (some .char) :: ws) ({ frames := 2, cells := 0, slots := 0, locals := 27 } : Room)) (fun a U => a = #[(.ref a0), (.int p1)] ∧ Z.Warmed39 U.vm ∧ U.heap = h0) (fun _ _ _ _ _ => True) (fun _ U o U' => ∃ v L, o = .returned v ∧ Q_lchar Z a0 p1 cl z b fm h0 n0 v U'.heap L ∧ FrameEnd U o U' L ({ frames := 2, cells := 0, slots := 0, locals := 27 } : Room).cells ({ frames := 2, cells := 0, slots := 0, locals := 27 } : Room).slots) := by
  refine MetFree.of_bodySF (plainFor_of_name own_pn2) hisR ?_
  intro p e s m args below meth c s₁ Bd hml0 hP hK
  obtain ⟨rfl, hZ, hh⟩ := hP
  have hx := Bd.exec
  have hby := Bd.bytes
  have hml : c.maxLocals = 2 := hml0
  have hown : s.vm.findClass "java/lang/StringLatin1" = some m.cls := findClass_of_methodNamed Bd.named
  have hnm := (name_of_methodNamed Bd.named Bd.method).1
  have X0 : Stand p l e ({ frames := 2, cells := 0, slots := 0, locals := 27 } : Room) s m #[(.ref a0), (.int p1)] below meth c s₁ [] 0 0 := Stand.of_body Bd
  have e0 : s₁.heap = h0 := by rw [← hh, Bd.state]; rfl
  have N0 := Fr.nil n0
  have pre0 : ∀ t, Steps p.tables e below (s₁.setTop (mkF m 0 #[.val (.ref a0), .val (.int p1)] [])) t → Steps p.tables e below (s₁.setTop (entryFrame m #[(.ref a0), (.int p1)] 2)) t := fun t k => castTop (own_ef_lchar m a0 p1) k
  obtain ⟨_, _, ⟨T3, L3, k3, n3⟩, -, X3, ⟨Lc3, hQ3, l3, y3, z3⟩, st3⟩ := Jvm.LawKit.callS X0 hx (y := (⟨"java/lang/String", "checkIndex", "(II)V"⟩ : MethodName)) hown (mvT hZ (hw _ (List.mem_of_getElem? (i := 45) rfl))) (mvT hZ (hw _ (List.mem_of_getElem? (i := 46) rfl))) (mvT hZ (hw _ (List.mem_of_getElem? (i := 23) rfl))) (mvT hZ (hw _ (List.mem_of_getElem? (i := 47) rfl))) (by decide) (backOf (W := 0) (rm_scheck l Z a0' hw [] p1 z fm h0 n0 Z0 hlo hhi S_fm hfm) hZ (hw _ (List.mem_of_getElem? (i := 47) rfl)) (hw _ (List.mem_of_getElem? (i := 23) rfl)) (by decide) (by decide)) (g := (mkF m 3 #[.val (.ref a0), .val (.int p1)] [(.int z), (.int p1)])) rfl (by rw [hml]; rfl) (argsL := [(.int p1), (.int z)]) (rest := []) (lenOf own_pd1 rfl) rfl (by show 2 * 0 + _ ≤ _; exact Nat.le_of_eq rfl) (hb hby own_d_lchar_3) (fun _ _ => ⟨rfl, e0, (by decide : 0 + 0 ≤ _), (by decide : 0 + 0 ≤ _)⟩)
  dsimp only [Pt.U, Pt.locs, Pt.cells, Pt.slots] at X3 l3 y3 z3 st3 hQ3
  subst l3 y3 z3
  obtain ⟨rfl, N3q, e3⟩ := hQ3
  have N3 := Fr.app N0 N3q
  obtain ⟨fs, hr, hrun, hended, hW, hsame⟩ := X3.leave (v := some (.int (nar .char ((b &&& (255 : Int32)).toUInt32.toUInt16.toUInt32.toInt32)))) (fun h => by rw [Bd.returns] at h; cases h)
  refine ⟨_, _, pre0 _ ?_, hrun, hended, _, _, rfl, ?_, ⟨_, rfl⟩, hW, hsame.mono (by decide) (by decide)⟩
  · show Steps p.tables e below (s₁.setTop (mkF m 0 #[.val (.ref a0), .val (.int p1)] [])) _
    refine XS.iloadN X0.here hx rfl (hb hby own_d_lchar_0) rfl ?_
    show Steps p.tables e below (s₁.setTop (mkF m 1 #[.val (.ref a0), .val (.int p1)] [(.int p1)])) _
    refine XS.aloadN X0.here hx rfl (hb hby own_d_lchar_1) rfl rfl ?_
    show Steps p.tables e below (s₁.setTop (mkF m 2 #[.val (.ref a0), .val (.int p1)] [(.ref a0), (.int p1)])) _
    refine X0.arraylength hx (by rw [e0]; exact Ar.1) (State.isArrayOf_alike hZ.alike Ar.2.1) (g := (mkF m 2 #[.val (.ref a0), .val (.int p1)] [(.ref a0), (.int p1)])) rfl rfl (hb hby own_d_lchar_2) _ ?_
    rw [len_of hsz hnn]
    show Steps p.tables e below (s₁.setTop (mkF m 3 #[.val (.ref a0), .val (.int p1)] [(.int z), (.int p1)])) _
    refine st3 _ ?_
    show Steps p.tables e below (T3.setTop (mkF m 6 #[.val (.ref a0), .val (.int p1)] [])) _
    refine XS.aloadN X3.here hx rfl (hb hby own_d_lchar_6) rfl rfl ?_
    show Steps p.tables e below (T3.setTop (mkF m 7 #[.val (.ref a0), .val (.int p1)] [(.ref a0)])) _
    refine XS.iloadN X3.here hx rfl (hb hby own_d_lchar_7) rfl ?_
    show Steps p.tables e below (T3.setTop (mkF m 8 #[.val (.ref a0), .val (.int p1)] [(.int p1), (.ref a0)])) _
    refine X3.baloadBytes hx (j := p1) (v := (.int b)) (by rw [e3]; exact Ar.1) (State.isArrayOf_alike hZ.alike Ar.2.1) Ar.2.2 (own_hin hsz hlo hhi) hat (g := (mkF m 8 #[.val (.ref a0), .val (.int p1)] [(.int p1), (.ref a0)])) rfl rfl (hb hby own_d_lchar_8) _ ?_
    show Steps p.tables e below (T3.setTop (mkF m 9 #[.val (.ref a0), .val (.int p1)] [(.int b)])) _
    refine XS.sipush X3.here hx rfl (hb hby own_d_lchar_9) ?_
    show Steps p.tables e below (T3.setTop (mkF m 12 #[.val (.ref a0), .val (.int p1)] [(.int (255 : Int32)), (.int b)])) _
    refine XS.iand X3.here hx rfl (hb hby own_d_lchar_12) rfl ?_
    show Steps p.tables e below (T3.setTop (mkF m 13 #[.val (.ref a0), .val (.int p1)] [(.int (b &&& (255 : Int32)))])) _
    refine XS.i2c X3.here hx rfl (hb hby own_d_lchar_13) rfl ?_
    show Steps p.tables e below (T3.setTop (mkF m 14 #[.val (.ref a0), .val (.int p1)] [(.int ((b &&& (255 : Int32)).toUInt32.toUInt16.toUInt32.toInt32))])) _
    exact retN X3 hx (t := .char) Bd.returns (by simp) (hb hby own_d_lchar_14) hr
  · show Q_lchar Z a0 p1 cl z b fm h0 n0 _ T3.heap _
    refine ⟨?_, N3, e3⟩
    rw [F_lchar]
theorem own_d_latin_0 : decode jdk_42_method_154_code 0 = .ok (.getstatic 38, 3) := by decide +kernel
theorem own_d_latin_3 : decode jdk_42_method_154_code 3 = .ok (.ifCond .eq 14, 3) := by decide +kernel
theorem own_d_latin_6 : decode jdk_42_method_154_code 6 = .ok (.aload_n 0, 1) := by decide +kernel
theorem own_d_latin_7 : decode jdk_42_method_154_code 7 = .ok (.getfield 15, 3) := by decide +kernel
theorem own_d_latin_10 : decode jdk_42_method_154_code 10 = .ok (.ifCond .ne 7, 3) := by decide +kernel
theorem own_d_latin_13 : decode jdk_42_method_154_code 13 = .ok (.iconst 1, 1) := by decide +kernel
theorem own_d_latin_14 : decode jdk_42_method_154_code 14 = .ok (.goto 4, 3) := by decide +kernel
theorem own_d_latin_18 : decode jdk_42_method_154_code 18 = .ok (.ireturn, 1) := by decide +kernel
def F_latin  : Int32 := (1 : Int32)
theorem own_ef_latin (m : MethodId) (a0 : Addr) : entryFrame m #[(.ref a0)] 1 = mkF m 0 #[.val (.ref a0)] [] := by first | (simp [entryFrame, mkF, argsToLocals, Value.category]; done) | rfl
def Q_latin (Z : State) (a0 : Addr) (kc : Int32) (h0 : Heap) (n0 : Nat) (v : Option Value) (h : Heap) (L : List Loc) : Prop := v = some (.int F_latin) ∧ Fr n0 L ∧ h = h0
set_option maxRecDepth 65536 in
set_option maxHeartbeats 40000000 in
theorem rm_latin (l : Launch) (Z : State) (a0' : Array Value) (hw : ∀ d ∈ tables_1, d.before a0' Z = true) (ws : List Jvm.Cond) (a0 : Addr) (kc : Int32) (h0 : Heap) (n0 : Nat) (Z0 : n0 ≤ h0.size) (HC : Fld Z h0 a0 "java/lang/String" "coder" "B" (.int (0 : Int32))) (S_cs : Sta Z h0 "java/lang/String" "COMPACT_STRINGS" "Z" (.int kc)) (hkc : ¬ (kc = (0 : Int32))) :
    MetFree l (⟨"java/lang/String", "isLatin1", "()Z"⟩ : MethodName) (head1 (Jvm.Cond.code (⟨"java/lang/String", "isLatin1", "()Z"⟩ : MethodName) jdk_42_method_154_code 1 (some .boolean) :: ws) ({ frames := 0, cells := 0, slots := 0, locals := 0 } : Room)) (fun a U => a = #[(.ref a0)] ∧ Z.Warmed39 U.vm ∧ U.heap = h0) (fun _ _ _ _ _ => True) (fun _ U o U' => ∃ v L, o = .returned v ∧ Q_latin Z a0 kc h0 n0 v U'.heap L ∧ FrameEnd U o U' L ({ frames := 0, cells := 0, slots := 0, locals := 0 } : Room).cells ({ frames := 0, cells := 0, slots := 0, locals := 0 } : Room).slots) := by
  refine MetFree.of_bodySF (plainFor_of_name own_pn1) hisR ?_
  intro p e s m args below meth c s₁ Bd hml0 hP hK
  obtain ⟨rfl, hZ, hh⟩ := hP
  have hx := Bd.exec
  have hby := Bd.bytes
  have hml : c.maxLocals = 1 := hml0
  have hown : s.vm.findClass "java/lang/String" = some m.cls := findClass_of_methodNamed Bd.named
  have hnm := (name_of_methodNamed Bd.named Bd.method).1
  have X0 : Stand p l e ({ frames := 0, cells := 0, slots := 0, locals := 0 } : Room) s m #[(.ref a0)] below meth c s₁ [] 0 0 := Stand.of_body Bd
  have e0 : s₁.heap = h0 := by rw [← hh, Bd.state]; rfl
  have N0 := Fr.nil n0
  have pre0 : ∀ t, Steps p.tables e below (s₁.setTop (mkF m 0 #[.val (.ref a0)] [])) t → Steps p.tables e below (s₁.setTop (entryFrame m #[(.ref a0)] 1)) t := fun t k => castTop (own_ef_latin m a0) k
  obtain ⟨T4, X4, e4, st4⟩ := getS2 X0 hx hZ hown (host := "") (Or.inl (hw _ (List.mem_of_getElem? (i := 38) rfl))) Via.refl e0 S_cs (g := (mkF m 0 #[.val (.ref a0)] [])) rfl (hb hby own_d_latin_0)
  obtain ⟨T5, X5, e5, st5⟩ := getF X4 hx hZ hown (host := "") (Or.inl (hw _ (List.mem_of_getElem? (i := 39) rfl))) Via.refl e4 HC (g := (mkF m 7 #[.val (.ref a0)] [(.ref a0)])) rfl rfl (hb hby own_d_latin_7)
  obtain ⟨fs, hr, hrun, hended, hW, hsame⟩ := X5.leave (v := some (.int (1 : Int32))) (fun h => by rw [Bd.returns] at h; cases h)
  refine ⟨_, _, pre0 _ ?_, hrun, hended, _, _, rfl, ?_, ⟨_, rfl⟩, hW, hsame.mono (by decide) (by decide)⟩
  · show Steps p.tables e below (s₁.setTop (mkF m 0 #[.val (.ref a0)] [])) _
    refine st4 _ ?_
    show Steps p.tables e below (T4.setTop (mkF m 3 #[.val (.ref a0)] [(.int kc)])) _
    refine XS.ifNo X4.here hx rfl (hb hby own_d_latin_3) rfl ((if0 _ _).trans (feq hkc).1) ?_
    show Steps p.tables e below (T4.setTop (mkF m 6 #[.val (.ref a0)] [])) _
    refine XS.aloadN X4.here hx rfl (hb hby own_d_latin_6) rfl rfl ?_
    show Steps p.tables e below (T4.setTop (mkF m 7 #[.val (.ref a0)] [(.ref a0)])) _
    refine st5 _ ?_
    show Steps p.tables e below (T5.setTop (mkF m 10 #[.val (.ref a0)] [(.int (0 : Int32))])) _
    refine XS.ifNo X5.here hx rfl (hb hby own_d_latin_10) rfl ((if0 _ _).trans (teq (by decide : (0 : Int32) = (0 : Int32))).2) ?_
    show Steps p.tables e below (T5.setTop (mkF m 13 #[.val (.ref a0)] [])) _
    refine XS.iconst X5.here hx rfl (hb hby own_d_latin_13) ?_
    show Steps p.tables e below (T5.setTop (mkF m 14 #[.val (.ref a0)] [(.int (1 : Int32))])) _
    refine XS.goto X5.here hx rfl (pc0 := 14) (pc' := 18) rfl (hb hby own_d_latin_14) (by decide) (by decide) ?_
    show Steps p.tables e below (T5.setTop (mkF m 18 #[.val (.ref a0)] [(.int (1 : Int32))])) _
    exact retN X5 hx (t := .boolean) Bd.returns (by simp) (hb hby own_d_latin_18) hr
  · show Q_latin Z a0 kc h0 n0 _ T5.heap _
    refine ⟨?_, N0, e5⟩
    rw [F_latin]
theorem own_d_chr_0 : decode jdk_42_method_56_code 0 = .ok (.aload_n 0, 1) := by decide +kernel
theorem own_d_chr_1 : decode jdk_42_method_56_code 1 = .ok (.invokevirtual 492, 3) := by decide +kernel
theorem own_pd2 : parseMethodDescriptor "()Z" = some ⟨[], some .boolean⟩ := by decide +kernel
theorem own_d_chr_4 : decode jdk_42_method_56_code 4 = .ok (.ifCond .eq 12, 3) := by decide +kernel
theorem own_d_chr_7 : decode jdk_42_method_56_code 7 = .ok (.aload_n 0, 1) := by decide +kernel
theorem own_d_chr_8 : decode jdk_42_method_56_code 8 = .ok (.getfield 9, 3) := by decide +kernel
theorem own_d_chr_11 : decode jdk_42_method_56_code 11 = .ok (.iload_n 1, 1) := by decide +kernel
theorem own_d_chr_12 : decode jdk_42_method_56_code 12 = .ok (.invokestatic 495, 3) := by decide +kernel
theorem own_pd3 : parseMethodDescriptor "([BI)C" = some ⟨[(.array .byte), .int], some .char⟩ := by decide +kernel
theorem own_d_chr_15 : decode jdk_42_method_56_code 15 = .ok (.ireturn, 1) := by decide +kernel
def F_chr (b : Int32) : Int32 := (nar .char (F_lchar b))
theorem own_ef_chr (m : MethodId) (a0 : Addr) (p1 : Int32) : entryFrame m #[(.ref a0), (.int p1)] 2 = mkF m 0 #[.val (.ref a0), .val (.int p1)] [] := by first | (simp [entryFrame, mkF, argsToLocals, Value.category]; done) | rfl
def Q_chr (Z : State) (a0 : Addr) (p1 : Int32) (va : Addr) (cl : Cell) (z : Int32) (b : Int32) (kc : Int32) (fm : Value) (h0 : Heap) (n0 : Nat) (v : Option Value) (h : Heap) (L : List Loc) : Prop := v = some (.int (F_chr b)) ∧ Fr n0 L ∧ h = h0
set_option maxRecDepth 65536 in
set_option maxHeartbeats 40000000 in
theorem rm_chr (l : Launch) (Z : State) (a0' : Array Value) (hw : ∀ d ∈ tables_1, d.before a0' Z = true) (ws : List Jvm.Cond) (a0 : Addr) (p1 : Int32) (va : Addr) (cl : Cell) (z : Int32) (b : Int32) (kc : Int32) (fm : Value) (h0 : Heap) (n0 : Nat) (Z0 : n0 ≤ h0.size) (HE : Exa Z h0 a0 "java/lang/String") (HC : Fld Z h0 a0 "java/lang/String" "coder" "B" (.int (0 : Int32))) (HV : Fld Z h0 a0 "java/lang/String" "value" "[B" (.ref va)) (Ar : Arr Z h0 va cl .byte) (hsz : cl.slots.size = z.toNatClampNeg) (hnn : ¬ z < 0) (hlo : ¬ (p1 < (0 : Int32))) (hhi : p1 < z) (hat : cl.slots[p1.toNatClampNeg]? = some (.int b)) (S_cs : Sta Z h0 "java/lang/String" "COMPACT_STRINGS" "Z" (.int kc)) (hkc : ¬ (kc = (0 : Int32))) (S_fm : Sta Z h0 "jdk/internal/util/Preconditions" "SIOOBE_FORMATTER" "Ljava/util/function/BiFunction;" fm) (hfm : fm.isRef = true) :
    MetFree l (⟨"java/lang/String", "charAt", "(I)C"⟩ : MethodName) (head1 (Jvm.Cond.code (⟨"java/lang/String", "charAt", "(I)C"⟩ : MethodName) jdk_42_method_56_code 2 (some .char) :: ws) ({ frames := 3, cells := 0, slots := 0, locals := 40 } : Room)) (fun a U => a = #[(.ref a0), (.int p1)] ∧ Z.Warmed39 U.vm ∧ U.heap = h0) (fun _ _ _ _ _ => True) (fun _ U o U' => ∃ v L, o = .returned v ∧ Q_chr Z a0 p1 va cl z b kc fm h0 n0 v U'.heap L ∧ FrameEnd U o U' L ({ frames := 3, cells := 0, slots := 0, locals := 40 } : Room).cells ({ frames := 3, cells := 0, slots := 0, locals := 40 } : Room).slots) := by
  refine MetFree.of_bodySF (plainFor_of_name own_pn1) hisR ?_
  intro p e s m args below meth c s₁ Bd hml0 hP hK
  obtain ⟨rfl, hZ, hh⟩ := hP
  have hx := Bd.exec
  have hby := Bd.bytes
  have hml : c.maxLocals = 2 := hml0
  have hown : s.vm.findClass "java/lang/String" = some m.cls := findClass_of_methodNamed Bd.named
  have hnm := (name_of_methodNamed Bd.named Bd.method).1
  have X0 : Stand p l e ({ frames := 3, cells := 0, slots := 0, locals := 40 } : Room) s m #[(.ref a0), (.int p1)] below meth c s₁ [] 0 0 := Stand.of_body Bd
  have e0 : s₁.heap = h0 := by rw [← hh, Bd.state]; rfl
  have N0 := Fr.nil n0
  have pre0 : ∀ t, Steps p.tables e below (s₁.setTop (mkF m 0 #[.val (.ref a0), .val (.int p1)] [])) t → Steps p.tables e below (s₁.setTop (entryFrame m #[(.ref a0), (.int p1)] 2)) t := fun t k => castTop (own_ef_chr m a0 p1) k
  obtain ⟨cq6, kq6, q6a, q6b, q6c⟩ := isOf hZ e0 HE
  obtain ⟨_, _, ⟨T6, L6, k6, n6⟩, -, X6, ⟨Lc6, hQ6, l6, y6, z6⟩, st6⟩ := X0.virtualBack hx (y := (⟨"java/lang/String", "isLatin1", "()Z"⟩ : MethodName)) (z := (⟨"java/lang/String", "isLatin1", "()Z"⟩ : MethodName)) hown (mvT hZ (hw _ (List.mem_of_getElem? (i := 33) rfl))) (mvT hZ (hw _ (List.mem_of_getElem? (i := 34) rfl))) (notFace_of_selects (args := #[]) (mvT hZ (hw _ (List.mem_of_getElem? (i := 36) rfl)))) (mvT hZ (hw _ (List.mem_of_getElem? (i := 36) rfl))) (mvT hZ (hw _ (List.mem_of_getElem? (i := 35) rfl))) (by decide) (backOf (W := 0) (rm_latin l Z a0' hw [] a0 kc h0 n0 Z0 HC S_cs hkc) hZ (hw _ (List.mem_of_getElem? (i := 37) rfl)) (hw _ (List.mem_of_getElem? (i := 23) rfl)) (by decide) (by decide)) q6a q6c (g := (mkF m 1 #[.val (.ref a0), .val (.int p1)] [(.ref a0)])) rfl (by rw [hml]; rfl) (Steps.refl _) (argsL := []) (rest := []) (lenOf own_pd2 rfl) rfl (by show 2 * 0 + _ ≤ _; exact Nat.le_of_eq rfl) (hb hby own_d_chr_1) (fun _ _ => ⟨rfl, e0, (by decide : 0 + 0 ≤ _), (by decide : 0 + 0 ≤ _)⟩)
  dsimp only [Pt.U, Pt.locs, Pt.cells, Pt.slots] at X6 l6 y6 z6 st6 hQ6
  subst l6 y6 z6
  obtain ⟨rfl, N6q, e6⟩ := hQ6
  have N6 := Fr.app N0 N6q
  obtain ⟨T7, X7, e7, st7⟩ := getF X6 hx hZ hown (host := "") (Or.inl (hw _ (List.mem_of_getElem? (i := 25) rfl))) Via.refl e6 HV (g := (mkF m 8 #[.val (.ref a0), .val (.int p1)] [(.ref a0)])) rfl rfl (hb hby own_d_chr_8)
  obtain ⟨_, _, ⟨T8, L8, k8, n8⟩, -, X8, ⟨Lc8, hQ8, l8, y8, z8⟩, st8⟩ := Jvm.LawKit.callS X7 hx (y := (⟨"java/lang/StringLatin1", "charAt", "([BI)C"⟩ : MethodName)) hown (mvT hZ (hw _ (List.mem_of_getElem? (i := 41) rfl))) (mvT hZ (hw _ (List.mem_of_getElem? (i := 42) rfl))) (mvT hZ (hw _ (List.mem_of_getElem? (i := 43) rfl))) (mvT hZ (hw _ (List.mem_of_getElem? (i := 44) rfl))) (by decide) (backOf (W := 0) (rm_lchar l Z a0' hw [] va p1 cl z b fm h0 n0 Z0 Ar hsz hnn hlo hhi hat S_fm hfm) hZ (hw _ (List.mem_of_getElem? (i := 44) rfl)) (hw _ (List.mem_of_getElem? (i := 43) rfl)) (by decide) (by decide)) (g := (mkF m 12 #[.val (.ref a0), .val (.int p1)] [(.int p1), (.ref va)])) rfl (by rw [hml]; rfl) (argsL := [(.ref va), (.int p1)]) (rest := []) (lenOf own_pd3 rfl) rfl (by show 2 * 0 + _ ≤ _; exact Nat.le_of_eq rfl) (hb hby own_d_chr_12) (fun _ _ => ⟨rfl, e7, (by decide : 0 + 0 ≤ _), (by decide : 0 + 0 ≤ _)⟩)
  dsimp only [Pt.U, Pt.locs, Pt.cells, Pt.slots] at X8 l8 y8 z8 st8 hQ8
  subst l8 y8 z8
  obtain ⟨rfl, N8q, e8⟩ := hQ8
  have N8 := Fr.app N6 N8q
  obtain ⟨fs, hr, hrun, hended, hW, hsame⟩ := X8.leave (v := some (.int (nar .char (F_lchar b)))) (fun h => by rw [Bd.returns] at h; cases h)
  refine ⟨_, _, pre0 _ ?_, hrun, hended, _, _, rfl, ?_, ⟨_, rfl⟩, hW, hsame.mono (by decide) (by decide)⟩
  · show Steps p.tables e below (s₁.setTop (mkF m 0 #[.val (.ref a0), .val (.int p1)] [])) _
    refine XS.aloadN X0.here hx rfl (hb hby own_d_chr_0) rfl rfl ?_
    show Steps p.tables e below (s₁.setTop (mkF m 1 #[.val (.ref a0), .val (.int p1)] [(.ref a0)])) _
    refine st6.trans ?_
    show Steps p.tables e below (T6.setTop (mkF m 4 #[.val (.ref a0), .val (.int p1)] [(.int (1 : Int32))])) _
    refine XS.ifNo X6.here hx rfl (hb hby own_d_chr_4) rfl ((if0 _ _).trans (feq (by decide : ¬ ((1 : Int32) = (0 : Int32)))).1) ?_
    show Steps p.tables e below (T6.setTop (mkF m 7 #[.val (.ref a0), .val (.int p1)] [])) _
    refine XS.aloadN X6.here hx rfl (hb hby own_d_chr_7) rfl rfl ?_
    show Steps p.tables e below (T6.setTop (mkF m 8 #[.val (.ref a0), .val (.int p1)] [(.ref a0)])) _
    refine st7 _ ?_
    show Steps p.tables e below (T7.setTop (mkF m 11 #[.val (.ref a0), .val (.int p1)] [(.ref va)])) _
    refine XS.iloadN X7.here hx rfl (hb hby own_d_chr_11) rfl ?_
    show Steps p.tables e below (T7.setTop (mkF m 12 #[.val (.ref a0), .val (.int p1)] [(.int p1), (.ref va)])) _
    refine st8 _ ?_
    show Steps p.tables e below (T8.setTop (mkF m 15 #[.val (.ref a0), .val (.int p1)] [(.int (F_lchar b))])) _
    exact retN X8 hx (t := .char) Bd.returns (by simp) (hb hby own_d_chr_15) hr
  · show Q_chr Z a0 p1 va cl z b kc fm h0 n0 _ T8.heap _
    refine ⟨?_, N8, e8⟩
    rw [F_chr]
theorem own_d_emp_0 : decode jdk_42_method_55_code 0 = .ok (.aload_n 0, 1) := by decide +kernel
theorem own_d_emp_1 : decode jdk_42_method_55_code 1 = .ok (.getfield 9, 3) := by decide +kernel
theorem own_d_emp_4 : decode jdk_42_method_55_code 4 = .ok (.arraylength, 1) := by decide +kernel
theorem own_d_emp_5 : decode jdk_42_method_55_code 5 = .ok (.ifCond .ne 7, 3) := by decide +kernel
theorem own_d_emp_8 : decode jdk_42_method_55_code 8 = .ok (.iconst 1, 1) := by decide +kernel
theorem own_d_emp_9 : decode jdk_42_method_55_code 9 = .ok (.goto 4, 3) := by decide +kernel
theorem own_d_emp_13 : decode jdk_42_method_55_code 13 = .ok (.ireturn, 1) := by decide +kernel
theorem own_d_emp_12 : decode jdk_42_method_55_code 12 = .ok (.iconst 0, 1) := by decide +kernel
def F_emp (z : Int32) : Int32 := (if z = (0 : Int32) then (1 : Int32) else (0 : Int32))
theorem own_ef_emp (m : MethodId) (a0 : Addr) : entryFrame m #[(.ref a0)] 1 = mkF m 0 #[.val (.ref a0)] [] := by first | (simp [entryFrame, mkF, argsToLocals, Value.category]; done) | rfl
def Q_emp (Z : State) (a0 : Addr) (va : Addr) (cl : Cell) (z : Int32) (h0 : Heap) (n0 : Nat) (v : Option Value) (h : Heap) (L : List Loc) : Prop := v = some (.int (F_emp z)) ∧ Fr n0 L ∧ h = h0
set_option maxRecDepth 65536 in
set_option maxHeartbeats 40000000 in
theorem rm_emp (l : Launch) (Z : State) (a0' : Array Value) (hw : ∀ d ∈ tables_1, d.before a0' Z = true) (ws : List Jvm.Cond) (a0 : Addr) (va : Addr) (cl : Cell) (z : Int32) (h0 : Heap) (n0 : Nat) (Z0 : n0 ≤ h0.size) (HV : Fld Z h0 a0 "java/lang/String" "value" "[B" (.ref va)) (Ar : Arr Z h0 va cl .byte) (hsz : cl.slots.size = z.toNatClampNeg) (hnn : ¬ z < 0) :
    MetFree l (⟨"java/lang/String", "isEmpty", "()Z"⟩ : MethodName) (head1 (Jvm.Cond.code (⟨"java/lang/String", "isEmpty", "()Z"⟩ : MethodName) jdk_42_method_55_code 1 (some .boolean) :: ws) ({ frames := 0, cells := 0, slots := 0, locals := 0 } : Room)) (fun a U => a = #[(.ref a0)] ∧ Z.Warmed39 U.vm ∧ U.heap = h0) (fun _ _ _ _ _ => True) (fun _ U o U' => ∃ v L, o = .returned v ∧ Q_emp Z a0 va cl z h0 n0 v U'.heap L ∧ FrameEnd U o U' L ({ frames := 0, cells := 0, slots := 0, locals := 0 } : Room).cells ({ frames := 0, cells := 0, slots := 0, locals := 0 } : Room).slots) := by
  refine MetFree.of_bodySF (plainFor_of_name own_pn1) hisR ?_
  intro p e s m args below meth c s₁ Bd hml0 hP hK
  obtain ⟨rfl, hZ, hh⟩ := hP
  have hx := Bd.exec
  have hby := Bd.bytes
  have hml : c.maxLocals = 1 := hml0
  have hown : s.vm.findClass "java/lang/String" = some m.cls := findClass_of_methodNamed Bd.named
  have hnm := (name_of_methodNamed Bd.named Bd.method).1
  have X0 : Stand p l e ({ frames := 0, cells := 0, slots := 0, locals := 0 } : Room) s m #[(.ref a0)] below meth c s₁ [] 0 0 := Stand.of_body Bd
  have e0 : s₁.heap = h0 := by rw [← hh, Bd.state]; rfl
  have N0 := Fr.nil n0
  have pre0 : ∀ t, Steps p.tables e below (s₁.setTop (mkF m 0 #[.val (.ref a0)] [])) t → Steps p.tables e below (s₁.setTop (entryFrame m #[(.ref a0)] 1)) t := fun t k => castTop (own_ef_emp m a0) k
  obtain ⟨T9, X9, e9, st9⟩ := getF X0 hx hZ hown (host := "") (Or.inl (hw _ (List.mem_of_getElem? (i := 25) rfl))) Via.refl e0 HV (g := (mkF m 1 #[.val (.ref a0)] [(.ref a0)])) rfl rfl (hb hby own_d_emp_1)
  have pre11 : ∀ t, Steps p.tables e below (T9.setTop (mkF m 5 #[.val (.ref a0)] [(.int z)])) t → Steps p.tables e below (s₁.setTop (entryFrame m #[(.ref a0)] 1)) t := fun t k => pre0 t (by
    show Steps p.tables e below (s₁.setTop (mkF m 0 #[.val (.ref a0)] [])) _
    refine XS.aloadN X0.here hx rfl (hb hby own_d_emp_0) rfl rfl ?_
    show Steps p.tables e below (s₁.setTop (mkF m 1 #[.val (.ref a0)] [(.ref a0)])) _
    refine st9 _ ?_
    show Steps p.tables e below (T9.setTop (mkF m 4 #[.val (.ref a0)] [(.ref va)])) _
    refine X9.arraylength hx (by rw [e9]; exact Ar.1) (State.isArrayOf_alike hZ.alike Ar.2.1) (g := (mkF m 4 #[.val (.ref a0)] [(.ref va)])) rfl rfl (hb hby own_d_emp_4) _ ?_
    rw [len_of hsz hnn]
    exact k)
  by_cases hc5_10 : z = (0 : Int32)
  · obtain ⟨fs, hr, hrun, hended, hW, hsame⟩ := X9.leave (v := some (.int (1 : Int32))) (fun h => by rw [Bd.returns] at h; cases h)
    refine ⟨_, _, pre11 _ ?_, hrun, hended, _, _, rfl, ?_, ⟨_, rfl⟩, hW, hsame.mono (by decide) (by decide)⟩
    · show Steps p.tables e below (T9.setTop (mkF m 5 #[.val (.ref a0)] [(.int z)])) _
      refine XS.ifNo X9.here hx rfl (hb hby own_d_emp_5) rfl ((if0 _ _).trans (teq hc5_10).2) ?_
      show Steps p.tables e below (T9.setTop (mkF m 8 #[.val (.ref a0)] [])) _
      refine XS.iconst X9.here hx rfl (hb hby own_d_emp_8) ?_
      show Steps p.tables e below (T9.setTop (mkF m 9 #[.val (.ref a0)] [(.int (1 : Int32))])) _
      refine XS.goto X9.here hx rfl (pc0 := 9) (pc' := 13) rfl (hb hby own_d_emp_9) (by decide) (by decide) ?_
      show Steps p.tables e below (T9.setTop (mkF m 13 #[.val (.ref a0)] [(.int (1 : Int32))])) _
      exact retN X9 hx (t := .boolean) Bd.returns (by simp) (hb hby own_d_emp_13) hr
    · show Q_emp Z a0 va cl z h0 n0 _ T9.heap _
      refine ⟨?_, N0, e9⟩
      rw [F_emp, if_pos hc5_10]
  · obtain ⟨fs, hr, hrun, hended, hW, hsame⟩ := X9.leave (v := some (.int (0 : Int32))) (fun h => by rw [Bd.returns] at h; cases h)
    refine ⟨_, _, pre11 _ ?_, hrun, hended, _, _, rfl, ?_, ⟨_, rfl⟩, hW, hsame.mono (by decide) (by decide)⟩
    · show Steps p.tables e below (T9.setTop (mkF m 5 #[.val (.ref a0)] [(.int z)])) _
      refine XS.ifYes X9.here hx rfl (pc0 := 5) (pc' := 12) rfl (hb hby own_d_emp_5) rfl ((if0 _ _).trans (feq hc5_10).2) (by decide) (by decide) ?_
      show Steps p.tables e below (T9.setTop (mkF m 12 #[.val (.ref a0)] [])) _
      refine XS.iconst X9.here hx rfl (hb hby own_d_emp_12) ?_
      show Steps p.tables e below (T9.setTop (mkF m 13 #[.val (.ref a0)] [(.int (0 : Int32))])) _
      exact retN X9 hx (t := .boolean) Bd.returns (by simp) (hb hby own_d_emp_13) hr
    · show Q_emp Z a0 va cl z h0 n0 _ T9.heap _
      refine ⟨?_, N0, e9⟩
      rw [F_emp, if_neg hc5_10]
theorem own_pn3 : plainName "com/example/matchbook/matchbook/model/Contingency" = true := by first | (simp [plainName, overriddenIn]; done) | decide +kernel
theorem own_d_pb_0 : decode prog_37_method_5_code 0 = .ok (.aload_n 0, 1) := by decide +kernel
theorem own_d_pb_1 : decode prog_37_method_5_code 1 = .ok (.getstatic 7, 3) := by decide +kernel
theorem own_d_pb_4 : decode prog_37_method_5_code 4 = .ok (.if_acmp .eq 10, 3) := by decide +kernel
theorem own_d_pb_14 : decode prog_37_method_5_code 14 = .ok (.iconst 1, 1) := by decide +kernel
theorem own_d_pb_15 : decode prog_37_method_5_code 15 = .ok (.goto 4, 3) := by decide +kernel
theorem own_d_pb_19 : decode prog_37_method_5_code 19 = .ok (.ireturn, 1) := by decide +kernel
theorem own_d_pb_7 : decode prog_37_method_5_code 7 = .ok (.aload_n 0, 1) := by decide +kernel
theorem own_d_pb_8 : decode prog_37_method_5_code 8 = .ok (.getstatic 13, 3) := by decide +kernel
theorem own_d_pb_11 : decode prog_37_method_5_code 11 = .ok (.if_acmp .ne 7, 3) := by decide +kernel
theorem own_d_pb_18 : decode prog_37_method_5_code 18 = .ok (.iconst 0, 1) := by decide +kernel
def F_pb (a0 : Addr) (w_PAYMENT : Addr) (w_PAYMENT_AND_TIME : Addr) : Int32 := (if a0 = w_PAYMENT then (1 : Int32) else (if a0 = w_PAYMENT_AND_TIME then (1 : Int32) else (0 : Int32)))
theorem own_ef_pb (m : MethodId) (a0 : Addr) : entryFrame m #[(.ref a0)] 1 = mkF m 0 #[.val (.ref a0)] [] := by first | (simp [entryFrame, mkF, argsToLocals, Value.category]; done) | rfl
def Q_pb (Z : State) (a0 : Addr) (w_PAYMENT : Addr) (w_PAYMENT_AND_TIME : Addr) (h0 : Heap) (n0 : Nat) (v : Option Value) (h : Heap) (L : List Loc) : Prop := v = some (.int (F_pb a0 w_PAYMENT w_PAYMENT_AND_TIME)) ∧ Fr n0 L ∧ h = h0
set_option maxRecDepth 65536 in
set_option maxHeartbeats 40000000 in
theorem rm_pb (l : Launch) (Z : State) (a0' : Array Value) (hw : ∀ d ∈ tables_1, d.before a0' Z = true) (ws : List Jvm.Cond) (a0 : Addr) (w_PAYMENT : Addr) (w_PAYMENT_AND_TIME : Addr) (h0 : Heap) (n0 : Nat) (Z0 : n0 ≤ h0.size) (S_PAYMENT : Sta Z h0 "com/example/matchbook/matchbook/model/Contingency" "PAYMENT" "Lcom/example/matchbook/matchbook/model/Contingency;" (.ref w_PAYMENT)) (S_PAYMENT_AND_TIME : Sta Z h0 "com/example/matchbook/matchbook/model/Contingency" "PAYMENT_AND_TIME" "Lcom/example/matchbook/matchbook/model/Contingency;" (.ref w_PAYMENT_AND_TIME)) :
    MetFree l (⟨"com/example/matchbook/matchbook/model/Contingency", "paymentBased", "()Z"⟩ : MethodName) (head1 (Jvm.Cond.code (⟨"com/example/matchbook/matchbook/model/Contingency", "paymentBased", "()Z"⟩ : MethodName) prog_37_method_5_code 1 (some .boolean) :: ws) ({ frames := 0, cells := 0, slots := 0, locals := 0 } : Room)) (fun a U => a = #[(.ref a0)] ∧ Z.Warmed39 U.vm ∧ U.heap = h0) (fun _ _ _ _ _ => True) (fun _ U o U' => ∃ v L, o = .returned v ∧ Q_pb Z a0 w_PAYMENT w_PAYMENT_AND_TIME h0 n0 v U'.heap L ∧ FrameEnd U o U' L ({ frames := 0, cells := 0, slots := 0, locals := 0 } : Room).cells ({ frames := 0, cells := 0, slots := 0, locals := 0 } : Room).slots) := by
  refine MetFree.of_bodySF (plainFor_of_name own_pn3) hisR ?_
  intro p e s m args below meth c s₁ Bd hml0 hP hK
  obtain ⟨rfl, hZ, hh⟩ := hP
  have hx := Bd.exec
  have hby := Bd.bytes
  have hml : c.maxLocals = 1 := hml0
  have hown : s.vm.findClass "com/example/matchbook/matchbook/model/Contingency" = some m.cls := findClass_of_methodNamed Bd.named
  have hnm := (name_of_methodNamed Bd.named Bd.method).1
  have X0 : Stand p l e ({ frames := 0, cells := 0, slots := 0, locals := 0 } : Room) s m #[(.ref a0)] below meth c s₁ [] 0 0 := Stand.of_body Bd
  have e0 : s₁.heap = h0 := by rw [← hh, Bd.state]; rfl
  have N0 := Fr.nil n0
  have pre0 : ∀ t, Steps p.tables e below (s₁.setTop (mkF m 0 #[.val (.ref a0)] [])) t → Steps p.tables e below (s₁.setTop (entryFrame m #[(.ref a0)] 1)) t := fun t k => castTop (own_ef_pb m a0) k
  obtain ⟨T12, X12, e12, st12⟩ := getS2 X0 hx hZ hown (host := "") (Or.inl (hw _ (List.mem_of_getElem? (i := 8) rfl))) Via.refl e0 S_PAYMENT (g := (mkF m 1 #[.val (.ref a0)] [(.ref a0)])) rfl (hb hby own_d_pb_1)
  have pre14 : ∀ t, Steps p.tables e below (T12.setTop (mkF m 4 #[.val (.ref a0)] [(.ref w_PAYMENT), (.ref a0)])) t → Steps p.tables e below (s₁.setTop (entryFrame m #[(.ref a0)] 1)) t := fun t k => pre0 t (by
    show Steps p.tables e below (s₁.setTop (mkF m 0 #[.val (.ref a0)] [])) _
    refine XS.aloadN X0.here hx rfl (hb hby own_d_pb_0) rfl rfl ?_
    show Steps p.tables e below (s₁.setTop (mkF m 1 #[.val (.ref a0)] [(.ref a0)])) _
    refine st12 _ ?_
    exact k)
  by_cases hc4_13 : a0 = w_PAYMENT
  · obtain ⟨fs, hr, hrun, hended, hW, hsame⟩ := X12.leave (v := some (.int (1 : Int32))) (fun h => by rw [Bd.returns] at h; cases h)
    refine ⟨_, _, pre14 _ ?_, hrun, hended, _, _, rfl, ?_, ⟨_, rfl⟩, hW, hsame.mono (by decide) (by decide)⟩
    · show Steps p.tables e below (T12.setTop (mkF m 4 #[.val (.ref a0)] [(.ref w_PAYMENT), (.ref a0)])) _
      refine Jvm.RoadKit.acmp (g := (mkF m 4 #[.val (.ref a0)] [(.ref w_PAYMENT), (.ref a0)])) X12 hx rfl rfl rfl (pc0 := 4) (pc' := 14) (same := true) rfl (hb hby own_d_pb_4) rfl (decide_eq_true (congrArg Value.ref hc4_13)) (by decide) (by decide) ?_
      show Steps p.tables e below (T12.setTop (mkF m 14 #[.val (.ref a0)] [])) _
      refine XS.iconst X12.here hx rfl (hb hby own_d_pb_14) ?_
      show Steps p.tables e below (T12.setTop (mkF m 15 #[.val (.ref a0)] [(.int (1 : Int32))])) _
      refine XS.goto X12.here hx rfl (pc0 := 15) (pc' := 19) rfl (hb hby own_d_pb_15) (by decide) (by decide) ?_
      show Steps p.tables e below (T12.setTop (mkF m 19 #[.val (.ref a0)] [(.int (1 : Int32))])) _
      exact retN X12 hx (t := .boolean) Bd.returns (by simp) (hb hby own_d_pb_19) hr
    · show Q_pb Z a0 w_PAYMENT w_PAYMENT_AND_TIME h0 n0 _ T12.heap _
      refine ⟨?_, N0, e12⟩
      rw [F_pb, if_pos hc4_13]
  · obtain ⟨T15, X15, e15, st15⟩ := getS2 X12 hx hZ hown (host := "") (Or.inl (hw _ (List.mem_of_getElem? (i := 10) rfl))) Via.refl e12 S_PAYMENT_AND_TIME (g := (mkF m 8 #[.val (.ref a0)] [(.ref a0)])) rfl (hb hby own_d_pb_8)
    have pre17 : ∀ t, Steps p.tables e below (T15.setTop (mkF m 11 #[.val (.ref a0)] [(.ref w_PAYMENT_AND_TIME), (.ref a0)])) t → Steps p.tables e below (s₁.setTop (entryFrame m #[(.ref a0)] 1)) t := fun t k => pre14 t (by
      show Steps p.tables e below (T12.setTop (mkF m 4 #[.val (.ref a0)] [(.ref w_PAYMENT), (.ref a0)])) _
      refine Jvm.RoadKit.acmp (g := (mkF m 4 #[.val (.ref a0)] [(.ref w_PAYMENT), (.ref a0)])) X12 hx rfl rfl rfl (pc0 := 4) (pc' := 7) (same := false) rfl (hb hby own_d_pb_4) rfl (decide_eq_false fun q => hc4_13 (Value.ref.inj q)) (by decide) (by decide) ?_
      show Steps p.tables e below (T12.setTop (mkF m 7 #[.val (.ref a0)] [])) _
      refine XS.aloadN X12.here hx rfl (hb hby own_d_pb_7) rfl rfl ?_
      show Steps p.tables e below (T12.setTop (mkF m 8 #[.val (.ref a0)] [(.ref a0)])) _
      refine st15 _ ?_
      exact k)
    by_cases hc11_16 : a0 = w_PAYMENT_AND_TIME
    · obtain ⟨fs, hr, hrun, hended, hW, hsame⟩ := X15.leave (v := some (.int (1 : Int32))) (fun h => by rw [Bd.returns] at h; cases h)
      refine ⟨_, _, pre17 _ ?_, hrun, hended, _, _, rfl, ?_, ⟨_, rfl⟩, hW, hsame.mono (by decide) (by decide)⟩
      · show Steps p.tables e below (T15.setTop (mkF m 11 #[.val (.ref a0)] [(.ref w_PAYMENT_AND_TIME), (.ref a0)])) _
        refine Jvm.RoadKit.acmp (g := (mkF m 11 #[.val (.ref a0)] [(.ref w_PAYMENT_AND_TIME), (.ref a0)])) X15 hx rfl rfl rfl (pc0 := 11) (pc' := 14) (same := true) rfl (hb hby own_d_pb_11) rfl (decide_eq_true (congrArg Value.ref hc11_16)) (by decide) (by decide) ?_
        show Steps p.tables e below (T15.setTop (mkF m 14 #[.val (.ref a0)] [])) _
        refine XS.iconst X15.here hx rfl (hb hby own_d_pb_14) ?_
        show Steps p.tables e below (T15.setTop (mkF m 15 #[.val (.ref a0)] [(.int (1 : Int32))])) _
        refine XS.goto X15.here hx rfl (pc0 := 15) (pc' := 19) rfl (hb hby own_d_pb_15) (by decide) (by decide) ?_
        show Steps p.tables e below (T15.setTop (mkF m 19 #[.val (.ref a0)] [(.int (1 : Int32))])) _
        exact retN X15 hx (t := .boolean) Bd.returns (by simp) (hb hby own_d_pb_19) hr
      · show Q_pb Z a0 w_PAYMENT w_PAYMENT_AND_TIME h0 n0 _ T15.heap _
        refine ⟨?_, N0, e15⟩
        rw [F_pb, if_neg hc4_13, if_pos hc11_16]
    · obtain ⟨fs, hr, hrun, hended, hW, hsame⟩ := X15.leave (v := some (.int (0 : Int32))) (fun h => by rw [Bd.returns] at h; cases h)
      refine ⟨_, _, pre17 _ ?_, hrun, hended, _, _, rfl, ?_, ⟨_, rfl⟩, hW, hsame.mono (by decide) (by decide)⟩
      · show Steps p.tables e below (T15.setTop (mkF m 11 #[.val (.ref a0)] [(.ref w_PAYMENT_AND_TIME), (.ref a0)])) _
        refine Jvm.RoadKit.acmp (g := (mkF m 11 #[.val (.ref a0)] [(.ref w_PAYMENT_AND_TIME), (.ref a0)])) X15 hx rfl rfl rfl (pc0 := 11) (pc' := 18) (same := false) rfl (hb hby own_d_pb_11) rfl (decide_eq_false fun q => hc11_16 (Value.ref.inj q)) (by decide) (by decide) ?_
        show Steps p.tables e below (T15.setTop (mkF m 18 #[.val (.ref a0)] [])) _
        refine XS.iconst X15.here hx rfl (hb hby own_d_pb_18) ?_
        show Steps p.tables e below (T15.setTop (mkF m 19 #[.val (.ref a0)] [(.int (0 : Int32))])) _
        exact retN X15 hx (t := .boolean) Bd.returns (by simp) (hb hby own_d_pb_19) hr
      · show Q_pb Z a0 w_PAYMENT w_PAYMENT_AND_TIME h0 n0 _ T15.heap _
        refine ⟨?_, N0, e15⟩
        rw [F_pb, if_neg hc4_13, if_neg hc11_16]
theorem own_d_lab_0 : decode prog_37_method_4_code 0 = .ok (.aload_n 0, 1) := by decide +kernel
theorem own_d_lab_1 : decode prog_37_method_4_code 1 = .ok (.getfield 35, 3) := by decide +kernel
theorem own_d_lab_4 : decode prog_37_method_4_code 4 = .ok (.areturn, 1) := by decide +kernel
def F_lab (r : Addr) : Addr := r
theorem own_ef_lab (m : MethodId) (a0 : Addr) : entryFrame m #[(.ref a0)] 1 = mkF m 0 #[.val (.ref a0)] [] := by first | (simp [entryFrame, mkF, argsToLocals, Value.category]; done) | rfl
def Q_lab (Z : State) (a0 : Addr) (r : Addr) (h0 : Heap) (n0 : Nat) (v : Option Value) (h : Heap) (L : List Loc) : Prop := v = some (.ref (F_lab r)) ∧ Fr n0 L ∧ h = h0
set_option maxRecDepth 65536 in
set_option maxHeartbeats 40000000 in
theorem rm_lab (l : Launch) (Z : State) (a0' : Array Value) (hw : ∀ d ∈ tables_1, d.before a0' Z = true) (ws : List Jvm.Cond) (a0 : Addr) (r : Addr) (h0 : Heap) (n0 : Nat) (Z0 : n0 ≤ h0.size) (HR : Fld Z h0 a0 "com/example/matchbook/matchbook/model/Contingency" "label" "Ljava/lang/String;" (.ref r)) :
    MetFree l (⟨"com/example/matchbook/matchbook/model/Contingency", "label", "()Ljava/lang/String;"⟩ : MethodName) (head1 (Jvm.Cond.code (⟨"com/example/matchbook/matchbook/model/Contingency", "label", "()Ljava/lang/String;"⟩ : MethodName) prog_37_method_4_code 1 (some (.object "java/lang/String")) :: ws) ({ frames := 0, cells := 0, slots := 0, locals := 0 } : Room)) (fun a U => a = #[(.ref a0)] ∧ Z.Warmed39 U.vm ∧ U.heap = h0) (fun _ _ _ _ _ => True) (fun _ U o U' => ∃ v L, o = .returned v ∧ Q_lab Z a0 r h0 n0 v U'.heap L ∧ FrameEnd U o U' L ({ frames := 0, cells := 0, slots := 0, locals := 0 } : Room).cells ({ frames := 0, cells := 0, slots := 0, locals := 0 } : Room).slots) := by
  refine MetFree.of_bodySF (plainFor_of_name own_pn3) hisR ?_
  intro p e s m args below meth c s₁ Bd hml0 hP hK
  obtain ⟨rfl, hZ, hh⟩ := hP
  have hx := Bd.exec
  have hby := Bd.bytes
  have hml : c.maxLocals = 1 := hml0
  have hown : s.vm.findClass "com/example/matchbook/matchbook/model/Contingency" = some m.cls := findClass_of_methodNamed Bd.named
  have hnm := (name_of_methodNamed Bd.named Bd.method).1
  have X0 : Stand p l e ({ frames := 0, cells := 0, slots := 0, locals := 0 } : Room) s m #[(.ref a0)] below meth c s₁ [] 0 0 := Stand.of_body Bd
  have e0 : s₁.heap = h0 := by rw [← hh, Bd.state]; rfl
  have N0 := Fr.nil n0
  have pre0 : ∀ t, Steps p.tables e below (s₁.setTop (mkF m 0 #[.val (.ref a0)] [])) t → Steps p.tables e below (s₁.setTop (entryFrame m #[(.ref a0)] 1)) t := fun t k => castTop (own_ef_lab m a0) k
  obtain ⟨T18, X18, e18, st18⟩ := getF X0 hx hZ hown (host := "") (Or.inl (hw _ (List.mem_of_getElem? (i := 17) rfl))) Via.refl e0 HR (g := (mkF m 1 #[.val (.ref a0)] [(.ref a0)])) rfl rfl (hb hby own_d_lab_1)
  obtain ⟨fs, hr, hrun, hended, hW, hsame⟩ := X18.leave (v := some (.ref r)) (fun h => by rw [Bd.returns] at h; cases h)
  refine ⟨_, _, pre0 _ ?_, hrun, hended, _, _, rfl, ?_, ⟨_, rfl⟩, hW, hsame.mono (by decide) (by decide)⟩
  · show Steps p.tables e below (s₁.setTop (mkF m 0 #[.val (.ref a0)] [])) _
    refine XS.aloadN X0.here hx rfl (hb hby own_d_lab_0) rfl rfl ?_
    show Steps p.tables e below (s₁.setTop (mkF m 1 #[.val (.ref a0)] [(.ref a0)])) _
    refine st18 _ ?_
    show Steps p.tables e below (T18.setTop (mkF m 4 #[.val (.ref a0)] [(.ref r)])) _
    exact own_retA X18 hx Bd.returns rfl rfl rfl (hb hby own_d_lab_4) hr
  · show Q_lab Z a0 r h0 n0 _ T18.heap _
    refine ⟨?_, N0, e18⟩
    rw [F_lab]
theorem own_pn4 : plainName "com/example/matchbook/matchbook/model/ContingencyPaymentBasedPinLaw" = true := by first | (simp [plainName, overriddenIn]; done) | decide +kernel
theorem own_pd4 : parseMethodDescriptor "()Ljava/lang/String;" = some ⟨[], some (.object "java/lang/String")⟩ := by decide +kernel
theorem own_pd5 : parseMethodDescriptor "(I)C" = some ⟨[.int], some .char⟩ := by decide +kernel
def F_law (p0 : Int32) : Int32 := (if (p0 &&& (3 : Int32)) = (0 : Int32) then (if ((p0 &&& (3 : Int32)) &&& (1 : Int32)) = (0 : Int32) then (1 : Int32) else (0 : Int32)) else (if (p0 &&& (3 : Int32)) = (1 : Int32) then (if ((p0 &&& (3 : Int32)) &&& (1 : Int32)) = (0 : Int32) then (0 : Int32) else (1 : Int32)) else (if (p0 &&& (3 : Int32)) = (2 : Int32) then (if ((p0 &&& (3 : Int32)) &&& (1 : Int32)) = (0 : Int32) then (1 : Int32) else (0 : Int32)) else (if ((p0 &&& (3 : Int32)) &&& (1 : Int32)) = (0 : Int32) then (0 : Int32) else (1 : Int32)))))
theorem own_ef_law (m : MethodId) (p0 : Int32) : entryFrame m #[(.int p0)] maxLocals = mkF m 0 #[.val (.int p0), .unset, .unset, .unset, .unset, .unset, .unset] [] := by first | (simp [entryFrame, mkF, argsToLocals, Value.category, maxLocals]; done) | rfl
def Q_law (Z : State) (p0 : Int32) (w_NONE : Addr) (w_PAYMENT : Addr) (w_TIME : Addr) (w_PAYMENT_AND_TIME : Addr) (kc : Int32) (fm : Value) (l_NONE : Addr) (v_NONE : Addr) (cl_NONE : Cell) (l_PAYMENT : Addr) (v_PAYMENT : Addr) (cl_PAYMENT : Cell) (l_TIME : Addr) (v_TIME : Addr) (cl_TIME : Cell) (l_PAYMENT_AND_TIME : Addr) (v_PAYMENT_AND_TIME : Addr) (cl_PAYMENT_AND_TIME : Cell) (h0 : Heap) (n0 : Nat) (v : Option Value) (h : Heap) (L : List Loc) : Prop := v = some (.int (F_law p0)) ∧ Fr n0 L ∧ True
set_option maxRecDepth 65536 in
set_option maxHeartbeats 40000000 in
theorem rm_law (l : Launch) (Z : State) (a0' : Array Value) (hw : ∀ d ∈ tables_1, d.before a0' Z = true) (ws : List Jvm.Cond) (p0 : Int32) (w_NONE : Addr) (w_PAYMENT : Addr) (w_TIME : Addr) (w_PAYMENT_AND_TIME : Addr) (kc : Int32) (fm : Value) (l_NONE : Addr) (v_NONE : Addr) (cl_NONE : Cell) (l_PAYMENT : Addr) (v_PAYMENT : Addr) (cl_PAYMENT : Cell) (l_TIME : Addr) (v_TIME : Addr) (cl_TIME : Cell) (l_PAYMENT_AND_TIME : Addr) (v_PAYMENT_AND_TIME : Addr) (cl_PAYMENT_AND_TIME : Cell) (h0 : Heap) (n0 : Nat) (Z0 : n0 ≤ h0.size) (S_NONE : Sta Z h0 "com/example/matchbook/matchbook/model/Contingency" "NONE" "Lcom/example/matchbook/matchbook/model/Contingency;" (.ref w_NONE)) (E_NONE : Exa Z h0 w_NONE "com/example/matchbook/matchbook/model/Contingency") (S_PAYMENT : Sta Z h0 "com/example/matchbook/matchbook/model/Contingency" "PAYMENT" "Lcom/example/matchbook/matchbook/model/Contingency;" (.ref w_PAYMENT)) (E_PAYMENT : Exa Z h0 w_PAYMENT "com/example/matchbook/matchbook/model/Contingency") (S_TIME : Sta Z h0 "com/example/matchbook/matchbook/model/Contingency" "TIME" "Lcom/example/matchbook/matchbook/model/Contingency;" (.ref w_TIME)) (E_TIME : Exa Z h0 w_TIME "com/example/matchbook/matchbook/model/Contingency") (S_PAYMENT_AND_TIME : Sta Z h0 "com/example/matchbook/matchbook/model/Contingency" "PAYMENT_AND_TIME" "Lcom/example/matchbook/matchbook/model/Contingency;" (.ref w_PAYMENT_AND_TIME)) (E_PAYMENT_AND_TIME : Exa Z h0 w_PAYMENT_AND_TIME "com/example/matchbook/matchbook/model/Contingency") (ne_NONE_PAYMENT : ¬ (w_NONE = w_PAYMENT)) (ne_NONE_PAYMENT_AND_TIME : ¬ (w_NONE = w_PAYMENT_AND_TIME)) (ne_TIME_PAYMENT : ¬ (w_TIME = w_PAYMENT)) (ne_TIME_PAYMENT_AND_TIME : ¬ (w_TIME = w_PAYMENT_AND_TIME)) (ne_PAYMENT_AND_TIME_PAYMENT : ¬ (w_PAYMENT_AND_TIME = w_PAYMENT)) (S_cs : Sta Z h0 "java/lang/String" "COMPACT_STRINGS" "Z" (.int kc)) (hkc : ¬ (kc = (0 : Int32))) (S_fm : Sta Z h0 "jdk/internal/util/Preconditions" "SIOOBE_FORMATTER" "Ljava/util/function/BiFunction;" fm) (hfm : fm.isRef = true) (HL_NONE : Fld Z h0 w_NONE "com/example/matchbook/matchbook/model/Contingency" "label" "Ljava/lang/String;" (.ref l_NONE)) (EL_NONE : Exa Z h0 l_NONE "java/lang/String") (HV_NONE : Fld Z h0 l_NONE "java/lang/String" "value" "[B" (.ref v_NONE)) (Ar_NONE : Arr Z h0 v_NONE cl_NONE .byte) (hsz_NONE : cl_NONE.slots.size = (0 : Int32).toNatClampNeg) (hnn_NONE : ¬ (0 : Int32) < 0) (HL_PAYMENT : Fld Z h0 w_PAYMENT "com/example/matchbook/matchbook/model/Contingency" "label" "Ljava/lang/String;" (.ref l_PAYMENT)) (EL_PAYMENT : Exa Z h0 l_PAYMENT "java/lang/String") (HC_PAYMENT : Fld Z h0 l_PAYMENT "java/lang/String" "coder" "B" (.int (0 : Int32))) (HV_PAYMENT : Fld Z h0 l_PAYMENT "java/lang/String" "value" "[B" (.ref v_PAYMENT)) (Ar_PAYMENT : Arr Z h0 v_PAYMENT cl_PAYMENT .byte) (hsz_PAYMENT : cl_PAYMENT.slots.size = (7 : Int32).toNatClampNeg) (hnn_PAYMENT : ¬ (7 : Int32) < 0) (hat_PAYMENT : cl_PAYMENT.slots[(0 : Int32).toNatClampNeg]? = some (.int (112 : Int32))) (HL_TIME : Fld Z h0 w_TIME "com/example/matchbook/matchbook/model/Contingency" "label" "Ljava/lang/String;" (.ref l_TIME)) (EL_TIME : Exa Z h0 l_TIME "java/lang/String") (HC_TIME : Fld Z h0 l_TIME "java/lang/String" "coder" "B" (.int (0 : Int32))) (HV_TIME : Fld Z h0 l_TIME "java/lang/String" "value" "[B" (.ref v_TIME)) (Ar_TIME : Arr Z h0 v_TIME cl_TIME .byte) (hsz_TIME : cl_TIME.slots.size = (4 : Int32).toNatClampNeg) (hnn_TIME : ¬ (4 : Int32) < 0) (hat_TIME : cl_TIME.slots[(0 : Int32).toNatClampNeg]? = some (.int (116 : Int32))) (HL_PAYMENT_AND_TIME : Fld Z h0 w_PAYMENT_AND_TIME "com/example/matchbook/matchbook/model/Contingency" "label" "Ljava/lang/String;" (.ref l_PAYMENT_AND_TIME)) (EL_PAYMENT_AND_TIME : Exa Z h0 l_PAYMENT_AND_TIME "java/lang/String") (HC_PAYMENT_AND_TIME : Fld Z h0 l_PAYMENT_AND_TIME "java/lang/String" "coder" "B" (.int (0 : Int32))) (HV_PAYMENT_AND_TIME : Fld Z h0 l_PAYMENT_AND_TIME "java/lang/String" "value" "[B" (.ref v_PAYMENT_AND_TIME)) (Ar_PAYMENT_AND_TIME : Arr Z h0 v_PAYMENT_AND_TIME cl_PAYMENT_AND_TIME .byte) (hsz_PAYMENT_AND_TIME : cl_PAYMENT_AND_TIME.slots.size = (12 : Int32).toNatClampNeg) (hnn_PAYMENT_AND_TIME : ¬ (12 : Int32) < 0) (hat_PAYMENT_AND_TIME : cl_PAYMENT_AND_TIME.slots[(0 : Int32).toNatClampNeg]? = some (.int (112 : Int32))) :
    MetFree l x (head1 (Jvm.Cond.code x code maxLocals ret :: ws) room_1) (fun a U => a = #[(.int p0)] ∧ Z.Warmed39 U.vm ∧ U.heap = h0) (fun _ _ _ _ _ => True) (fun _ U o U' => ∃ v L, o = .returned v ∧ Q_law Z p0 w_NONE w_PAYMENT w_TIME w_PAYMENT_AND_TIME kc fm l_NONE v_NONE cl_NONE l_PAYMENT v_PAYMENT cl_PAYMENT l_TIME v_TIME cl_TIME l_PAYMENT_AND_TIME v_PAYMENT_AND_TIME cl_PAYMENT_AND_TIME h0 n0 v U'.heap L ∧ FrameEnd U o U' L room_1.cells room_1.slots) := by
  refine MetFree.of_bodySF (plainFor_of_name own_pn4) hisR ?_
  intro p e s m args below meth c s₁ Bd hml0 hP hK
  obtain ⟨rfl, hZ, hh⟩ := hP
  have hx := Bd.exec
  have hby := Bd.bytes
  have hml : c.maxLocals = 7 := hml0
  have hown : s.vm.findClass "com/example/matchbook/matchbook/model/ContingencyPaymentBasedPinLaw" = some m.cls := findClass_of_methodNamed Bd.named
  have hnm := (name_of_methodNamed Bd.named Bd.method).1
  have X0 : Stand p l e room_1 s m #[(.int p0)] below meth c s₁ [] 0 0 := Stand.of_body Bd
  have e0 : s₁.heap = h0 := by rw [← hh, Bd.state]; rfl
  have N0 := Fr.nil n0
  have pre0 : ∀ t, Steps p.tables e below (s₁.setTop (mkF m 0 #[.val (.int p0), .unset, .unset, .unset, .unset, .unset, .unset] [])) t → Steps p.tables e below (s₁.setTop (entryFrame m #[(.int p0)] maxLocals)) t := fun t k => castTop (own_ef_law m p0) k
  have pre20 : ∀ t, Steps p.tables e below (s₁.setTop (mkF m 5 #[.val (.int p0), .val (.int (p0 &&& (3 : Int32))), .unset, .unset, .unset, .unset, .unset] [(.int (p0 &&& (3 : Int32)))])) t → Steps p.tables e below (s₁.setTop (entryFrame m #[(.int p0)] maxLocals)) t := fun t k => pre0 t (by
    show Steps p.tables e below (s₁.setTop (mkF m 0 #[.val (.int p0), .unset, .unset, .unset, .unset, .unset, .unset] [])) _
    refine XS.iloadN X0.here hx rfl (hb hby at_0) rfl ?_
    show Steps p.tables e below (s₁.setTop (mkF m 1 #[.val (.int p0), .unset, .unset, .unset, .unset, .unset, .unset] [(.int p0)])) _
    refine XS.iconst X0.here hx rfl (hb hby at_1) ?_
    show Steps p.tables e below (s₁.setTop (mkF m 2 #[.val (.int p0), .unset, .unset, .unset, .unset, .unset, .unset] [(.int (3 : Int32)), (.int p0)])) _
    refine XS.iand X0.here hx rfl (hb hby at_2) rfl ?_
    show Steps p.tables e below (s₁.setTop (mkF m 3 #[.val (.int p0), .unset, .unset, .unset, .unset, .unset, .unset] [(.int (p0 &&& (3 : Int32)))])) _
    refine XS.istoreN X0.here hx rfl (hb hby at_3) rfl (l' := #[.val (.int p0), .val (.int (p0 &&& (3 : Int32))), .unset, .unset, .unset, .unset, .unset]) rfl ?_
    show Steps p.tables e below (s₁.setTop (mkF m 4 #[.val (.int p0), .val (.int (p0 &&& (3 : Int32))), .unset, .unset, .unset, .unset, .unset] [])) _
    refine XS.iloadN X0.here hx rfl (hb hby at_4) rfl ?_
    exact k)
  by_cases hc5_19 : (p0 &&& (3 : Int32)) = (0 : Int32)
  · obtain ⟨T21, X21, e21, st21⟩ := getS2 X0 hx hZ hown (host := "") (Or.inl (hw _ (List.mem_of_getElem? (i := 0) rfl))) Via.refl e0 S_NONE (g := (mkF m 8 #[.val (.int p0), .val (.int (p0 &&& (3 : Int32))), .unset, .unset, .unset, .unset, .unset] [])) rfl (hb hby at_8)
    obtain ⟨cq22, kq22, q22a, q22b, q22c⟩ := isOf hZ e21 E_NONE
    obtain ⟨_, _, ⟨T22, L22, k22, n22⟩, -, X22, ⟨Lc22, hQ22, l22, y22, z22⟩, st22⟩ := X21.virtualBack hx (y := (⟨"com/example/matchbook/matchbook/model/Contingency", "paymentBased", "()Z"⟩ : MethodName)) (z := (⟨"com/example/matchbook/matchbook/model/Contingency", "paymentBased", "()Z"⟩ : MethodName)) hown (mvT hZ (hw _ (List.mem_of_getElem? (i := 3) rfl))) (mvT hZ (hw _ (List.mem_of_getElem? (i := 4) rfl))) (notFace_of_selects (args := #[]) (mvT hZ (hw _ (List.mem_of_getElem? (i := 6) rfl)))) (mvT hZ (hw _ (List.mem_of_getElem? (i := 6) rfl))) (mvT hZ (hw _ (List.mem_of_getElem? (i := 5) rfl))) (by decide) (backOf (W := 0) (rm_pb l Z a0' hw [] w_NONE w_PAYMENT w_PAYMENT_AND_TIME h0 n0 Z0 S_PAYMENT S_PAYMENT_AND_TIME) hZ (hw _ (List.mem_of_getElem? (i := 7) rfl)) (hw _ (List.mem_of_getElem? (i := 1) rfl)) (by decide) (by decide)) q22a q22c (g := (mkF m 44 #[.val (.int p0), .val (.int (p0 &&& (3 : Int32))), .val (.ref w_NONE), .unset, .unset, .unset, .unset] [(.ref w_NONE)])) rfl (by rw [hml]; rfl) (Steps.refl _) (argsL := []) (rest := []) (lenOf own_pd2 rfl) rfl (by show 2 * 0 + _ ≤ _; exact Nat.le_of_eq rfl) (hb hby at_44) (fun _ _ => ⟨rfl, e21, (by decide : 0 + 0 ≤ _), (by decide : 0 + 0 ≤ _)⟩)
    dsimp only [Pt.U, Pt.locs, Pt.cells, Pt.slots] at X22 l22 y22 z22 st22 hQ22
    subst l22 y22 z22
    obtain ⟨rfl, N22q, e22⟩ := hQ22
    have N22 := Fr.app N0 N22q
    have q22 : (F_pb w_NONE w_PAYMENT w_PAYMENT_AND_TIME) = (0 : Int32) := by rw [F_pb, if_neg ne_NONE_PAYMENT, if_neg ne_NONE_PAYMENT_AND_TIME]
    rw [q22] at st22
    have pre24 : ∀ t, Steps p.tables e below (T22.setTop (mkF m 51 #[.val (.int p0), .val (.int (p0 &&& (3 : Int32))), .val (.ref w_NONE), .val (.int (0 : Int32)), .unset, .unset, .unset] [(.int ((p0 &&& (3 : Int32)) &&& (1 : Int32)))])) t → Steps p.tables e below (s₁.setTop (entryFrame m #[(.int p0)] maxLocals)) t := fun t k => pre20 t (by
      show Steps p.tables e below (s₁.setTop (mkF m 5 #[.val (.int p0), .val (.int (p0 &&& (3 : Int32))), .unset, .unset, .unset, .unset, .unset] [(.int (p0 &&& (3 : Int32)))])) _
      refine XS.ifNo X0.here hx rfl (hb hby at_5) rfl ((if0 _ _).trans (teq hc5_19).2) ?_
      show Steps p.tables e below (s₁.setTop (mkF m 8 #[.val (.int p0), .val (.int (p0 &&& (3 : Int32))), .unset, .unset, .unset, .unset, .unset] [])) _
      refine st21 _ ?_
      show Steps p.tables e below (T21.setTop (mkF m 11 #[.val (.int p0), .val (.int (p0 &&& (3 : Int32))), .unset, .unset, .unset, .unset, .unset] [(.ref w_NONE)])) _
      refine XS.astoreN X21.here hx rfl (hb hby at_11) rfl rfl (l' := #[.val (.int p0), .val (.int (p0 &&& (3 : Int32))), .val (.ref w_NONE), .unset, .unset, .unset, .unset]) rfl ?_
      show Steps p.tables e below (T21.setTop (mkF m 12 #[.val (.int p0), .val (.int (p0 &&& (3 : Int32))), .val (.ref w_NONE), .unset, .unset, .unset, .unset] [])) _
      refine XS.goto X21.here hx rfl (pc0 := 12) (pc' := 43) rfl (hb hby at_12) (by decide) (by decide) ?_
      show Steps p.tables e below (T21.setTop (mkF m 43 #[.val (.int p0), .val (.int (p0 &&& (3 : Int32))), .val (.ref w_NONE), .unset, .unset, .unset, .unset] [])) _
      refine XS.aloadN X21.here hx rfl (hb hby at_43) rfl rfl ?_
      show Steps p.tables e below (T21.setTop (mkF m 44 #[.val (.int p0), .val (.int (p0 &&& (3 : Int32))), .val (.ref w_NONE), .unset, .unset, .unset, .unset] [(.ref w_NONE)])) _
      refine st22.trans ?_
      show Steps p.tables e below (T22.setTop (mkF m 47 #[.val (.int p0), .val (.int (p0 &&& (3 : Int32))), .val (.ref w_NONE), .unset, .unset, .unset, .unset] [(.int (0 : Int32))])) _
      refine XS.istoreN X22.here hx rfl (hb hby at_47) rfl (l' := #[.val (.int p0), .val (.int (p0 &&& (3 : Int32))), .val (.ref w_NONE), .val (.int (0 : Int32)), .unset, .unset, .unset]) rfl ?_
      show Steps p.tables e below (T22.setTop (mkF m 48 #[.val (.int p0), .val (.int (p0 &&& (3 : Int32))), .val (.ref w_NONE), .val (.int (0 : Int32)), .unset, .unset, .unset] [])) _
      refine XS.iloadN X22.here hx rfl (hb hby at_48) rfl ?_
      show Steps p.tables e below (T22.setTop (mkF m 49 #[.val (.int p0), .val (.int (p0 &&& (3 : Int32))), .val (.ref w_NONE), .val (.int (0 : Int32)), .unset, .unset, .unset] [(.int (p0 &&& (3 : Int32)))])) _
      refine XS.iconst X22.here hx rfl (hb hby at_49) ?_
      show Steps p.tables e below (T22.setTop (mkF m 50 #[.val (.int p0), .val (.int (p0 &&& (3 : Int32))), .val (.ref w_NONE), .val (.int (0 : Int32)), .unset, .unset, .unset] [(.int (1 : Int32)), (.int (p0 &&& (3 : Int32)))])) _
      refine XS.iand X22.here hx rfl (hb hby at_50) rfl ?_
      exact k)
    by_cases hc51_23 : ((p0 &&& (3 : Int32)) &&& (1 : Int32)) = (0 : Int32)
    · obtain ⟨cq25, kq25, q25a, q25b, q25c⟩ := isOf hZ e22 E_NONE
      obtain ⟨_, _, ⟨T25, L25, k25, n25⟩, -, X25, ⟨Lc25, hQ25, l25, y25, z25⟩, st25⟩ := X22.virtualBack hx (y := (⟨"com/example/matchbook/matchbook/model/Contingency", "label", "()Ljava/lang/String;"⟩ : MethodName)) (z := (⟨"com/example/matchbook/matchbook/model/Contingency", "label", "()Ljava/lang/String;"⟩ : MethodName)) hown (mvT hZ (hw _ (List.mem_of_getElem? (i := 12) rfl))) (mvT hZ (hw _ (List.mem_of_getElem? (i := 13) rfl))) (notFace_of_selects (args := #[]) (mvT hZ (hw _ (List.mem_of_getElem? (i := 15) rfl)))) (mvT hZ (hw _ (List.mem_of_getElem? (i := 15) rfl))) (mvT hZ (hw _ (List.mem_of_getElem? (i := 14) rfl))) (by decide) (backOf (W := 0) (rm_lab l Z a0' hw [] w_NONE l_NONE h0 n0 Z0 HL_NONE) hZ (hw _ (List.mem_of_getElem? (i := 16) rfl)) (hw _ (List.mem_of_getElem? (i := 1) rfl)) (by decide) (by decide)) q25a q25c (g := (mkF m 62 #[.val (.int p0), .val (.int (p0 &&& (3 : Int32))), .val (.ref w_NONE), .val (.int (0 : Int32)), .val (.int (0 : Int32)), .unset, .unset] [(.ref w_NONE)])) rfl (by rw [hml]; rfl) (Steps.refl _) (argsL := []) (rest := []) (lenOf own_pd4 rfl) rfl (by show 2 * 0 + _ ≤ _; exact Nat.le_of_eq rfl) (hb hby at_62) (fun _ _ => ⟨rfl, e22, (by decide : 0 + 0 ≤ _), (by decide : 0 + 0 ≤ _)⟩)
      dsimp only [Pt.U, Pt.locs, Pt.cells, Pt.slots] at X25 l25 y25 z25 st25 hQ25
      subst l25 y25 z25
      obtain ⟨rfl, N25q, e25⟩ := hQ25
      have N25 := Fr.app N22 N25q
      obtain ⟨cq26, kq26, q26a, q26b, q26c⟩ := isOf hZ e25 EL_NONE
      obtain ⟨_, _, ⟨T26, L26, k26, n26⟩, -, X26, ⟨Lc26, hQ26, l26, y26, z26⟩, st26⟩ := X25.virtualBack hx (y := (⟨"java/lang/String", "isEmpty", "()Z"⟩ : MethodName)) (z := (⟨"java/lang/String", "isEmpty", "()Z"⟩ : MethodName)) hown (mvT hZ (hw _ (List.mem_of_getElem? (i := 19) rfl))) (mvT hZ (hw _ (List.mem_of_getElem? (i := 20) rfl))) (notFace_of_selects (args := #[]) (mvT hZ (hw _ (List.mem_of_getElem? (i := 22) rfl)))) (mvT hZ (hw _ (List.mem_of_getElem? (i := 22) rfl))) (mvT hZ (hw _ (List.mem_of_getElem? (i := 21) rfl))) (by decide) (backOf (W := 0) (rm_emp l Z a0' hw [] l_NONE v_NONE cl_NONE (0 : Int32) h0 n0 Z0 HV_NONE Ar_NONE hsz_NONE hnn_NONE) hZ (hw _ (List.mem_of_getElem? (i := 24) rfl)) (hw _ (List.mem_of_getElem? (i := 23) rfl)) (by decide) (by decide)) q26a q26c (g := (mkF m 69 #[.val (.int p0), .val (.int (p0 &&& (3 : Int32))), .val (.ref w_NONE), .val (.int (0 : Int32)), .val (.int (0 : Int32)), .val (.ref l_NONE), .unset] [(.ref l_NONE)])) rfl (by rw [hml]; rfl) (Steps.refl _) (argsL := []) (rest := []) (lenOf own_pd2 rfl) rfl (by show 2 * 0 + _ ≤ _; exact Nat.le_of_eq rfl) (hb hby at_69) (fun _ _ => ⟨rfl, e25, (by decide : 0 + 0 ≤ _), (by decide : 0 + 0 ≤ _)⟩)
      dsimp only [Pt.U, Pt.locs, Pt.cells, Pt.slots] at X26 l26 y26 z26 st26 hQ26
      subst l26 y26 z26
      obtain ⟨rfl, N26q, e26⟩ := hQ26
      have N26 := Fr.app N25 N26q
      have q26 : (F_emp (0 : Int32)) = (1 : Int32) := by rw [F_emp, if_pos (by decide : (0 : Int32) = (0 : Int32))]
      rw [q26] at st26
      obtain ⟨fs, hr, hrun, hended, hW, hsame⟩ := X26.leave (v := some (.int (1 : Int32))) (fun h => by rw [Bd.returns] at h; cases h)
      refine ⟨_, _, pre24 _ ?_, hrun, hended, _, _, rfl, ?_, ⟨_, rfl⟩, hW, hsame.mono (by decide) (by decide)⟩
      · show Steps p.tables e below (T22.setTop (mkF m 51 #[.val (.int p0), .val (.int (p0 &&& (3 : Int32))), .val (.ref w_NONE), .val (.int (0 : Int32)), .unset, .unset, .unset] [(.int ((p0 &&& (3 : Int32)) &&& (1 : Int32)))])) _
        refine XS.ifYes X22.here hx rfl (pc0 := 51) (pc' := 58) rfl (hb hby at_51) rfl ((if0 _ _).trans (teq hc51_23).1) (by decide) (by decide) ?_
        show Steps p.tables e below (T22.setTop (mkF m 58 #[.val (.int p0), .val (.int (p0 &&& (3 : Int32))), .val (.ref w_NONE), .val (.int (0 : Int32)), .unset, .unset, .unset] [])) _
        refine XS.iconst X22.here hx rfl (hb hby at_58) ?_
        show Steps p.tables e below (T22.setTop (mkF m 59 #[.val (.int p0), .val (.int (p0 &&& (3 : Int32))), .val (.ref w_NONE), .val (.int (0 : Int32)), .unset, .unset, .unset] [(.int (0 : Int32))])) _
        refine XS.istore X22.here hx rfl (hb hby at_59) rfl (l' := #[.val (.int p0), .val (.int (p0 &&& (3 : Int32))), .val (.ref w_NONE), .val (.int (0 : Int32)), .val (.int (0 : Int32)), .unset, .unset]) rfl ?_
        show Steps p.tables e below (T22.setTop (mkF m 61 #[.val (.int p0), .val (.int (p0 &&& (3 : Int32))), .val (.ref w_NONE), .val (.int (0 : Int32)), .val (.int (0 : Int32)), .unset, .unset] [])) _
        refine XS.aloadN X22.here hx rfl (hb hby at_61) rfl rfl ?_
        show Steps p.tables e below (T22.setTop (mkF m 62 #[.val (.int p0), .val (.int (p0 &&& (3 : Int32))), .val (.ref w_NONE), .val (.int (0 : Int32)), .val (.int (0 : Int32)), .unset, .unset] [(.ref w_NONE)])) _
        refine st25.trans ?_
        show Steps p.tables e below (T25.setTop (mkF m 65 #[.val (.int p0), .val (.int (p0 &&& (3 : Int32))), .val (.ref w_NONE), .val (.int (0 : Int32)), .val (.int (0 : Int32)), .unset, .unset] [(.ref l_NONE)])) _
        refine XS.astore X25.here hx rfl (hb hby at_65) rfl rfl (l' := #[.val (.int p0), .val (.int (p0 &&& (3 : Int32))), .val (.ref w_NONE), .val (.int (0 : Int32)), .val (.int (0 : Int32)), .val (.ref l_NONE), .unset]) rfl ?_
        show Steps p.tables e below (T25.setTop (mkF m 67 #[.val (.int p0), .val (.int (p0 &&& (3 : Int32))), .val (.ref w_NONE), .val (.int (0 : Int32)), .val (.int (0 : Int32)), .val (.ref l_NONE), .unset] [])) _
        refine XS.aload X25.here hx rfl (hb hby at_67) rfl rfl ?_
        show Steps p.tables e below (T25.setTop (mkF m 69 #[.val (.int p0), .val (.int (p0 &&& (3 : Int32))), .val (.ref w_NONE), .val (.int (0 : Int32)), .val (.int (0 : Int32)), .val (.ref l_NONE), .unset] [(.ref l_NONE)])) _
        refine st26.trans ?_
        show Steps p.tables e below (T26.setTop (mkF m 72 #[.val (.int p0), .val (.int (p0 &&& (3 : Int32))), .val (.ref w_NONE), .val (.int (0 : Int32)), .val (.int (0 : Int32)), .val (.ref l_NONE), .unset] [(.int (1 : Int32))])) _
        refine XS.ifYes X26.here hx rfl (pc0 := 72) (pc' := 90) rfl (hb hby at_72) rfl ((if0 _ _).trans (feq (by decide : ¬ ((1 : Int32) = (0 : Int32)))).2) (by decide) (by decide) ?_
        show Steps p.tables e below (T26.setTop (mkF m 90 #[.val (.int p0), .val (.int (p0 &&& (3 : Int32))), .val (.ref w_NONE), .val (.int (0 : Int32)), .val (.int (0 : Int32)), .val (.ref l_NONE), .unset] [])) _
        refine XS.iconst X26.here hx rfl (hb hby at_90) ?_
        show Steps p.tables e below (T26.setTop (mkF m 91 #[.val (.int p0), .val (.int (p0 &&& (3 : Int32))), .val (.ref w_NONE), .val (.int (0 : Int32)), .val (.int (0 : Int32)), .val (.ref l_NONE), .unset] [(.int (0 : Int32))])) _
        refine XS.istore X26.here hx rfl (hb hby at_91) rfl (l' := #[.val (.int p0), .val (.int (p0 &&& (3 : Int32))), .val (.ref w_NONE), .val (.int (0 : Int32)), .val (.int (0 : Int32)), .val (.ref l_NONE), .val (.int (0 : Int32))]) rfl ?_
        show Steps p.tables e below (T26.setTop (mkF m 93 #[.val (.int p0), .val (.int (p0 &&& (3 : Int32))), .val (.ref w_NONE), .val (.int (0 : Int32)), .val (.int (0 : Int32)), .val (.ref l_NONE), .val (.int (0 : Int32))] [])) _
        refine XS.iloadN X26.here hx rfl (hb hby at_93) rfl ?_
        show Steps p.tables e below (T26.setTop (mkF m 94 #[.val (.int p0), .val (.int (p0 &&& (3 : Int32))), .val (.ref w_NONE), .val (.int (0 : Int32)), .val (.int (0 : Int32)), .val (.ref l_NONE), .val (.int (0 : Int32))] [(.int (0 : Int32))])) _
        refine XS.iload X26.here hx rfl (hb hby at_94) rfl ?_
        show Steps p.tables e below (T26.setTop (mkF m 96 #[.val (.int p0), .val (.int (p0 &&& (3 : Int32))), .val (.ref w_NONE), .val (.int (0 : Int32)), .val (.int (0 : Int32)), .val (.ref l_NONE), .val (.int (0 : Int32))] [(.int (0 : Int32)), (.int (0 : Int32))])) _
        refine XS.icmpNo X26.here hx rfl (hb hby at_96) rfl (teq (by decide : (0 : Int32) = (0 : Int32))).2 ?_
        show Steps p.tables e below (T26.setTop (mkF m 99 #[.val (.int p0), .val (.int (p0 &&& (3 : Int32))), .val (.ref w_NONE), .val (.int (0 : Int32)), .val (.int (0 : Int32)), .val (.ref l_NONE), .val (.int (0 : Int32))] [])) _
        refine XS.iloadN X26.here hx rfl (hb hby at_99) rfl ?_
        show Steps p.tables e below (T26.setTop (mkF m 100 #[.val (.int p0), .val (.int (p0 &&& (3 : Int32))), .val (.ref w_NONE), .val (.int (0 : Int32)), .val (.int (0 : Int32)), .val (.ref l_NONE), .val (.int (0 : Int32))] [(.int (0 : Int32))])) _
        refine XS.iload X26.here hx rfl (hb hby at_100) rfl ?_
        show Steps p.tables e below (T26.setTop (mkF m 102 #[.val (.int p0), .val (.int (p0 &&& (3 : Int32))), .val (.ref w_NONE), .val (.int (0 : Int32)), .val (.int (0 : Int32)), .val (.ref l_NONE), .val (.int (0 : Int32))] [(.int (0 : Int32)), (.int (0 : Int32))])) _
        refine XS.icmpNo X26.here hx rfl (hb hby at_102) rfl (teq (by decide : (0 : Int32) = (0 : Int32))).2 ?_
        show Steps p.tables e below (T26.setTop (mkF m 105 #[.val (.int p0), .val (.int (p0 &&& (3 : Int32))), .val (.ref w_NONE), .val (.int (0 : Int32)), .val (.int (0 : Int32)), .val (.ref l_NONE), .val (.int (0 : Int32))] [])) _
        refine XS.iconst X26.here hx rfl (hb hby at_105) ?_
        show Steps p.tables e below (T26.setTop (mkF m 106 #[.val (.int p0), .val (.int (p0 &&& (3 : Int32))), .val (.ref w_NONE), .val (.int (0 : Int32)), .val (.int (0 : Int32)), .val (.ref l_NONE), .val (.int (0 : Int32))] [(.int (1 : Int32))])) _
        refine XS.goto X26.here hx rfl (pc0 := 106) (pc' := 110) rfl (hb hby at_106) (by decide) (by decide) ?_
        show Steps p.tables e below (T26.setTop (mkF m 110 #[.val (.int p0), .val (.int (p0 &&& (3 : Int32))), .val (.ref w_NONE), .val (.int (0 : Int32)), .val (.int (0 : Int32)), .val (.ref l_NONE), .val (.int (0 : Int32))] [(.int (1 : Int32))])) _
        exact retN X26 hx (t := .boolean) Bd.returns (by simp) (hb hby at_110) hr
      · show Q_law Z p0 w_NONE w_PAYMENT w_TIME w_PAYMENT_AND_TIME kc fm l_NONE v_NONE cl_NONE l_PAYMENT v_PAYMENT cl_PAYMENT l_TIME v_TIME cl_TIME l_PAYMENT_AND_TIME v_PAYMENT_AND_TIME cl_PAYMENT_AND_TIME h0 n0 _ T26.heap _
        refine ⟨?_, N26, trivial⟩
        rw [F_law, if_pos hc5_19, if_pos hc51_23]
    · obtain ⟨cq27, kq27, q27a, q27b, q27c⟩ := isOf hZ e22 E_NONE
      obtain ⟨_, _, ⟨T27, L27, k27, n27⟩, -, X27, ⟨Lc27, hQ27, l27, y27, z27⟩, st27⟩ := X22.virtualBack hx (y := (⟨"com/example/matchbook/matchbook/model/Contingency", "label", "()Ljava/lang/String;"⟩ : MethodName)) (z := (⟨"com/example/matchbook/matchbook/model/Contingency", "label", "()Ljava/lang/String;"⟩ : MethodName)) hown (mvT hZ (hw _ (List.mem_of_getElem? (i := 12) rfl))) (mvT hZ (hw _ (List.mem_of_getElem? (i := 13) rfl))) (notFace_of_selects (args := #[]) (mvT hZ (hw _ (List.mem_of_getElem? (i := 15) rfl)))) (mvT hZ (hw _ (List.mem_of_getElem? (i := 15) rfl))) (mvT hZ (hw _ (List.mem_of_getElem? (i := 14) rfl))) (by decide) (backOf (W := 0) (rm_lab l Z a0' hw [] w_NONE l_NONE h0 n0 Z0 HL_NONE) hZ (hw _ (List.mem_of_getElem? (i := 16) rfl)) (hw _ (List.mem_of_getElem? (i := 1) rfl)) (by decide) (by decide)) q27a q27c (g := (mkF m 62 #[.val (.int p0), .val (.int (p0 &&& (3 : Int32))), .val (.ref w_NONE), .val (.int (0 : Int32)), .val (.int (1 : Int32)), .unset, .unset] [(.ref w_NONE)])) rfl (by rw [hml]; rfl) (Steps.refl _) (argsL := []) (rest := []) (lenOf own_pd4 rfl) rfl (by show 2 * 0 + _ ≤ _; exact Nat.le_of_eq rfl) (hb hby at_62) (fun _ _ => ⟨rfl, e22, (by decide : 0 + 0 ≤ _), (by decide : 0 + 0 ≤ _)⟩)
      dsimp only [Pt.U, Pt.locs, Pt.cells, Pt.slots] at X27 l27 y27 z27 st27 hQ27
      subst l27 y27 z27
      obtain ⟨rfl, N27q, e27⟩ := hQ27
      have N27 := Fr.app N22 N27q
      obtain ⟨cq28, kq28, q28a, q28b, q28c⟩ := isOf hZ e27 EL_NONE
      obtain ⟨_, _, ⟨T28, L28, k28, n28⟩, -, X28, ⟨Lc28, hQ28, l28, y28, z28⟩, st28⟩ := X27.virtualBack hx (y := (⟨"java/lang/String", "isEmpty", "()Z"⟩ : MethodName)) (z := (⟨"java/lang/String", "isEmpty", "()Z"⟩ : MethodName)) hown (mvT hZ (hw _ (List.mem_of_getElem? (i := 19) rfl))) (mvT hZ (hw _ (List.mem_of_getElem? (i := 20) rfl))) (notFace_of_selects (args := #[]) (mvT hZ (hw _ (List.mem_of_getElem? (i := 22) rfl)))) (mvT hZ (hw _ (List.mem_of_getElem? (i := 22) rfl))) (mvT hZ (hw _ (List.mem_of_getElem? (i := 21) rfl))) (by decide) (backOf (W := 0) (rm_emp l Z a0' hw [] l_NONE v_NONE cl_NONE (0 : Int32) h0 n0 Z0 HV_NONE Ar_NONE hsz_NONE hnn_NONE) hZ (hw _ (List.mem_of_getElem? (i := 24) rfl)) (hw _ (List.mem_of_getElem? (i := 23) rfl)) (by decide) (by decide)) q28a q28c (g := (mkF m 69 #[.val (.int p0), .val (.int (p0 &&& (3 : Int32))), .val (.ref w_NONE), .val (.int (0 : Int32)), .val (.int (1 : Int32)), .val (.ref l_NONE), .unset] [(.ref l_NONE)])) rfl (by rw [hml]; rfl) (Steps.refl _) (argsL := []) (rest := []) (lenOf own_pd2 rfl) rfl (by show 2 * 0 + _ ≤ _; exact Nat.le_of_eq rfl) (hb hby at_69) (fun _ _ => ⟨rfl, e27, (by decide : 0 + 0 ≤ _), (by decide : 0 + 0 ≤ _)⟩)
      dsimp only [Pt.U, Pt.locs, Pt.cells, Pt.slots] at X28 l28 y28 z28 st28 hQ28
      subst l28 y28 z28
      obtain ⟨rfl, N28q, e28⟩ := hQ28
      have N28 := Fr.app N27 N28q
      have q28 : (F_emp (0 : Int32)) = (1 : Int32) := by rw [F_emp, if_pos (by decide : (0 : Int32) = (0 : Int32))]
      rw [q28] at st28
      obtain ⟨fs, hr, hrun, hended, hW, hsame⟩ := X28.leave (v := some (.int (0 : Int32))) (fun h => by rw [Bd.returns] at h; cases h)
      refine ⟨_, _, pre24 _ ?_, hrun, hended, _, _, rfl, ?_, ⟨_, rfl⟩, hW, hsame.mono (by decide) (by decide)⟩
      · show Steps p.tables e below (T22.setTop (mkF m 51 #[.val (.int p0), .val (.int (p0 &&& (3 : Int32))), .val (.ref w_NONE), .val (.int (0 : Int32)), .unset, .unset, .unset] [(.int ((p0 &&& (3 : Int32)) &&& (1 : Int32)))])) _
        refine XS.ifNo X22.here hx rfl (hb hby at_51) rfl ((if0 _ _).trans (feq hc51_23).1) ?_
        show Steps p.tables e below (T22.setTop (mkF m 54 #[.val (.int p0), .val (.int (p0 &&& (3 : Int32))), .val (.ref w_NONE), .val (.int (0 : Int32)), .unset, .unset, .unset] [])) _
        refine XS.iconst X22.here hx rfl (hb hby at_54) ?_
        show Steps p.tables e below (T22.setTop (mkF m 55 #[.val (.int p0), .val (.int (p0 &&& (3 : Int32))), .val (.ref w_NONE), .val (.int (0 : Int32)), .unset, .unset, .unset] [(.int (1 : Int32))])) _
        refine XS.goto X22.here hx rfl (pc0 := 55) (pc' := 59) rfl (hb hby at_55) (by decide) (by decide) ?_
        show Steps p.tables e below (T22.setTop (mkF m 59 #[.val (.int p0), .val (.int (p0 &&& (3 : Int32))), .val (.ref w_NONE), .val (.int (0 : Int32)), .unset, .unset, .unset] [(.int (1 : Int32))])) _
        refine XS.istore X22.here hx rfl (hb hby at_59) rfl (l' := #[.val (.int p0), .val (.int (p0 &&& (3 : Int32))), .val (.ref w_NONE), .val (.int (0 : Int32)), .val (.int (1 : Int32)), .unset, .unset]) rfl ?_
        show Steps p.tables e below (T22.setTop (mkF m 61 #[.val (.int p0), .val (.int (p0 &&& (3 : Int32))), .val (.ref w_NONE), .val (.int (0 : Int32)), .val (.int (1 : Int32)), .unset, .unset] [])) _
        refine XS.aloadN X22.here hx rfl (hb hby at_61) rfl rfl ?_
        show Steps p.tables e below (T22.setTop (mkF m 62 #[.val (.int p0), .val (.int (p0 &&& (3 : Int32))), .val (.ref w_NONE), .val (.int (0 : Int32)), .val (.int (1 : Int32)), .unset, .unset] [(.ref w_NONE)])) _
        refine st27.trans ?_
        show Steps p.tables e below (T27.setTop (mkF m 65 #[.val (.int p0), .val (.int (p0 &&& (3 : Int32))), .val (.ref w_NONE), .val (.int (0 : Int32)), .val (.int (1 : Int32)), .unset, .unset] [(.ref l_NONE)])) _
        refine XS.astore X27.here hx rfl (hb hby at_65) rfl rfl (l' := #[.val (.int p0), .val (.int (p0 &&& (3 : Int32))), .val (.ref w_NONE), .val (.int (0 : Int32)), .val (.int (1 : Int32)), .val (.ref l_NONE), .unset]) rfl ?_
        show Steps p.tables e below (T27.setTop (mkF m 67 #[.val (.int p0), .val (.int (p0 &&& (3 : Int32))), .val (.ref w_NONE), .val (.int (0 : Int32)), .val (.int (1 : Int32)), .val (.ref l_NONE), .unset] [])) _
        refine XS.aload X27.here hx rfl (hb hby at_67) rfl rfl ?_
        show Steps p.tables e below (T27.setTop (mkF m 69 #[.val (.int p0), .val (.int (p0 &&& (3 : Int32))), .val (.ref w_NONE), .val (.int (0 : Int32)), .val (.int (1 : Int32)), .val (.ref l_NONE), .unset] [(.ref l_NONE)])) _
        refine st28.trans ?_
        show Steps p.tables e below (T28.setTop (mkF m 72 #[.val (.int p0), .val (.int (p0 &&& (3 : Int32))), .val (.ref w_NONE), .val (.int (0 : Int32)), .val (.int (1 : Int32)), .val (.ref l_NONE), .unset] [(.int (1 : Int32))])) _
        refine XS.ifYes X28.here hx rfl (pc0 := 72) (pc' := 90) rfl (hb hby at_72) rfl ((if0 _ _).trans (feq (by decide : ¬ ((1 : Int32) = (0 : Int32)))).2) (by decide) (by decide) ?_
        show Steps p.tables e below (T28.setTop (mkF m 90 #[.val (.int p0), .val (.int (p0 &&& (3 : Int32))), .val (.ref w_NONE), .val (.int (0 : Int32)), .val (.int (1 : Int32)), .val (.ref l_NONE), .unset] [])) _
        refine XS.iconst X28.here hx rfl (hb hby at_90) ?_
        show Steps p.tables e below (T28.setTop (mkF m 91 #[.val (.int p0), .val (.int (p0 &&& (3 : Int32))), .val (.ref w_NONE), .val (.int (0 : Int32)), .val (.int (1 : Int32)), .val (.ref l_NONE), .unset] [(.int (0 : Int32))])) _
        refine XS.istore X28.here hx rfl (hb hby at_91) rfl (l' := #[.val (.int p0), .val (.int (p0 &&& (3 : Int32))), .val (.ref w_NONE), .val (.int (0 : Int32)), .val (.int (1 : Int32)), .val (.ref l_NONE), .val (.int (0 : Int32))]) rfl ?_
        show Steps p.tables e below (T28.setTop (mkF m 93 #[.val (.int p0), .val (.int (p0 &&& (3 : Int32))), .val (.ref w_NONE), .val (.int (0 : Int32)), .val (.int (1 : Int32)), .val (.ref l_NONE), .val (.int (0 : Int32))] [])) _
        refine XS.iloadN X28.here hx rfl (hb hby at_93) rfl ?_
        show Steps p.tables e below (T28.setTop (mkF m 94 #[.val (.int p0), .val (.int (p0 &&& (3 : Int32))), .val (.ref w_NONE), .val (.int (0 : Int32)), .val (.int (1 : Int32)), .val (.ref l_NONE), .val (.int (0 : Int32))] [(.int (0 : Int32))])) _
        refine XS.iload X28.here hx rfl (hb hby at_94) rfl ?_
        show Steps p.tables e below (T28.setTop (mkF m 96 #[.val (.int p0), .val (.int (p0 &&& (3 : Int32))), .val (.ref w_NONE), .val (.int (0 : Int32)), .val (.int (1 : Int32)), .val (.ref l_NONE), .val (.int (0 : Int32))] [(.int (1 : Int32)), (.int (0 : Int32))])) _
        refine XS.icmpYes X28.here hx rfl (pc0 := 96) (pc' := 109) rfl (hb hby at_96) rfl (feq (by decide : ¬ ((0 : Int32) = (1 : Int32)))).2 (by decide) (by decide) ?_
        show Steps p.tables e below (T28.setTop (mkF m 109 #[.val (.int p0), .val (.int (p0 &&& (3 : Int32))), .val (.ref w_NONE), .val (.int (0 : Int32)), .val (.int (1 : Int32)), .val (.ref l_NONE), .val (.int (0 : Int32))] [])) _
        refine XS.iconst X28.here hx rfl (hb hby at_109) ?_
        show Steps p.tables e below (T28.setTop (mkF m 110 #[.val (.int p0), .val (.int (p0 &&& (3 : Int32))), .val (.ref w_NONE), .val (.int (0 : Int32)), .val (.int (1 : Int32)), .val (.ref l_NONE), .val (.int (0 : Int32))] [(.int (0 : Int32))])) _
        exact retN X28 hx (t := .boolean) Bd.returns (by simp) (hb hby at_110) hr
      · show Q_law Z p0 w_NONE w_PAYMENT w_TIME w_PAYMENT_AND_TIME kc fm l_NONE v_NONE cl_NONE l_PAYMENT v_PAYMENT cl_PAYMENT l_TIME v_TIME cl_TIME l_PAYMENT_AND_TIME v_PAYMENT_AND_TIME cl_PAYMENT_AND_TIME h0 n0 _ T28.heap _
        refine ⟨?_, N28, trivial⟩
        rw [F_law, if_pos hc5_19, if_neg hc51_23]
  · have pre30 : ∀ t, Steps p.tables e below (s₁.setTop (mkF m 17 #[.val (.int p0), .val (.int (p0 &&& (3 : Int32))), .unset, .unset, .unset, .unset, .unset] [(.int (1 : Int32)), (.int (p0 &&& (3 : Int32)))])) t → Steps p.tables e below (s₁.setTop (entryFrame m #[(.int p0)] maxLocals)) t := fun t k => pre20 t (by
      show Steps p.tables e below (s₁.setTop (mkF m 5 #[.val (.int p0), .val (.int (p0 &&& (3 : Int32))), .unset, .unset, .unset, .unset, .unset] [(.int (p0 &&& (3 : Int32)))])) _
      refine XS.ifYes X0.here hx rfl (pc0 := 5) (pc' := 15) rfl (hb hby at_5) rfl ((if0 _ _).trans (feq hc5_19).2) (by decide) (by decide) ?_
      show Steps p.tables e below (s₁.setTop (mkF m 15 #[.val (.int p0), .val (.int (p0 &&& (3 : Int32))), .unset, .unset, .unset, .unset, .unset] [])) _
      refine XS.iloadN X0.here hx rfl (hb hby at_15) rfl ?_
      show Steps p.tables e below (s₁.setTop (mkF m 16 #[.val (.int p0), .val (.int (p0 &&& (3 : Int32))), .unset, .unset, .unset, .unset, .unset] [(.int (p0 &&& (3 : Int32)))])) _
      refine XS.iconst X0.here hx rfl (hb hby at_16) ?_
      exact k)
    by_cases hc17_29 : (p0 &&& (3 : Int32)) = (1 : Int32)
    · obtain ⟨T31, X31, e31, st31⟩ := getS2 X0 hx hZ hown (host := "") (Or.inl (hw _ (List.mem_of_getElem? (i := 55) rfl))) Via.refl e0 S_PAYMENT (g := (mkF m 20 #[.val (.int p0), .val (.int (p0 &&& (3 : Int32))), .unset, .unset, .unset, .unset, .unset] [])) rfl (hb hby at_20)
      obtain ⟨cq32, kq32, q32a, q32b, q32c⟩ := isOf hZ e31 E_PAYMENT
      obtain ⟨_, _, ⟨T32, L32, k32, n32⟩, -, X32, ⟨Lc32, hQ32, l32, y32, z32⟩, st32⟩ := X31.virtualBack hx (y := (⟨"com/example/matchbook/matchbook/model/Contingency", "paymentBased", "()Z"⟩ : MethodName)) (z := (⟨"com/example/matchbook/matchbook/model/Contingency", "paymentBased", "()Z"⟩ : MethodName)) hown (mvT hZ (hw _ (List.mem_of_getElem? (i := 3) rfl))) (mvT hZ (hw _ (List.mem_of_getElem? (i := 4) rfl))) (notFace_of_selects (args := #[]) (mvT hZ (hw _ (List.mem_of_getElem? (i := 6) rfl)))) (mvT hZ (hw _ (List.mem_of_getElem? (i := 6) rfl))) (mvT hZ (hw _ (List.mem_of_getElem? (i := 5) rfl))) (by decide) (backOf (W := 0) (rm_pb l Z a0' hw [] w_PAYMENT w_PAYMENT w_PAYMENT_AND_TIME h0 n0 Z0 S_PAYMENT S_PAYMENT_AND_TIME) hZ (hw _ (List.mem_of_getElem? (i := 7) rfl)) (hw _ (List.mem_of_getElem? (i := 1) rfl)) (by decide) (by decide)) q32a q32c (g := (mkF m 44 #[.val (.int p0), .val (.int (p0 &&& (3 : Int32))), .val (.ref w_PAYMENT), .unset, .unset, .unset, .unset] [(.ref w_PAYMENT)])) rfl (by rw [hml]; rfl) (Steps.refl _) (argsL := []) (rest := []) (lenOf own_pd2 rfl) rfl (by show 2 * 0 + _ ≤ _; exact Nat.le_of_eq rfl) (hb hby at_44) (fun _ _ => ⟨rfl, e31, (by decide : 0 + 0 ≤ _), (by decide : 0 + 0 ≤ _)⟩)
      dsimp only [Pt.U, Pt.locs, Pt.cells, Pt.slots] at X32 l32 y32 z32 st32 hQ32
      subst l32 y32 z32
      obtain ⟨rfl, N32q, e32⟩ := hQ32
      have N32 := Fr.app N0 N32q
      have q32 : (F_pb w_PAYMENT w_PAYMENT w_PAYMENT_AND_TIME) = (1 : Int32) := by rw [F_pb, if_pos (rfl : w_PAYMENT = w_PAYMENT)]
      rw [q32] at st32
      have pre34 : ∀ t, Steps p.tables e below (T32.setTop (mkF m 51 #[.val (.int p0), .val (.int (p0 &&& (3 : Int32))), .val (.ref w_PAYMENT), .val (.int (1 : Int32)), .unset, .unset, .unset] [(.int ((p0 &&& (3 : Int32)) &&& (1 : Int32)))])) t → Steps p.tables e below (s₁.setTop (entryFrame m #[(.int p0)] maxLocals)) t := fun t k => pre30 t (by
        show Steps p.tables e below (s₁.setTop (mkF m 17 #[.val (.int p0), .val (.int (p0 &&& (3 : Int32))), .unset, .unset, .unset, .unset, .unset] [(.int (1 : Int32)), (.int (p0 &&& (3 : Int32)))])) _
        refine XS.icmpNo X0.here hx rfl (hb hby at_17) rfl (teq hc17_29).2 ?_
        show Steps p.tables e below (s₁.setTop (mkF m 20 #[.val (.int p0), .val (.int (p0 &&& (3 : Int32))), .unset, .unset, .unset, .unset, .unset] [])) _
        refine st31 _ ?_
        show Steps p.tables e below (T31.setTop (mkF m 23 #[.val (.int p0), .val (.int (p0 &&& (3 : Int32))), .unset, .unset, .unset, .unset, .unset] [(.ref w_PAYMENT)])) _
        refine XS.astoreN X31.here hx rfl (hb hby at_23) rfl rfl (l' := #[.val (.int p0), .val (.int (p0 &&& (3 : Int32))), .val (.ref w_PAYMENT), .unset, .unset, .unset, .unset]) rfl ?_
        show Steps p.tables e below (T31.setTop (mkF m 24 #[.val (.int p0), .val (.int (p0 &&& (3 : Int32))), .val (.ref w_PAYMENT), .unset, .unset, .unset, .unset] [])) _
        refine XS.goto X31.here hx rfl (pc0 := 24) (pc' := 43) rfl (hb hby at_24) (by decide) (by decide) ?_
        show Steps p.tables e below (T31.setTop (mkF m 43 #[.val (.int p0), .val (.int (p0 &&& (3 : Int32))), .val (.ref w_PAYMENT), .unset, .unset, .unset, .unset] [])) _
        refine XS.aloadN X31.here hx rfl (hb hby at_43) rfl rfl ?_
        show Steps p.tables e below (T31.setTop (mkF m 44 #[.val (.int p0), .val (.int (p0 &&& (3 : Int32))), .val (.ref w_PAYMENT), .unset, .unset, .unset, .unset] [(.ref w_PAYMENT)])) _
        refine st32.trans ?_
        show Steps p.tables e below (T32.setTop (mkF m 47 #[.val (.int p0), .val (.int (p0 &&& (3 : Int32))), .val (.ref w_PAYMENT), .unset, .unset, .unset, .unset] [(.int (1 : Int32))])) _
        refine XS.istoreN X32.here hx rfl (hb hby at_47) rfl (l' := #[.val (.int p0), .val (.int (p0 &&& (3 : Int32))), .val (.ref w_PAYMENT), .val (.int (1 : Int32)), .unset, .unset, .unset]) rfl ?_
        show Steps p.tables e below (T32.setTop (mkF m 48 #[.val (.int p0), .val (.int (p0 &&& (3 : Int32))), .val (.ref w_PAYMENT), .val (.int (1 : Int32)), .unset, .unset, .unset] [])) _
        refine XS.iloadN X32.here hx rfl (hb hby at_48) rfl ?_
        show Steps p.tables e below (T32.setTop (mkF m 49 #[.val (.int p0), .val (.int (p0 &&& (3 : Int32))), .val (.ref w_PAYMENT), .val (.int (1 : Int32)), .unset, .unset, .unset] [(.int (p0 &&& (3 : Int32)))])) _
        refine XS.iconst X32.here hx rfl (hb hby at_49) ?_
        show Steps p.tables e below (T32.setTop (mkF m 50 #[.val (.int p0), .val (.int (p0 &&& (3 : Int32))), .val (.ref w_PAYMENT), .val (.int (1 : Int32)), .unset, .unset, .unset] [(.int (1 : Int32)), (.int (p0 &&& (3 : Int32)))])) _
        refine XS.iand X32.here hx rfl (hb hby at_50) rfl ?_
        exact k)
      by_cases hc51_33 : ((p0 &&& (3 : Int32)) &&& (1 : Int32)) = (0 : Int32)
      · obtain ⟨cq35, kq35, q35a, q35b, q35c⟩ := isOf hZ e32 E_PAYMENT
        obtain ⟨_, _, ⟨T35, L35, k35, n35⟩, -, X35, ⟨Lc35, hQ35, l35, y35, z35⟩, st35⟩ := X32.virtualBack hx (y := (⟨"com/example/matchbook/matchbook/model/Contingency", "label", "()Ljava/lang/String;"⟩ : MethodName)) (z := (⟨"com/example/matchbook/matchbook/model/Contingency", "label", "()Ljava/lang/String;"⟩ : MethodName)) hown (mvT hZ (hw _ (List.mem_of_getElem? (i := 12) rfl))) (mvT hZ (hw _ (List.mem_of_getElem? (i := 13) rfl))) (notFace_of_selects (args := #[]) (mvT hZ (hw _ (List.mem_of_getElem? (i := 15) rfl)))) (mvT hZ (hw _ (List.mem_of_getElem? (i := 15) rfl))) (mvT hZ (hw _ (List.mem_of_getElem? (i := 14) rfl))) (by decide) (backOf (W := 0) (rm_lab l Z a0' hw [] w_PAYMENT l_PAYMENT h0 n0 Z0 HL_PAYMENT) hZ (hw _ (List.mem_of_getElem? (i := 16) rfl)) (hw _ (List.mem_of_getElem? (i := 1) rfl)) (by decide) (by decide)) q35a q35c (g := (mkF m 62 #[.val (.int p0), .val (.int (p0 &&& (3 : Int32))), .val (.ref w_PAYMENT), .val (.int (1 : Int32)), .val (.int (0 : Int32)), .unset, .unset] [(.ref w_PAYMENT)])) rfl (by rw [hml]; rfl) (Steps.refl _) (argsL := []) (rest := []) (lenOf own_pd4 rfl) rfl (by show 2 * 0 + _ ≤ _; exact Nat.le_of_eq rfl) (hb hby at_62) (fun _ _ => ⟨rfl, e32, (by decide : 0 + 0 ≤ _), (by decide : 0 + 0 ≤ _)⟩)
        dsimp only [Pt.U, Pt.locs, Pt.cells, Pt.slots] at X35 l35 y35 z35 st35 hQ35
        subst l35 y35 z35
        obtain ⟨rfl, N35q, e35⟩ := hQ35
        have N35 := Fr.app N32 N35q
        obtain ⟨cq36, kq36, q36a, q36b, q36c⟩ := isOf hZ e35 EL_PAYMENT
        obtain ⟨_, _, ⟨T36, L36, k36, n36⟩, -, X36, ⟨Lc36, hQ36, l36, y36, z36⟩, st36⟩ := X35.virtualBack hx (y := (⟨"java/lang/String", "isEmpty", "()Z"⟩ : MethodName)) (z := (⟨"java/lang/String", "isEmpty", "()Z"⟩ : MethodName)) hown (mvT hZ (hw _ (List.mem_of_getElem? (i := 19) rfl))) (mvT hZ (hw _ (List.mem_of_getElem? (i := 20) rfl))) (notFace_of_selects (args := #[]) (mvT hZ (hw _ (List.mem_of_getElem? (i := 22) rfl)))) (mvT hZ (hw _ (List.mem_of_getElem? (i := 22) rfl))) (mvT hZ (hw _ (List.mem_of_getElem? (i := 21) rfl))) (by decide) (backOf (W := 0) (rm_emp l Z a0' hw [] l_PAYMENT v_PAYMENT cl_PAYMENT (7 : Int32) h0 n0 Z0 HV_PAYMENT Ar_PAYMENT hsz_PAYMENT hnn_PAYMENT) hZ (hw _ (List.mem_of_getElem? (i := 24) rfl)) (hw _ (List.mem_of_getElem? (i := 23) rfl)) (by decide) (by decide)) q36a q36c (g := (mkF m 69 #[.val (.int p0), .val (.int (p0 &&& (3 : Int32))), .val (.ref w_PAYMENT), .val (.int (1 : Int32)), .val (.int (0 : Int32)), .val (.ref l_PAYMENT), .unset] [(.ref l_PAYMENT)])) rfl (by rw [hml]; rfl) (Steps.refl _) (argsL := []) (rest := []) (lenOf own_pd2 rfl) rfl (by show 2 * 0 + _ ≤ _; exact Nat.le_of_eq rfl) (hb hby at_69) (fun _ _ => ⟨rfl, e35, (by decide : 0 + 0 ≤ _), (by decide : 0 + 0 ≤ _)⟩)
        dsimp only [Pt.U, Pt.locs, Pt.cells, Pt.slots] at X36 l36 y36 z36 st36 hQ36
        subst l36 y36 z36
        obtain ⟨rfl, N36q, e36⟩ := hQ36
        have N36 := Fr.app N35 N36q
        have q36 : (F_emp (7 : Int32)) = (0 : Int32) := by rw [F_emp, if_neg (by decide : ¬ ((7 : Int32) = (0 : Int32)))]
        rw [q36] at st36
        obtain ⟨cq37, kq37, q37a, q37b, q37c⟩ := isOf hZ e36 EL_PAYMENT
        obtain ⟨_, _, ⟨T37, L37, k37, n37⟩, -, X37, ⟨Lc37, hQ37, l37, y37, z37⟩, st37⟩ := X36.virtualBack hx (y := (⟨"java/lang/String", "charAt", "(I)C"⟩ : MethodName)) (z := (⟨"java/lang/String", "charAt", "(I)C"⟩ : MethodName)) hown (mvT hZ (hw _ (List.mem_of_getElem? (i := 28) rfl))) (mvT hZ (hw _ (List.mem_of_getElem? (i := 29) rfl))) (notFace_of_selects (args := #[]) (mvT hZ (hw _ (List.mem_of_getElem? (i := 31) rfl)))) (mvT hZ (hw _ (List.mem_of_getElem? (i := 31) rfl))) (mvT hZ (hw _ (List.mem_of_getElem? (i := 30) rfl))) (by decide) (backOf (W := 0) (rm_chr l Z a0' hw [] l_PAYMENT (0 : Int32) v_PAYMENT cl_PAYMENT (7 : Int32) (112 : Int32) kc fm h0 n0 Z0 EL_PAYMENT HC_PAYMENT HV_PAYMENT Ar_PAYMENT hsz_PAYMENT hnn_PAYMENT (by decide) (by decide) hat_PAYMENT S_cs hkc S_fm hfm) hZ (hw _ (List.mem_of_getElem? (i := 32) rfl)) (hw _ (List.mem_of_getElem? (i := 23) rfl)) (by decide) (by decide)) q37a q37c (g := (mkF m 78 #[.val (.int p0), .val (.int (p0 &&& (3 : Int32))), .val (.ref w_PAYMENT), .val (.int (1 : Int32)), .val (.int (0 : Int32)), .val (.ref l_PAYMENT), .unset] [(.int (0 : Int32)), (.ref l_PAYMENT)])) rfl (by rw [hml]; rfl) (Steps.refl _) (argsL := [(.int (0 : Int32))]) (rest := []) (lenOf own_pd5 rfl) rfl (by show 2 * 0 + _ ≤ _; exact Nat.le_of_eq rfl) (hb hby at_78) (fun _ _ => ⟨rfl, e36, (by decide : 0 + 0 ≤ _), (by decide : 0 + 0 ≤ _)⟩)
        dsimp only [Pt.U, Pt.locs, Pt.cells, Pt.slots] at X37 l37 y37 z37 st37 hQ37
        subst l37 y37 z37
        obtain ⟨rfl, N37q, e37⟩ := hQ37
        have N37 := Fr.app N36 N37q
        have q37 : (F_chr (112 : Int32)) = (112 : Int32) := by unfold F_chr F_lchar; decide +kernel
        rw [q37] at st37
        obtain ⟨fs, hr, hrun, hended, hW, hsame⟩ := X37.leave (v := some (.int (0 : Int32))) (fun h => by rw [Bd.returns] at h; cases h)
        refine ⟨_, _, pre34 _ ?_, hrun, hended, _, _, rfl, ?_, ⟨_, rfl⟩, hW, hsame.mono (by decide) (by decide)⟩
        · show Steps p.tables e below (T32.setTop (mkF m 51 #[.val (.int p0), .val (.int (p0 &&& (3 : Int32))), .val (.ref w_PAYMENT), .val (.int (1 : Int32)), .unset, .unset, .unset] [(.int ((p0 &&& (3 : Int32)) &&& (1 : Int32)))])) _
          refine XS.ifYes X32.here hx rfl (pc0 := 51) (pc' := 58) rfl (hb hby at_51) rfl ((if0 _ _).trans (teq hc51_33).1) (by decide) (by decide) ?_
          show Steps p.tables e below (T32.setTop (mkF m 58 #[.val (.int p0), .val (.int (p0 &&& (3 : Int32))), .val (.ref w_PAYMENT), .val (.int (1 : Int32)), .unset, .unset, .unset] [])) _
          refine XS.iconst X32.here hx rfl (hb hby at_58) ?_
          show Steps p.tables e below (T32.setTop (mkF m 59 #[.val (.int p0), .val (.int (p0 &&& (3 : Int32))), .val (.ref w_PAYMENT), .val (.int (1 : Int32)), .unset, .unset, .unset] [(.int (0 : Int32))])) _
          refine XS.istore X32.here hx rfl (hb hby at_59) rfl (l' := #[.val (.int p0), .val (.int (p0 &&& (3 : Int32))), .val (.ref w_PAYMENT), .val (.int (1 : Int32)), .val (.int (0 : Int32)), .unset, .unset]) rfl ?_
          show Steps p.tables e below (T32.setTop (mkF m 61 #[.val (.int p0), .val (.int (p0 &&& (3 : Int32))), .val (.ref w_PAYMENT), .val (.int (1 : Int32)), .val (.int (0 : Int32)), .unset, .unset] [])) _
          refine XS.aloadN X32.here hx rfl (hb hby at_61) rfl rfl ?_
          show Steps p.tables e below (T32.setTop (mkF m 62 #[.val (.int p0), .val (.int (p0 &&& (3 : Int32))), .val (.ref w_PAYMENT), .val (.int (1 : Int32)), .val (.int (0 : Int32)), .unset, .unset] [(.ref w_PAYMENT)])) _
          refine st35.trans ?_
          show Steps p.tables e below (T35.setTop (mkF m 65 #[.val (.int p0), .val (.int (p0 &&& (3 : Int32))), .val (.ref w_PAYMENT), .val (.int (1 : Int32)), .val (.int (0 : Int32)), .unset, .unset] [(.ref l_PAYMENT)])) _
          refine XS.astore X35.here hx rfl (hb hby at_65) rfl rfl (l' := #[.val (.int p0), .val (.int (p0 &&& (3 : Int32))), .val (.ref w_PAYMENT), .val (.int (1 : Int32)), .val (.int (0 : Int32)), .val (.ref l_PAYMENT), .unset]) rfl ?_
          show Steps p.tables e below (T35.setTop (mkF m 67 #[.val (.int p0), .val (.int (p0 &&& (3 : Int32))), .val (.ref w_PAYMENT), .val (.int (1 : Int32)), .val (.int (0 : Int32)), .val (.ref l_PAYMENT), .unset] [])) _
          refine XS.aload X35.here hx rfl (hb hby at_67) rfl rfl ?_
          show Steps p.tables e below (T35.setTop (mkF m 69 #[.val (.int p0), .val (.int (p0 &&& (3 : Int32))), .val (.ref w_PAYMENT), .val (.int (1 : Int32)), .val (.int (0 : Int32)), .val (.ref l_PAYMENT), .unset] [(.ref l_PAYMENT)])) _
          refine st36.trans ?_
          show Steps p.tables e below (T36.setTop (mkF m 72 #[.val (.int p0), .val (.int (p0 &&& (3 : Int32))), .val (.ref w_PAYMENT), .val (.int (1 : Int32)), .val (.int (0 : Int32)), .val (.ref l_PAYMENT), .unset] [(.int (0 : Int32))])) _
          refine XS.ifNo X36.here hx rfl (hb hby at_72) rfl ((if0 _ _).trans (teq (by decide : (0 : Int32) = (0 : Int32))).2) ?_
          show Steps p.tables e below (T36.setTop (mkF m 75 #[.val (.int p0), .val (.int (p0 &&& (3 : Int32))), .val (.ref w_PAYMENT), .val (.int (1 : Int32)), .val (.int (0 : Int32)), .val (.ref l_PAYMENT), .unset] [])) _
          refine XS.aload X36.here hx rfl (hb hby at_75) rfl rfl ?_
          show Steps p.tables e below (T36.setTop (mkF m 77 #[.val (.int p0), .val (.int (p0 &&& (3 : Int32))), .val (.ref w_PAYMENT), .val (.int (1 : Int32)), .val (.int (0 : Int32)), .val (.ref l_PAYMENT), .unset] [(.ref l_PAYMENT)])) _
          refine XS.iconst X36.here hx rfl (hb hby at_77) ?_
          show Steps p.tables e below (T36.setTop (mkF m 78 #[.val (.int p0), .val (.int (p0 &&& (3 : Int32))), .val (.ref w_PAYMENT), .val (.int (1 : Int32)), .val (.int (0 : Int32)), .val (.ref l_PAYMENT), .unset] [(.int (0 : Int32)), (.ref l_PAYMENT)])) _
          refine st37.trans ?_
          show Steps p.tables e below (T37.setTop (mkF m 81 #[.val (.int p0), .val (.int (p0 &&& (3 : Int32))), .val (.ref w_PAYMENT), .val (.int (1 : Int32)), .val (.int (0 : Int32)), .val (.ref l_PAYMENT), .unset] [(.int (112 : Int32))])) _
          refine XS.bipush X37.here hx rfl (hb hby at_81) ?_
          show Steps p.tables e below (T37.setTop (mkF m 83 #[.val (.int p0), .val (.int (p0 &&& (3 : Int32))), .val (.ref w_PAYMENT), .val (.int (1 : Int32)), .val (.int (0 : Int32)), .val (.ref l_PAYMENT), .unset] [(.int (112 : Int32)), (.int (112 : Int32))])) _
          refine XS.icmpNo X37.here hx rfl (hb hby at_83) rfl (teq (by decide : (112 : Int32) = (112 : Int32))).2 ?_
          show Steps p.tables e below (T37.setTop (mkF m 86 #[.val (.int p0), .val (.int (p0 &&& (3 : Int32))), .val (.ref w_PAYMENT), .val (.int (1 : Int32)), .val (.int (0 : Int32)), .val (.ref l_PAYMENT), .unset] [])) _
          refine XS.iconst X37.here hx rfl (hb hby at_86) ?_
          show Steps p.tables e below (T37.setTop (mkF m 87 #[.val (.int p0), .val (.int (p0 &&& (3 : Int32))), .val (.ref w_PAYMENT), .val (.int (1 : Int32)), .val (.int (0 : Int32)), .val (.ref l_PAYMENT), .unset] [(.int (1 : Int32))])) _
          refine XS.goto X37.here hx rfl (pc0 := 87) (pc' := 91) rfl (hb hby at_87) (by decide) (by decide) ?_
          show Steps p.tables e below (T37.setTop (mkF m 91 #[.val (.int p0), .val (.int (p0 &&& (3 : Int32))), .val (.ref w_PAYMENT), .val (.int (1 : Int32)), .val (.int (0 : Int32)), .val (.ref l_PAYMENT), .unset] [(.int (1 : Int32))])) _
          refine XS.istore X37.here hx rfl (hb hby at_91) rfl (l' := #[.val (.int p0), .val (.int (p0 &&& (3 : Int32))), .val (.ref w_PAYMENT), .val (.int (1 : Int32)), .val (.int (0 : Int32)), .val (.ref l_PAYMENT), .val (.int (1 : Int32))]) rfl ?_
          show Steps p.tables e below (T37.setTop (mkF m 93 #[.val (.int p0), .val (.int (p0 &&& (3 : Int32))), .val (.ref w_PAYMENT), .val (.int (1 : Int32)), .val (.int (0 : Int32)), .val (.ref l_PAYMENT), .val (.int (1 : Int32))] [])) _
          refine XS.iloadN X37.here hx rfl (hb hby at_93) rfl ?_
          show Steps p.tables e below (T37.setTop (mkF m 94 #[.val (.int p0), .val (.int (p0 &&& (3 : Int32))), .val (.ref w_PAYMENT), .val (.int (1 : Int32)), .val (.int (0 : Int32)), .val (.ref l_PAYMENT), .val (.int (1 : Int32))] [(.int (1 : Int32))])) _
          refine XS.iload X37.here hx rfl (hb hby at_94) rfl ?_
          show Steps p.tables e below (T37.setTop (mkF m 96 #[.val (.int p0), .val (.int (p0 &&& (3 : Int32))), .val (.ref w_PAYMENT), .val (.int (1 : Int32)), .val (.int (0 : Int32)), .val (.ref l_PAYMENT), .val (.int (1 : Int32))] [(.int (0 : Int32)), (.int (1 : Int32))])) _
          refine XS.icmpYes X37.here hx rfl (pc0 := 96) (pc' := 109) rfl (hb hby at_96) rfl (feq (by decide : ¬ ((1 : Int32) = (0 : Int32)))).2 (by decide) (by decide) ?_
          show Steps p.tables e below (T37.setTop (mkF m 109 #[.val (.int p0), .val (.int (p0 &&& (3 : Int32))), .val (.ref w_PAYMENT), .val (.int (1 : Int32)), .val (.int (0 : Int32)), .val (.ref l_PAYMENT), .val (.int (1 : Int32))] [])) _
          refine XS.iconst X37.here hx rfl (hb hby at_109) ?_
          show Steps p.tables e below (T37.setTop (mkF m 110 #[.val (.int p0), .val (.int (p0 &&& (3 : Int32))), .val (.ref w_PAYMENT), .val (.int (1 : Int32)), .val (.int (0 : Int32)), .val (.ref l_PAYMENT), .val (.int (1 : Int32))] [(.int (0 : Int32))])) _
          exact retN X37 hx (t := .boolean) Bd.returns (by simp) (hb hby at_110) hr
        · show Q_law Z p0 w_NONE w_PAYMENT w_TIME w_PAYMENT_AND_TIME kc fm l_NONE v_NONE cl_NONE l_PAYMENT v_PAYMENT cl_PAYMENT l_TIME v_TIME cl_TIME l_PAYMENT_AND_TIME v_PAYMENT_AND_TIME cl_PAYMENT_AND_TIME h0 n0 _ T37.heap _
          refine ⟨?_, N37, trivial⟩
          rw [F_law, if_neg hc5_19, if_pos hc17_29, if_pos hc51_33]
      · obtain ⟨cq38, kq38, q38a, q38b, q38c⟩ := isOf hZ e32 E_PAYMENT
        obtain ⟨_, _, ⟨T38, L38, k38, n38⟩, -, X38, ⟨Lc38, hQ38, l38, y38, z38⟩, st38⟩ := X32.virtualBack hx (y := (⟨"com/example/matchbook/matchbook/model/Contingency", "label", "()Ljava/lang/String;"⟩ : MethodName)) (z := (⟨"com/example/matchbook/matchbook/model/Contingency", "label", "()Ljava/lang/String;"⟩ : MethodName)) hown (mvT hZ (hw _ (List.mem_of_getElem? (i := 12) rfl))) (mvT hZ (hw _ (List.mem_of_getElem? (i := 13) rfl))) (notFace_of_selects (args := #[]) (mvT hZ (hw _ (List.mem_of_getElem? (i := 15) rfl)))) (mvT hZ (hw _ (List.mem_of_getElem? (i := 15) rfl))) (mvT hZ (hw _ (List.mem_of_getElem? (i := 14) rfl))) (by decide) (backOf (W := 0) (rm_lab l Z a0' hw [] w_PAYMENT l_PAYMENT h0 n0 Z0 HL_PAYMENT) hZ (hw _ (List.mem_of_getElem? (i := 16) rfl)) (hw _ (List.mem_of_getElem? (i := 1) rfl)) (by decide) (by decide)) q38a q38c (g := (mkF m 62 #[.val (.int p0), .val (.int (p0 &&& (3 : Int32))), .val (.ref w_PAYMENT), .val (.int (1 : Int32)), .val (.int (1 : Int32)), .unset, .unset] [(.ref w_PAYMENT)])) rfl (by rw [hml]; rfl) (Steps.refl _) (argsL := []) (rest := []) (lenOf own_pd4 rfl) rfl (by show 2 * 0 + _ ≤ _; exact Nat.le_of_eq rfl) (hb hby at_62) (fun _ _ => ⟨rfl, e32, (by decide : 0 + 0 ≤ _), (by decide : 0 + 0 ≤ _)⟩)
        dsimp only [Pt.U, Pt.locs, Pt.cells, Pt.slots] at X38 l38 y38 z38 st38 hQ38
        subst l38 y38 z38
        obtain ⟨rfl, N38q, e38⟩ := hQ38
        have N38 := Fr.app N32 N38q
        obtain ⟨cq39, kq39, q39a, q39b, q39c⟩ := isOf hZ e38 EL_PAYMENT
        obtain ⟨_, _, ⟨T39, L39, k39, n39⟩, -, X39, ⟨Lc39, hQ39, l39, y39, z39⟩, st39⟩ := X38.virtualBack hx (y := (⟨"java/lang/String", "isEmpty", "()Z"⟩ : MethodName)) (z := (⟨"java/lang/String", "isEmpty", "()Z"⟩ : MethodName)) hown (mvT hZ (hw _ (List.mem_of_getElem? (i := 19) rfl))) (mvT hZ (hw _ (List.mem_of_getElem? (i := 20) rfl))) (notFace_of_selects (args := #[]) (mvT hZ (hw _ (List.mem_of_getElem? (i := 22) rfl)))) (mvT hZ (hw _ (List.mem_of_getElem? (i := 22) rfl))) (mvT hZ (hw _ (List.mem_of_getElem? (i := 21) rfl))) (by decide) (backOf (W := 0) (rm_emp l Z a0' hw [] l_PAYMENT v_PAYMENT cl_PAYMENT (7 : Int32) h0 n0 Z0 HV_PAYMENT Ar_PAYMENT hsz_PAYMENT hnn_PAYMENT) hZ (hw _ (List.mem_of_getElem? (i := 24) rfl)) (hw _ (List.mem_of_getElem? (i := 23) rfl)) (by decide) (by decide)) q39a q39c (g := (mkF m 69 #[.val (.int p0), .val (.int (p0 &&& (3 : Int32))), .val (.ref w_PAYMENT), .val (.int (1 : Int32)), .val (.int (1 : Int32)), .val (.ref l_PAYMENT), .unset] [(.ref l_PAYMENT)])) rfl (by rw [hml]; rfl) (Steps.refl _) (argsL := []) (rest := []) (lenOf own_pd2 rfl) rfl (by show 2 * 0 + _ ≤ _; exact Nat.le_of_eq rfl) (hb hby at_69) (fun _ _ => ⟨rfl, e38, (by decide : 0 + 0 ≤ _), (by decide : 0 + 0 ≤ _)⟩)
        dsimp only [Pt.U, Pt.locs, Pt.cells, Pt.slots] at X39 l39 y39 z39 st39 hQ39
        subst l39 y39 z39
        obtain ⟨rfl, N39q, e39⟩ := hQ39
        have N39 := Fr.app N38 N39q
        have q39 : (F_emp (7 : Int32)) = (0 : Int32) := by rw [F_emp, if_neg (by decide : ¬ ((7 : Int32) = (0 : Int32)))]
        rw [q39] at st39
        obtain ⟨cq40, kq40, q40a, q40b, q40c⟩ := isOf hZ e39 EL_PAYMENT
        obtain ⟨_, _, ⟨T40, L40, k40, n40⟩, -, X40, ⟨Lc40, hQ40, l40, y40, z40⟩, st40⟩ := X39.virtualBack hx (y := (⟨"java/lang/String", "charAt", "(I)C"⟩ : MethodName)) (z := (⟨"java/lang/String", "charAt", "(I)C"⟩ : MethodName)) hown (mvT hZ (hw _ (List.mem_of_getElem? (i := 28) rfl))) (mvT hZ (hw _ (List.mem_of_getElem? (i := 29) rfl))) (notFace_of_selects (args := #[]) (mvT hZ (hw _ (List.mem_of_getElem? (i := 31) rfl)))) (mvT hZ (hw _ (List.mem_of_getElem? (i := 31) rfl))) (mvT hZ (hw _ (List.mem_of_getElem? (i := 30) rfl))) (by decide) (backOf (W := 0) (rm_chr l Z a0' hw [] l_PAYMENT (0 : Int32) v_PAYMENT cl_PAYMENT (7 : Int32) (112 : Int32) kc fm h0 n0 Z0 EL_PAYMENT HC_PAYMENT HV_PAYMENT Ar_PAYMENT hsz_PAYMENT hnn_PAYMENT (by decide) (by decide) hat_PAYMENT S_cs hkc S_fm hfm) hZ (hw _ (List.mem_of_getElem? (i := 32) rfl)) (hw _ (List.mem_of_getElem? (i := 23) rfl)) (by decide) (by decide)) q40a q40c (g := (mkF m 78 #[.val (.int p0), .val (.int (p0 &&& (3 : Int32))), .val (.ref w_PAYMENT), .val (.int (1 : Int32)), .val (.int (1 : Int32)), .val (.ref l_PAYMENT), .unset] [(.int (0 : Int32)), (.ref l_PAYMENT)])) rfl (by rw [hml]; rfl) (Steps.refl _) (argsL := [(.int (0 : Int32))]) (rest := []) (lenOf own_pd5 rfl) rfl (by show 2 * 0 + _ ≤ _; exact Nat.le_of_eq rfl) (hb hby at_78) (fun _ _ => ⟨rfl, e39, (by decide : 0 + 0 ≤ _), (by decide : 0 + 0 ≤ _)⟩)
        dsimp only [Pt.U, Pt.locs, Pt.cells, Pt.slots] at X40 l40 y40 z40 st40 hQ40
        subst l40 y40 z40
        obtain ⟨rfl, N40q, e40⟩ := hQ40
        have N40 := Fr.app N39 N40q
        have q40 : (F_chr (112 : Int32)) = (112 : Int32) := by unfold F_chr F_lchar; decide +kernel
        rw [q40] at st40
        obtain ⟨fs, hr, hrun, hended, hW, hsame⟩ := X40.leave (v := some (.int (1 : Int32))) (fun h => by rw [Bd.returns] at h; cases h)
        refine ⟨_, _, pre34 _ ?_, hrun, hended, _, _, rfl, ?_, ⟨_, rfl⟩, hW, hsame.mono (by decide) (by decide)⟩
        · show Steps p.tables e below (T32.setTop (mkF m 51 #[.val (.int p0), .val (.int (p0 &&& (3 : Int32))), .val (.ref w_PAYMENT), .val (.int (1 : Int32)), .unset, .unset, .unset] [(.int ((p0 &&& (3 : Int32)) &&& (1 : Int32)))])) _
          refine XS.ifNo X32.here hx rfl (hb hby at_51) rfl ((if0 _ _).trans (feq hc51_33).1) ?_
          show Steps p.tables e below (T32.setTop (mkF m 54 #[.val (.int p0), .val (.int (p0 &&& (3 : Int32))), .val (.ref w_PAYMENT), .val (.int (1 : Int32)), .unset, .unset, .unset] [])) _
          refine XS.iconst X32.here hx rfl (hb hby at_54) ?_
          show Steps p.tables e below (T32.setTop (mkF m 55 #[.val (.int p0), .val (.int (p0 &&& (3 : Int32))), .val (.ref w_PAYMENT), .val (.int (1 : Int32)), .unset, .unset, .unset] [(.int (1 : Int32))])) _
          refine XS.goto X32.here hx rfl (pc0 := 55) (pc' := 59) rfl (hb hby at_55) (by decide) (by decide) ?_
          show Steps p.tables e below (T32.setTop (mkF m 59 #[.val (.int p0), .val (.int (p0 &&& (3 : Int32))), .val (.ref w_PAYMENT), .val (.int (1 : Int32)), .unset, .unset, .unset] [(.int (1 : Int32))])) _
          refine XS.istore X32.here hx rfl (hb hby at_59) rfl (l' := #[.val (.int p0), .val (.int (p0 &&& (3 : Int32))), .val (.ref w_PAYMENT), .val (.int (1 : Int32)), .val (.int (1 : Int32)), .unset, .unset]) rfl ?_
          show Steps p.tables e below (T32.setTop (mkF m 61 #[.val (.int p0), .val (.int (p0 &&& (3 : Int32))), .val (.ref w_PAYMENT), .val (.int (1 : Int32)), .val (.int (1 : Int32)), .unset, .unset] [])) _
          refine XS.aloadN X32.here hx rfl (hb hby at_61) rfl rfl ?_
          show Steps p.tables e below (T32.setTop (mkF m 62 #[.val (.int p0), .val (.int (p0 &&& (3 : Int32))), .val (.ref w_PAYMENT), .val (.int (1 : Int32)), .val (.int (1 : Int32)), .unset, .unset] [(.ref w_PAYMENT)])) _
          refine st38.trans ?_
          show Steps p.tables e below (T38.setTop (mkF m 65 #[.val (.int p0), .val (.int (p0 &&& (3 : Int32))), .val (.ref w_PAYMENT), .val (.int (1 : Int32)), .val (.int (1 : Int32)), .unset, .unset] [(.ref l_PAYMENT)])) _
          refine XS.astore X38.here hx rfl (hb hby at_65) rfl rfl (l' := #[.val (.int p0), .val (.int (p0 &&& (3 : Int32))), .val (.ref w_PAYMENT), .val (.int (1 : Int32)), .val (.int (1 : Int32)), .val (.ref l_PAYMENT), .unset]) rfl ?_
          show Steps p.tables e below (T38.setTop (mkF m 67 #[.val (.int p0), .val (.int (p0 &&& (3 : Int32))), .val (.ref w_PAYMENT), .val (.int (1 : Int32)), .val (.int (1 : Int32)), .val (.ref l_PAYMENT), .unset] [])) _
          refine XS.aload X38.here hx rfl (hb hby at_67) rfl rfl ?_
          show Steps p.tables e below (T38.setTop (mkF m 69 #[.val (.int p0), .val (.int (p0 &&& (3 : Int32))), .val (.ref w_PAYMENT), .val (.int (1 : Int32)), .val (.int (1 : Int32)), .val (.ref l_PAYMENT), .unset] [(.ref l_PAYMENT)])) _
          refine st39.trans ?_
          show Steps p.tables e below (T39.setTop (mkF m 72 #[.val (.int p0), .val (.int (p0 &&& (3 : Int32))), .val (.ref w_PAYMENT), .val (.int (1 : Int32)), .val (.int (1 : Int32)), .val (.ref l_PAYMENT), .unset] [(.int (0 : Int32))])) _
          refine XS.ifNo X39.here hx rfl (hb hby at_72) rfl ((if0 _ _).trans (teq (by decide : (0 : Int32) = (0 : Int32))).2) ?_
          show Steps p.tables e below (T39.setTop (mkF m 75 #[.val (.int p0), .val (.int (p0 &&& (3 : Int32))), .val (.ref w_PAYMENT), .val (.int (1 : Int32)), .val (.int (1 : Int32)), .val (.ref l_PAYMENT), .unset] [])) _
          refine XS.aload X39.here hx rfl (hb hby at_75) rfl rfl ?_
          show Steps p.tables e below (T39.setTop (mkF m 77 #[.val (.int p0), .val (.int (p0 &&& (3 : Int32))), .val (.ref w_PAYMENT), .val (.int (1 : Int32)), .val (.int (1 : Int32)), .val (.ref l_PAYMENT), .unset] [(.ref l_PAYMENT)])) _
          refine XS.iconst X39.here hx rfl (hb hby at_77) ?_
          show Steps p.tables e below (T39.setTop (mkF m 78 #[.val (.int p0), .val (.int (p0 &&& (3 : Int32))), .val (.ref w_PAYMENT), .val (.int (1 : Int32)), .val (.int (1 : Int32)), .val (.ref l_PAYMENT), .unset] [(.int (0 : Int32)), (.ref l_PAYMENT)])) _
          refine st40.trans ?_
          show Steps p.tables e below (T40.setTop (mkF m 81 #[.val (.int p0), .val (.int (p0 &&& (3 : Int32))), .val (.ref w_PAYMENT), .val (.int (1 : Int32)), .val (.int (1 : Int32)), .val (.ref l_PAYMENT), .unset] [(.int (112 : Int32))])) _
          refine XS.bipush X40.here hx rfl (hb hby at_81) ?_
          show Steps p.tables e below (T40.setTop (mkF m 83 #[.val (.int p0), .val (.int (p0 &&& (3 : Int32))), .val (.ref w_PAYMENT), .val (.int (1 : Int32)), .val (.int (1 : Int32)), .val (.ref l_PAYMENT), .unset] [(.int (112 : Int32)), (.int (112 : Int32))])) _
          refine XS.icmpNo X40.here hx rfl (hb hby at_83) rfl (teq (by decide : (112 : Int32) = (112 : Int32))).2 ?_
          show Steps p.tables e below (T40.setTop (mkF m 86 #[.val (.int p0), .val (.int (p0 &&& (3 : Int32))), .val (.ref w_PAYMENT), .val (.int (1 : Int32)), .val (.int (1 : Int32)), .val (.ref l_PAYMENT), .unset] [])) _
          refine XS.iconst X40.here hx rfl (hb hby at_86) ?_
          show Steps p.tables e below (T40.setTop (mkF m 87 #[.val (.int p0), .val (.int (p0 &&& (3 : Int32))), .val (.ref w_PAYMENT), .val (.int (1 : Int32)), .val (.int (1 : Int32)), .val (.ref l_PAYMENT), .unset] [(.int (1 : Int32))])) _
          refine XS.goto X40.here hx rfl (pc0 := 87) (pc' := 91) rfl (hb hby at_87) (by decide) (by decide) ?_
          show Steps p.tables e below (T40.setTop (mkF m 91 #[.val (.int p0), .val (.int (p0 &&& (3 : Int32))), .val (.ref w_PAYMENT), .val (.int (1 : Int32)), .val (.int (1 : Int32)), .val (.ref l_PAYMENT), .unset] [(.int (1 : Int32))])) _
          refine XS.istore X40.here hx rfl (hb hby at_91) rfl (l' := #[.val (.int p0), .val (.int (p0 &&& (3 : Int32))), .val (.ref w_PAYMENT), .val (.int (1 : Int32)), .val (.int (1 : Int32)), .val (.ref l_PAYMENT), .val (.int (1 : Int32))]) rfl ?_
          show Steps p.tables e below (T40.setTop (mkF m 93 #[.val (.int p0), .val (.int (p0 &&& (3 : Int32))), .val (.ref w_PAYMENT), .val (.int (1 : Int32)), .val (.int (1 : Int32)), .val (.ref l_PAYMENT), .val (.int (1 : Int32))] [])) _
          refine XS.iloadN X40.here hx rfl (hb hby at_93) rfl ?_
          show Steps p.tables e below (T40.setTop (mkF m 94 #[.val (.int p0), .val (.int (p0 &&& (3 : Int32))), .val (.ref w_PAYMENT), .val (.int (1 : Int32)), .val (.int (1 : Int32)), .val (.ref l_PAYMENT), .val (.int (1 : Int32))] [(.int (1 : Int32))])) _
          refine XS.iload X40.here hx rfl (hb hby at_94) rfl ?_
          show Steps p.tables e below (T40.setTop (mkF m 96 #[.val (.int p0), .val (.int (p0 &&& (3 : Int32))), .val (.ref w_PAYMENT), .val (.int (1 : Int32)), .val (.int (1 : Int32)), .val (.ref l_PAYMENT), .val (.int (1 : Int32))] [(.int (1 : Int32)), (.int (1 : Int32))])) _
          refine XS.icmpNo X40.here hx rfl (hb hby at_96) rfl (teq (by decide : (1 : Int32) = (1 : Int32))).2 ?_
          show Steps p.tables e below (T40.setTop (mkF m 99 #[.val (.int p0), .val (.int (p0 &&& (3 : Int32))), .val (.ref w_PAYMENT), .val (.int (1 : Int32)), .val (.int (1 : Int32)), .val (.ref l_PAYMENT), .val (.int (1 : Int32))] [])) _
          refine XS.iloadN X40.here hx rfl (hb hby at_99) rfl ?_
          show Steps p.tables e below (T40.setTop (mkF m 100 #[.val (.int p0), .val (.int (p0 &&& (3 : Int32))), .val (.ref w_PAYMENT), .val (.int (1 : Int32)), .val (.int (1 : Int32)), .val (.ref l_PAYMENT), .val (.int (1 : Int32))] [(.int (1 : Int32))])) _
          refine XS.iload X40.here hx rfl (hb hby at_100) rfl ?_
          show Steps p.tables e below (T40.setTop (mkF m 102 #[.val (.int p0), .val (.int (p0 &&& (3 : Int32))), .val (.ref w_PAYMENT), .val (.int (1 : Int32)), .val (.int (1 : Int32)), .val (.ref l_PAYMENT), .val (.int (1 : Int32))] [(.int (1 : Int32)), (.int (1 : Int32))])) _
          refine XS.icmpNo X40.here hx rfl (hb hby at_102) rfl (teq (by decide : (1 : Int32) = (1 : Int32))).2 ?_
          show Steps p.tables e below (T40.setTop (mkF m 105 #[.val (.int p0), .val (.int (p0 &&& (3 : Int32))), .val (.ref w_PAYMENT), .val (.int (1 : Int32)), .val (.int (1 : Int32)), .val (.ref l_PAYMENT), .val (.int (1 : Int32))] [])) _
          refine XS.iconst X40.here hx rfl (hb hby at_105) ?_
          show Steps p.tables e below (T40.setTop (mkF m 106 #[.val (.int p0), .val (.int (p0 &&& (3 : Int32))), .val (.ref w_PAYMENT), .val (.int (1 : Int32)), .val (.int (1 : Int32)), .val (.ref l_PAYMENT), .val (.int (1 : Int32))] [(.int (1 : Int32))])) _
          refine XS.goto X40.here hx rfl (pc0 := 106) (pc' := 110) rfl (hb hby at_106) (by decide) (by decide) ?_
          show Steps p.tables e below (T40.setTop (mkF m 110 #[.val (.int p0), .val (.int (p0 &&& (3 : Int32))), .val (.ref w_PAYMENT), .val (.int (1 : Int32)), .val (.int (1 : Int32)), .val (.ref l_PAYMENT), .val (.int (1 : Int32))] [(.int (1 : Int32))])) _
          exact retN X40 hx (t := .boolean) Bd.returns (by simp) (hb hby at_110) hr
        · show Q_law Z p0 w_NONE w_PAYMENT w_TIME w_PAYMENT_AND_TIME kc fm l_NONE v_NONE cl_NONE l_PAYMENT v_PAYMENT cl_PAYMENT l_TIME v_TIME cl_TIME l_PAYMENT_AND_TIME v_PAYMENT_AND_TIME cl_PAYMENT_AND_TIME h0 n0 _ T40.heap _
          refine ⟨?_, N40, trivial⟩
          rw [F_law, if_neg hc5_19, if_pos hc17_29, if_neg hc51_33]
    · have pre42 : ∀ t, Steps p.tables e below (s₁.setTop (mkF m 29 #[.val (.int p0), .val (.int (p0 &&& (3 : Int32))), .unset, .unset, .unset, .unset, .unset] [(.int (2 : Int32)), (.int (p0 &&& (3 : Int32)))])) t → Steps p.tables e below (s₁.setTop (entryFrame m #[(.int p0)] maxLocals)) t := fun t k => pre30 t (by
        show Steps p.tables e below (s₁.setTop (mkF m 17 #[.val (.int p0), .val (.int (p0 &&& (3 : Int32))), .unset, .unset, .unset, .unset, .unset] [(.int (1 : Int32)), (.int (p0 &&& (3 : Int32)))])) _
        refine XS.icmpYes X0.here hx rfl (pc0 := 17) (pc' := 27) rfl (hb hby at_17) rfl (feq hc17_29).2 (by decide) (by decide) ?_
        show Steps p.tables e below (s₁.setTop (mkF m 27 #[.val (.int p0), .val (.int (p0 &&& (3 : Int32))), .unset, .unset, .unset, .unset, .unset] [])) _
        refine XS.iloadN X0.here hx rfl (hb hby at_27) rfl ?_
        show Steps p.tables e below (s₁.setTop (mkF m 28 #[.val (.int p0), .val (.int (p0 &&& (3 : Int32))), .unset, .unset, .unset, .unset, .unset] [(.int (p0 &&& (3 : Int32)))])) _
        refine XS.iconst X0.here hx rfl (hb hby at_28) ?_
        exact k)
      by_cases hc29_41 : (p0 &&& (3 : Int32)) = (2 : Int32)
      · obtain ⟨T43, X43, e43, st43⟩ := getS2 X0 hx hZ hown (host := "") (Or.inl (hw _ (List.mem_of_getElem? (i := 53) rfl))) Via.refl e0 S_TIME (g := (mkF m 32 #[.val (.int p0), .val (.int (p0 &&& (3 : Int32))), .unset, .unset, .unset, .unset, .unset] [])) rfl (hb hby at_32)
        obtain ⟨cq44, kq44, q44a, q44b, q44c⟩ := isOf hZ e43 E_TIME
        obtain ⟨_, _, ⟨T44, L44, k44, n44⟩, -, X44, ⟨Lc44, hQ44, l44, y44, z44⟩, st44⟩ := X43.virtualBack hx (y := (⟨"com/example/matchbook/matchbook/model/Contingency", "paymentBased", "()Z"⟩ : MethodName)) (z := (⟨"com/example/matchbook/matchbook/model/Contingency", "paymentBased", "()Z"⟩ : MethodName)) hown (mvT hZ (hw _ (List.mem_of_getElem? (i := 3) rfl))) (mvT hZ (hw _ (List.mem_of_getElem? (i := 4) rfl))) (notFace_of_selects (args := #[]) (mvT hZ (hw _ (List.mem_of_getElem? (i := 6) rfl)))) (mvT hZ (hw _ (List.mem_of_getElem? (i := 6) rfl))) (mvT hZ (hw _ (List.mem_of_getElem? (i := 5) rfl))) (by decide) (backOf (W := 0) (rm_pb l Z a0' hw [] w_TIME w_PAYMENT w_PAYMENT_AND_TIME h0 n0 Z0 S_PAYMENT S_PAYMENT_AND_TIME) hZ (hw _ (List.mem_of_getElem? (i := 7) rfl)) (hw _ (List.mem_of_getElem? (i := 1) rfl)) (by decide) (by decide)) q44a q44c (g := (mkF m 44 #[.val (.int p0), .val (.int (p0 &&& (3 : Int32))), .val (.ref w_TIME), .unset, .unset, .unset, .unset] [(.ref w_TIME)])) rfl (by rw [hml]; rfl) (Steps.refl _) (argsL := []) (rest := []) (lenOf own_pd2 rfl) rfl (by show 2 * 0 + _ ≤ _; exact Nat.le_of_eq rfl) (hb hby at_44) (fun _ _ => ⟨rfl, e43, (by decide : 0 + 0 ≤ _), (by decide : 0 + 0 ≤ _)⟩)
        dsimp only [Pt.U, Pt.locs, Pt.cells, Pt.slots] at X44 l44 y44 z44 st44 hQ44
        subst l44 y44 z44
        obtain ⟨rfl, N44q, e44⟩ := hQ44
        have N44 := Fr.app N0 N44q
        have q44 : (F_pb w_TIME w_PAYMENT w_PAYMENT_AND_TIME) = (0 : Int32) := by rw [F_pb, if_neg ne_TIME_PAYMENT, if_neg ne_TIME_PAYMENT_AND_TIME]
        rw [q44] at st44
        have pre46 : ∀ t, Steps p.tables e below (T44.setTop (mkF m 51 #[.val (.int p0), .val (.int (p0 &&& (3 : Int32))), .val (.ref w_TIME), .val (.int (0 : Int32)), .unset, .unset, .unset] [(.int ((p0 &&& (3 : Int32)) &&& (1 : Int32)))])) t → Steps p.tables e below (s₁.setTop (entryFrame m #[(.int p0)] maxLocals)) t := fun t k => pre42 t (by
          show Steps p.tables e below (s₁.setTop (mkF m 29 #[.val (.int p0), .val (.int (p0 &&& (3 : Int32))), .unset, .unset, .unset, .unset, .unset] [(.int (2 : Int32)), (.int (p0 &&& (3 : Int32)))])) _
          refine XS.icmpNo X0.here hx rfl (hb hby at_29) rfl (teq hc29_41).2 ?_
          show Steps p.tables e below (s₁.setTop (mkF m 32 #[.val (.int p0), .val (.int (p0 &&& (3 : Int32))), .unset, .unset, .unset, .unset, .unset] [])) _
          refine st43 _ ?_
          show Steps p.tables e below (T43.setTop (mkF m 35 #[.val (.int p0), .val (.int (p0 &&& (3 : Int32))), .unset, .unset, .unset, .unset, .unset] [(.ref w_TIME)])) _
          refine XS.astoreN X43.here hx rfl (hb hby at_35) rfl rfl (l' := #[.val (.int p0), .val (.int (p0 &&& (3 : Int32))), .val (.ref w_TIME), .unset, .unset, .unset, .unset]) rfl ?_
          show Steps p.tables e below (T43.setTop (mkF m 36 #[.val (.int p0), .val (.int (p0 &&& (3 : Int32))), .val (.ref w_TIME), .unset, .unset, .unset, .unset] [])) _
          refine XS.goto X43.here hx rfl (pc0 := 36) (pc' := 43) rfl (hb hby at_36) (by decide) (by decide) ?_
          show Steps p.tables e below (T43.setTop (mkF m 43 #[.val (.int p0), .val (.int (p0 &&& (3 : Int32))), .val (.ref w_TIME), .unset, .unset, .unset, .unset] [])) _
          refine XS.aloadN X43.here hx rfl (hb hby at_43) rfl rfl ?_
          show Steps p.tables e below (T43.setTop (mkF m 44 #[.val (.int p0), .val (.int (p0 &&& (3 : Int32))), .val (.ref w_TIME), .unset, .unset, .unset, .unset] [(.ref w_TIME)])) _
          refine st44.trans ?_
          show Steps p.tables e below (T44.setTop (mkF m 47 #[.val (.int p0), .val (.int (p0 &&& (3 : Int32))), .val (.ref w_TIME), .unset, .unset, .unset, .unset] [(.int (0 : Int32))])) _
          refine XS.istoreN X44.here hx rfl (hb hby at_47) rfl (l' := #[.val (.int p0), .val (.int (p0 &&& (3 : Int32))), .val (.ref w_TIME), .val (.int (0 : Int32)), .unset, .unset, .unset]) rfl ?_
          show Steps p.tables e below (T44.setTop (mkF m 48 #[.val (.int p0), .val (.int (p0 &&& (3 : Int32))), .val (.ref w_TIME), .val (.int (0 : Int32)), .unset, .unset, .unset] [])) _
          refine XS.iloadN X44.here hx rfl (hb hby at_48) rfl ?_
          show Steps p.tables e below (T44.setTop (mkF m 49 #[.val (.int p0), .val (.int (p0 &&& (3 : Int32))), .val (.ref w_TIME), .val (.int (0 : Int32)), .unset, .unset, .unset] [(.int (p0 &&& (3 : Int32)))])) _
          refine XS.iconst X44.here hx rfl (hb hby at_49) ?_
          show Steps p.tables e below (T44.setTop (mkF m 50 #[.val (.int p0), .val (.int (p0 &&& (3 : Int32))), .val (.ref w_TIME), .val (.int (0 : Int32)), .unset, .unset, .unset] [(.int (1 : Int32)), (.int (p0 &&& (3 : Int32)))])) _
          refine XS.iand X44.here hx rfl (hb hby at_50) rfl ?_
          exact k)
        by_cases hc51_45 : ((p0 &&& (3 : Int32)) &&& (1 : Int32)) = (0 : Int32)
        · obtain ⟨cq47, kq47, q47a, q47b, q47c⟩ := isOf hZ e44 E_TIME
          obtain ⟨_, _, ⟨T47, L47, k47, n47⟩, -, X47, ⟨Lc47, hQ47, l47, y47, z47⟩, st47⟩ := X44.virtualBack hx (y := (⟨"com/example/matchbook/matchbook/model/Contingency", "label", "()Ljava/lang/String;"⟩ : MethodName)) (z := (⟨"com/example/matchbook/matchbook/model/Contingency", "label", "()Ljava/lang/String;"⟩ : MethodName)) hown (mvT hZ (hw _ (List.mem_of_getElem? (i := 12) rfl))) (mvT hZ (hw _ (List.mem_of_getElem? (i := 13) rfl))) (notFace_of_selects (args := #[]) (mvT hZ (hw _ (List.mem_of_getElem? (i := 15) rfl)))) (mvT hZ (hw _ (List.mem_of_getElem? (i := 15) rfl))) (mvT hZ (hw _ (List.mem_of_getElem? (i := 14) rfl))) (by decide) (backOf (W := 0) (rm_lab l Z a0' hw [] w_TIME l_TIME h0 n0 Z0 HL_TIME) hZ (hw _ (List.mem_of_getElem? (i := 16) rfl)) (hw _ (List.mem_of_getElem? (i := 1) rfl)) (by decide) (by decide)) q47a q47c (g := (mkF m 62 #[.val (.int p0), .val (.int (p0 &&& (3 : Int32))), .val (.ref w_TIME), .val (.int (0 : Int32)), .val (.int (0 : Int32)), .unset, .unset] [(.ref w_TIME)])) rfl (by rw [hml]; rfl) (Steps.refl _) (argsL := []) (rest := []) (lenOf own_pd4 rfl) rfl (by show 2 * 0 + _ ≤ _; exact Nat.le_of_eq rfl) (hb hby at_62) (fun _ _ => ⟨rfl, e44, (by decide : 0 + 0 ≤ _), (by decide : 0 + 0 ≤ _)⟩)
          dsimp only [Pt.U, Pt.locs, Pt.cells, Pt.slots] at X47 l47 y47 z47 st47 hQ47
          subst l47 y47 z47
          obtain ⟨rfl, N47q, e47⟩ := hQ47
          have N47 := Fr.app N44 N47q
          obtain ⟨cq48, kq48, q48a, q48b, q48c⟩ := isOf hZ e47 EL_TIME
          obtain ⟨_, _, ⟨T48, L48, k48, n48⟩, -, X48, ⟨Lc48, hQ48, l48, y48, z48⟩, st48⟩ := X47.virtualBack hx (y := (⟨"java/lang/String", "isEmpty", "()Z"⟩ : MethodName)) (z := (⟨"java/lang/String", "isEmpty", "()Z"⟩ : MethodName)) hown (mvT hZ (hw _ (List.mem_of_getElem? (i := 19) rfl))) (mvT hZ (hw _ (List.mem_of_getElem? (i := 20) rfl))) (notFace_of_selects (args := #[]) (mvT hZ (hw _ (List.mem_of_getElem? (i := 22) rfl)))) (mvT hZ (hw _ (List.mem_of_getElem? (i := 22) rfl))) (mvT hZ (hw _ (List.mem_of_getElem? (i := 21) rfl))) (by decide) (backOf (W := 0) (rm_emp l Z a0' hw [] l_TIME v_TIME cl_TIME (4 : Int32) h0 n0 Z0 HV_TIME Ar_TIME hsz_TIME hnn_TIME) hZ (hw _ (List.mem_of_getElem? (i := 24) rfl)) (hw _ (List.mem_of_getElem? (i := 23) rfl)) (by decide) (by decide)) q48a q48c (g := (mkF m 69 #[.val (.int p0), .val (.int (p0 &&& (3 : Int32))), .val (.ref w_TIME), .val (.int (0 : Int32)), .val (.int (0 : Int32)), .val (.ref l_TIME), .unset] [(.ref l_TIME)])) rfl (by rw [hml]; rfl) (Steps.refl _) (argsL := []) (rest := []) (lenOf own_pd2 rfl) rfl (by show 2 * 0 + _ ≤ _; exact Nat.le_of_eq rfl) (hb hby at_69) (fun _ _ => ⟨rfl, e47, (by decide : 0 + 0 ≤ _), (by decide : 0 + 0 ≤ _)⟩)
          dsimp only [Pt.U, Pt.locs, Pt.cells, Pt.slots] at X48 l48 y48 z48 st48 hQ48
          subst l48 y48 z48
          obtain ⟨rfl, N48q, e48⟩ := hQ48
          have N48 := Fr.app N47 N48q
          have q48 : (F_emp (4 : Int32)) = (0 : Int32) := by rw [F_emp, if_neg (by decide : ¬ ((4 : Int32) = (0 : Int32)))]
          rw [q48] at st48
          obtain ⟨cq49, kq49, q49a, q49b, q49c⟩ := isOf hZ e48 EL_TIME
          obtain ⟨_, _, ⟨T49, L49, k49, n49⟩, -, X49, ⟨Lc49, hQ49, l49, y49, z49⟩, st49⟩ := X48.virtualBack hx (y := (⟨"java/lang/String", "charAt", "(I)C"⟩ : MethodName)) (z := (⟨"java/lang/String", "charAt", "(I)C"⟩ : MethodName)) hown (mvT hZ (hw _ (List.mem_of_getElem? (i := 28) rfl))) (mvT hZ (hw _ (List.mem_of_getElem? (i := 29) rfl))) (notFace_of_selects (args := #[]) (mvT hZ (hw _ (List.mem_of_getElem? (i := 31) rfl)))) (mvT hZ (hw _ (List.mem_of_getElem? (i := 31) rfl))) (mvT hZ (hw _ (List.mem_of_getElem? (i := 30) rfl))) (by decide) (backOf (W := 0) (rm_chr l Z a0' hw [] l_TIME (0 : Int32) v_TIME cl_TIME (4 : Int32) (116 : Int32) kc fm h0 n0 Z0 EL_TIME HC_TIME HV_TIME Ar_TIME hsz_TIME hnn_TIME (by decide) (by decide) hat_TIME S_cs hkc S_fm hfm) hZ (hw _ (List.mem_of_getElem? (i := 32) rfl)) (hw _ (List.mem_of_getElem? (i := 23) rfl)) (by decide) (by decide)) q49a q49c (g := (mkF m 78 #[.val (.int p0), .val (.int (p0 &&& (3 : Int32))), .val (.ref w_TIME), .val (.int (0 : Int32)), .val (.int (0 : Int32)), .val (.ref l_TIME), .unset] [(.int (0 : Int32)), (.ref l_TIME)])) rfl (by rw [hml]; rfl) (Steps.refl _) (argsL := [(.int (0 : Int32))]) (rest := []) (lenOf own_pd5 rfl) rfl (by show 2 * 0 + _ ≤ _; exact Nat.le_of_eq rfl) (hb hby at_78) (fun _ _ => ⟨rfl, e48, (by decide : 0 + 0 ≤ _), (by decide : 0 + 0 ≤ _)⟩)
          dsimp only [Pt.U, Pt.locs, Pt.cells, Pt.slots] at X49 l49 y49 z49 st49 hQ49
          subst l49 y49 z49
          obtain ⟨rfl, N49q, e49⟩ := hQ49
          have N49 := Fr.app N48 N49q
          have q49 : (F_chr (116 : Int32)) = (116 : Int32) := by unfold F_chr F_lchar; decide +kernel
          rw [q49] at st49
          obtain ⟨fs, hr, hrun, hended, hW, hsame⟩ := X49.leave (v := some (.int (1 : Int32))) (fun h => by rw [Bd.returns] at h; cases h)
          refine ⟨_, _, pre46 _ ?_, hrun, hended, _, _, rfl, ?_, ⟨_, rfl⟩, hW, hsame.mono (by decide) (by decide)⟩
          · show Steps p.tables e below (T44.setTop (mkF m 51 #[.val (.int p0), .val (.int (p0 &&& (3 : Int32))), .val (.ref w_TIME), .val (.int (0 : Int32)), .unset, .unset, .unset] [(.int ((p0 &&& (3 : Int32)) &&& (1 : Int32)))])) _
            refine XS.ifYes X44.here hx rfl (pc0 := 51) (pc' := 58) rfl (hb hby at_51) rfl ((if0 _ _).trans (teq hc51_45).1) (by decide) (by decide) ?_
            show Steps p.tables e below (T44.setTop (mkF m 58 #[.val (.int p0), .val (.int (p0 &&& (3 : Int32))), .val (.ref w_TIME), .val (.int (0 : Int32)), .unset, .unset, .unset] [])) _
            refine XS.iconst X44.here hx rfl (hb hby at_58) ?_
            show Steps p.tables e below (T44.setTop (mkF m 59 #[.val (.int p0), .val (.int (p0 &&& (3 : Int32))), .val (.ref w_TIME), .val (.int (0 : Int32)), .unset, .unset, .unset] [(.int (0 : Int32))])) _
            refine XS.istore X44.here hx rfl (hb hby at_59) rfl (l' := #[.val (.int p0), .val (.int (p0 &&& (3 : Int32))), .val (.ref w_TIME), .val (.int (0 : Int32)), .val (.int (0 : Int32)), .unset, .unset]) rfl ?_
            show Steps p.tables e below (T44.setTop (mkF m 61 #[.val (.int p0), .val (.int (p0 &&& (3 : Int32))), .val (.ref w_TIME), .val (.int (0 : Int32)), .val (.int (0 : Int32)), .unset, .unset] [])) _
            refine XS.aloadN X44.here hx rfl (hb hby at_61) rfl rfl ?_
            show Steps p.tables e below (T44.setTop (mkF m 62 #[.val (.int p0), .val (.int (p0 &&& (3 : Int32))), .val (.ref w_TIME), .val (.int (0 : Int32)), .val (.int (0 : Int32)), .unset, .unset] [(.ref w_TIME)])) _
            refine st47.trans ?_
            show Steps p.tables e below (T47.setTop (mkF m 65 #[.val (.int p0), .val (.int (p0 &&& (3 : Int32))), .val (.ref w_TIME), .val (.int (0 : Int32)), .val (.int (0 : Int32)), .unset, .unset] [(.ref l_TIME)])) _
            refine XS.astore X47.here hx rfl (hb hby at_65) rfl rfl (l' := #[.val (.int p0), .val (.int (p0 &&& (3 : Int32))), .val (.ref w_TIME), .val (.int (0 : Int32)), .val (.int (0 : Int32)), .val (.ref l_TIME), .unset]) rfl ?_
            show Steps p.tables e below (T47.setTop (mkF m 67 #[.val (.int p0), .val (.int (p0 &&& (3 : Int32))), .val (.ref w_TIME), .val (.int (0 : Int32)), .val (.int (0 : Int32)), .val (.ref l_TIME), .unset] [])) _
            refine XS.aload X47.here hx rfl (hb hby at_67) rfl rfl ?_
            show Steps p.tables e below (T47.setTop (mkF m 69 #[.val (.int p0), .val (.int (p0 &&& (3 : Int32))), .val (.ref w_TIME), .val (.int (0 : Int32)), .val (.int (0 : Int32)), .val (.ref l_TIME), .unset] [(.ref l_TIME)])) _
            refine st48.trans ?_
            show Steps p.tables e below (T48.setTop (mkF m 72 #[.val (.int p0), .val (.int (p0 &&& (3 : Int32))), .val (.ref w_TIME), .val (.int (0 : Int32)), .val (.int (0 : Int32)), .val (.ref l_TIME), .unset] [(.int (0 : Int32))])) _
            refine XS.ifNo X48.here hx rfl (hb hby at_72) rfl ((if0 _ _).trans (teq (by decide : (0 : Int32) = (0 : Int32))).2) ?_
            show Steps p.tables e below (T48.setTop (mkF m 75 #[.val (.int p0), .val (.int (p0 &&& (3 : Int32))), .val (.ref w_TIME), .val (.int (0 : Int32)), .val (.int (0 : Int32)), .val (.ref l_TIME), .unset] [])) _
            refine XS.aload X48.here hx rfl (hb hby at_75) rfl rfl ?_
            show Steps p.tables e below (T48.setTop (mkF m 77 #[.val (.int p0), .val (.int (p0 &&& (3 : Int32))), .val (.ref w_TIME), .val (.int (0 : Int32)), .val (.int (0 : Int32)), .val (.ref l_TIME), .unset] [(.ref l_TIME)])) _
            refine XS.iconst X48.here hx rfl (hb hby at_77) ?_
            show Steps p.tables e below (T48.setTop (mkF m 78 #[.val (.int p0), .val (.int (p0 &&& (3 : Int32))), .val (.ref w_TIME), .val (.int (0 : Int32)), .val (.int (0 : Int32)), .val (.ref l_TIME), .unset] [(.int (0 : Int32)), (.ref l_TIME)])) _
            refine st49.trans ?_
            show Steps p.tables e below (T49.setTop (mkF m 81 #[.val (.int p0), .val (.int (p0 &&& (3 : Int32))), .val (.ref w_TIME), .val (.int (0 : Int32)), .val (.int (0 : Int32)), .val (.ref l_TIME), .unset] [(.int (116 : Int32))])) _
            refine XS.bipush X49.here hx rfl (hb hby at_81) ?_
            show Steps p.tables e below (T49.setTop (mkF m 83 #[.val (.int p0), .val (.int (p0 &&& (3 : Int32))), .val (.ref w_TIME), .val (.int (0 : Int32)), .val (.int (0 : Int32)), .val (.ref l_TIME), .unset] [(.int (112 : Int32)), (.int (116 : Int32))])) _
            refine XS.icmpYes X49.here hx rfl (pc0 := 83) (pc' := 90) rfl (hb hby at_83) rfl (feq (by decide : ¬ ((116 : Int32) = (112 : Int32)))).2 (by decide) (by decide) ?_
            show Steps p.tables e below (T49.setTop (mkF m 90 #[.val (.int p0), .val (.int (p0 &&& (3 : Int32))), .val (.ref w_TIME), .val (.int (0 : Int32)), .val (.int (0 : Int32)), .val (.ref l_TIME), .unset] [])) _
            refine XS.iconst X49.here hx rfl (hb hby at_90) ?_
            show Steps p.tables e below (T49.setTop (mkF m 91 #[.val (.int p0), .val (.int (p0 &&& (3 : Int32))), .val (.ref w_TIME), .val (.int (0 : Int32)), .val (.int (0 : Int32)), .val (.ref l_TIME), .unset] [(.int (0 : Int32))])) _
            refine XS.istore X49.here hx rfl (hb hby at_91) rfl (l' := #[.val (.int p0), .val (.int (p0 &&& (3 : Int32))), .val (.ref w_TIME), .val (.int (0 : Int32)), .val (.int (0 : Int32)), .val (.ref l_TIME), .val (.int (0 : Int32))]) rfl ?_
            show Steps p.tables e below (T49.setTop (mkF m 93 #[.val (.int p0), .val (.int (p0 &&& (3 : Int32))), .val (.ref w_TIME), .val (.int (0 : Int32)), .val (.int (0 : Int32)), .val (.ref l_TIME), .val (.int (0 : Int32))] [])) _
            refine XS.iloadN X49.here hx rfl (hb hby at_93) rfl ?_
            show Steps p.tables e below (T49.setTop (mkF m 94 #[.val (.int p0), .val (.int (p0 &&& (3 : Int32))), .val (.ref w_TIME), .val (.int (0 : Int32)), .val (.int (0 : Int32)), .val (.ref l_TIME), .val (.int (0 : Int32))] [(.int (0 : Int32))])) _
            refine XS.iload X49.here hx rfl (hb hby at_94) rfl ?_
            show Steps p.tables e below (T49.setTop (mkF m 96 #[.val (.int p0), .val (.int (p0 &&& (3 : Int32))), .val (.ref w_TIME), .val (.int (0 : Int32)), .val (.int (0 : Int32)), .val (.ref l_TIME), .val (.int (0 : Int32))] [(.int (0 : Int32)), (.int (0 : Int32))])) _
            refine XS.icmpNo X49.here hx rfl (hb hby at_96) rfl (teq (by decide : (0 : Int32) = (0 : Int32))).2 ?_
            show Steps p.tables e below (T49.setTop (mkF m 99 #[.val (.int p0), .val (.int (p0 &&& (3 : Int32))), .val (.ref w_TIME), .val (.int (0 : Int32)), .val (.int (0 : Int32)), .val (.ref l_TIME), .val (.int (0 : Int32))] [])) _
            refine XS.iloadN X49.here hx rfl (hb hby at_99) rfl ?_
            show Steps p.tables e below (T49.setTop (mkF m 100 #[.val (.int p0), .val (.int (p0 &&& (3 : Int32))), .val (.ref w_TIME), .val (.int (0 : Int32)), .val (.int (0 : Int32)), .val (.ref l_TIME), .val (.int (0 : Int32))] [(.int (0 : Int32))])) _
            refine XS.iload X49.here hx rfl (hb hby at_100) rfl ?_
            show Steps p.tables e below (T49.setTop (mkF m 102 #[.val (.int p0), .val (.int (p0 &&& (3 : Int32))), .val (.ref w_TIME), .val (.int (0 : Int32)), .val (.int (0 : Int32)), .val (.ref l_TIME), .val (.int (0 : Int32))] [(.int (0 : Int32)), (.int (0 : Int32))])) _
            refine XS.icmpNo X49.here hx rfl (hb hby at_102) rfl (teq (by decide : (0 : Int32) = (0 : Int32))).2 ?_
            show Steps p.tables e below (T49.setTop (mkF m 105 #[.val (.int p0), .val (.int (p0 &&& (3 : Int32))), .val (.ref w_TIME), .val (.int (0 : Int32)), .val (.int (0 : Int32)), .val (.ref l_TIME), .val (.int (0 : Int32))] [])) _
            refine XS.iconst X49.here hx rfl (hb hby at_105) ?_
            show Steps p.tables e below (T49.setTop (mkF m 106 #[.val (.int p0), .val (.int (p0 &&& (3 : Int32))), .val (.ref w_TIME), .val (.int (0 : Int32)), .val (.int (0 : Int32)), .val (.ref l_TIME), .val (.int (0 : Int32))] [(.int (1 : Int32))])) _
            refine XS.goto X49.here hx rfl (pc0 := 106) (pc' := 110) rfl (hb hby at_106) (by decide) (by decide) ?_
            show Steps p.tables e below (T49.setTop (mkF m 110 #[.val (.int p0), .val (.int (p0 &&& (3 : Int32))), .val (.ref w_TIME), .val (.int (0 : Int32)), .val (.int (0 : Int32)), .val (.ref l_TIME), .val (.int (0 : Int32))] [(.int (1 : Int32))])) _
            exact retN X49 hx (t := .boolean) Bd.returns (by simp) (hb hby at_110) hr
          · show Q_law Z p0 w_NONE w_PAYMENT w_TIME w_PAYMENT_AND_TIME kc fm l_NONE v_NONE cl_NONE l_PAYMENT v_PAYMENT cl_PAYMENT l_TIME v_TIME cl_TIME l_PAYMENT_AND_TIME v_PAYMENT_AND_TIME cl_PAYMENT_AND_TIME h0 n0 _ T49.heap _
            refine ⟨?_, N49, trivial⟩
            rw [F_law, if_neg hc5_19, if_neg hc17_29, if_pos hc29_41, if_pos hc51_45]
        · obtain ⟨cq50, kq50, q50a, q50b, q50c⟩ := isOf hZ e44 E_TIME
          obtain ⟨_, _, ⟨T50, L50, k50, n50⟩, -, X50, ⟨Lc50, hQ50, l50, y50, z50⟩, st50⟩ := X44.virtualBack hx (y := (⟨"com/example/matchbook/matchbook/model/Contingency", "label", "()Ljava/lang/String;"⟩ : MethodName)) (z := (⟨"com/example/matchbook/matchbook/model/Contingency", "label", "()Ljava/lang/String;"⟩ : MethodName)) hown (mvT hZ (hw _ (List.mem_of_getElem? (i := 12) rfl))) (mvT hZ (hw _ (List.mem_of_getElem? (i := 13) rfl))) (notFace_of_selects (args := #[]) (mvT hZ (hw _ (List.mem_of_getElem? (i := 15) rfl)))) (mvT hZ (hw _ (List.mem_of_getElem? (i := 15) rfl))) (mvT hZ (hw _ (List.mem_of_getElem? (i := 14) rfl))) (by decide) (backOf (W := 0) (rm_lab l Z a0' hw [] w_TIME l_TIME h0 n0 Z0 HL_TIME) hZ (hw _ (List.mem_of_getElem? (i := 16) rfl)) (hw _ (List.mem_of_getElem? (i := 1) rfl)) (by decide) (by decide)) q50a q50c (g := (mkF m 62 #[.val (.int p0), .val (.int (p0 &&& (3 : Int32))), .val (.ref w_TIME), .val (.int (0 : Int32)), .val (.int (1 : Int32)), .unset, .unset] [(.ref w_TIME)])) rfl (by rw [hml]; rfl) (Steps.refl _) (argsL := []) (rest := []) (lenOf own_pd4 rfl) rfl (by show 2 * 0 + _ ≤ _; exact Nat.le_of_eq rfl) (hb hby at_62) (fun _ _ => ⟨rfl, e44, (by decide : 0 + 0 ≤ _), (by decide : 0 + 0 ≤ _)⟩)
          dsimp only [Pt.U, Pt.locs, Pt.cells, Pt.slots] at X50 l50 y50 z50 st50 hQ50
          subst l50 y50 z50
          obtain ⟨rfl, N50q, e50⟩ := hQ50
          have N50 := Fr.app N44 N50q
          obtain ⟨cq51, kq51, q51a, q51b, q51c⟩ := isOf hZ e50 EL_TIME
          obtain ⟨_, _, ⟨T51, L51, k51, n51⟩, -, X51, ⟨Lc51, hQ51, l51, y51, z51⟩, st51⟩ := X50.virtualBack hx (y := (⟨"java/lang/String", "isEmpty", "()Z"⟩ : MethodName)) (z := (⟨"java/lang/String", "isEmpty", "()Z"⟩ : MethodName)) hown (mvT hZ (hw _ (List.mem_of_getElem? (i := 19) rfl))) (mvT hZ (hw _ (List.mem_of_getElem? (i := 20) rfl))) (notFace_of_selects (args := #[]) (mvT hZ (hw _ (List.mem_of_getElem? (i := 22) rfl)))) (mvT hZ (hw _ (List.mem_of_getElem? (i := 22) rfl))) (mvT hZ (hw _ (List.mem_of_getElem? (i := 21) rfl))) (by decide) (backOf (W := 0) (rm_emp l Z a0' hw [] l_TIME v_TIME cl_TIME (4 : Int32) h0 n0 Z0 HV_TIME Ar_TIME hsz_TIME hnn_TIME) hZ (hw _ (List.mem_of_getElem? (i := 24) rfl)) (hw _ (List.mem_of_getElem? (i := 23) rfl)) (by decide) (by decide)) q51a q51c (g := (mkF m 69 #[.val (.int p0), .val (.int (p0 &&& (3 : Int32))), .val (.ref w_TIME), .val (.int (0 : Int32)), .val (.int (1 : Int32)), .val (.ref l_TIME), .unset] [(.ref l_TIME)])) rfl (by rw [hml]; rfl) (Steps.refl _) (argsL := []) (rest := []) (lenOf own_pd2 rfl) rfl (by show 2 * 0 + _ ≤ _; exact Nat.le_of_eq rfl) (hb hby at_69) (fun _ _ => ⟨rfl, e50, (by decide : 0 + 0 ≤ _), (by decide : 0 + 0 ≤ _)⟩)
          dsimp only [Pt.U, Pt.locs, Pt.cells, Pt.slots] at X51 l51 y51 z51 st51 hQ51
          subst l51 y51 z51
          obtain ⟨rfl, N51q, e51⟩ := hQ51
          have N51 := Fr.app N50 N51q
          have q51 : (F_emp (4 : Int32)) = (0 : Int32) := by rw [F_emp, if_neg (by decide : ¬ ((4 : Int32) = (0 : Int32)))]
          rw [q51] at st51
          obtain ⟨cq52, kq52, q52a, q52b, q52c⟩ := isOf hZ e51 EL_TIME
          obtain ⟨_, _, ⟨T52, L52, k52, n52⟩, -, X52, ⟨Lc52, hQ52, l52, y52, z52⟩, st52⟩ := X51.virtualBack hx (y := (⟨"java/lang/String", "charAt", "(I)C"⟩ : MethodName)) (z := (⟨"java/lang/String", "charAt", "(I)C"⟩ : MethodName)) hown (mvT hZ (hw _ (List.mem_of_getElem? (i := 28) rfl))) (mvT hZ (hw _ (List.mem_of_getElem? (i := 29) rfl))) (notFace_of_selects (args := #[]) (mvT hZ (hw _ (List.mem_of_getElem? (i := 31) rfl)))) (mvT hZ (hw _ (List.mem_of_getElem? (i := 31) rfl))) (mvT hZ (hw _ (List.mem_of_getElem? (i := 30) rfl))) (by decide) (backOf (W := 0) (rm_chr l Z a0' hw [] l_TIME (0 : Int32) v_TIME cl_TIME (4 : Int32) (116 : Int32) kc fm h0 n0 Z0 EL_TIME HC_TIME HV_TIME Ar_TIME hsz_TIME hnn_TIME (by decide) (by decide) hat_TIME S_cs hkc S_fm hfm) hZ (hw _ (List.mem_of_getElem? (i := 32) rfl)) (hw _ (List.mem_of_getElem? (i := 23) rfl)) (by decide) (by decide)) q52a q52c (g := (mkF m 78 #[.val (.int p0), .val (.int (p0 &&& (3 : Int32))), .val (.ref w_TIME), .val (.int (0 : Int32)), .val (.int (1 : Int32)), .val (.ref l_TIME), .unset] [(.int (0 : Int32)), (.ref l_TIME)])) rfl (by rw [hml]; rfl) (Steps.refl _) (argsL := [(.int (0 : Int32))]) (rest := []) (lenOf own_pd5 rfl) rfl (by show 2 * 0 + _ ≤ _; exact Nat.le_of_eq rfl) (hb hby at_78) (fun _ _ => ⟨rfl, e51, (by decide : 0 + 0 ≤ _), (by decide : 0 + 0 ≤ _)⟩)
          dsimp only [Pt.U, Pt.locs, Pt.cells, Pt.slots] at X52 l52 y52 z52 st52 hQ52
          subst l52 y52 z52
          obtain ⟨rfl, N52q, e52⟩ := hQ52
          have N52 := Fr.app N51 N52q
          have q52 : (F_chr (116 : Int32)) = (116 : Int32) := by unfold F_chr F_lchar; decide +kernel
          rw [q52] at st52
          obtain ⟨fs, hr, hrun, hended, hW, hsame⟩ := X52.leave (v := some (.int (0 : Int32))) (fun h => by rw [Bd.returns] at h; cases h)
          refine ⟨_, _, pre46 _ ?_, hrun, hended, _, _, rfl, ?_, ⟨_, rfl⟩, hW, hsame.mono (by decide) (by decide)⟩
          · show Steps p.tables e below (T44.setTop (mkF m 51 #[.val (.int p0), .val (.int (p0 &&& (3 : Int32))), .val (.ref w_TIME), .val (.int (0 : Int32)), .unset, .unset, .unset] [(.int ((p0 &&& (3 : Int32)) &&& (1 : Int32)))])) _
            refine XS.ifNo X44.here hx rfl (hb hby at_51) rfl ((if0 _ _).trans (feq hc51_45).1) ?_
            show Steps p.tables e below (T44.setTop (mkF m 54 #[.val (.int p0), .val (.int (p0 &&& (3 : Int32))), .val (.ref w_TIME), .val (.int (0 : Int32)), .unset, .unset, .unset] [])) _
            refine XS.iconst X44.here hx rfl (hb hby at_54) ?_
            show Steps p.tables e below (T44.setTop (mkF m 55 #[.val (.int p0), .val (.int (p0 &&& (3 : Int32))), .val (.ref w_TIME), .val (.int (0 : Int32)), .unset, .unset, .unset] [(.int (1 : Int32))])) _
            refine XS.goto X44.here hx rfl (pc0 := 55) (pc' := 59) rfl (hb hby at_55) (by decide) (by decide) ?_
            show Steps p.tables e below (T44.setTop (mkF m 59 #[.val (.int p0), .val (.int (p0 &&& (3 : Int32))), .val (.ref w_TIME), .val (.int (0 : Int32)), .unset, .unset, .unset] [(.int (1 : Int32))])) _
            refine XS.istore X44.here hx rfl (hb hby at_59) rfl (l' := #[.val (.int p0), .val (.int (p0 &&& (3 : Int32))), .val (.ref w_TIME), .val (.int (0 : Int32)), .val (.int (1 : Int32)), .unset, .unset]) rfl ?_
            show Steps p.tables e below (T44.setTop (mkF m 61 #[.val (.int p0), .val (.int (p0 &&& (3 : Int32))), .val (.ref w_TIME), .val (.int (0 : Int32)), .val (.int (1 : Int32)), .unset, .unset] [])) _
            refine XS.aloadN X44.here hx rfl (hb hby at_61) rfl rfl ?_
            show Steps p.tables e below (T44.setTop (mkF m 62 #[.val (.int p0), .val (.int (p0 &&& (3 : Int32))), .val (.ref w_TIME), .val (.int (0 : Int32)), .val (.int (1 : Int32)), .unset, .unset] [(.ref w_TIME)])) _
            refine st50.trans ?_
            show Steps p.tables e below (T50.setTop (mkF m 65 #[.val (.int p0), .val (.int (p0 &&& (3 : Int32))), .val (.ref w_TIME), .val (.int (0 : Int32)), .val (.int (1 : Int32)), .unset, .unset] [(.ref l_TIME)])) _
            refine XS.astore X50.here hx rfl (hb hby at_65) rfl rfl (l' := #[.val (.int p0), .val (.int (p0 &&& (3 : Int32))), .val (.ref w_TIME), .val (.int (0 : Int32)), .val (.int (1 : Int32)), .val (.ref l_TIME), .unset]) rfl ?_
            show Steps p.tables e below (T50.setTop (mkF m 67 #[.val (.int p0), .val (.int (p0 &&& (3 : Int32))), .val (.ref w_TIME), .val (.int (0 : Int32)), .val (.int (1 : Int32)), .val (.ref l_TIME), .unset] [])) _
            refine XS.aload X50.here hx rfl (hb hby at_67) rfl rfl ?_
            show Steps p.tables e below (T50.setTop (mkF m 69 #[.val (.int p0), .val (.int (p0 &&& (3 : Int32))), .val (.ref w_TIME), .val (.int (0 : Int32)), .val (.int (1 : Int32)), .val (.ref l_TIME), .unset] [(.ref l_TIME)])) _
            refine st51.trans ?_
            show Steps p.tables e below (T51.setTop (mkF m 72 #[.val (.int p0), .val (.int (p0 &&& (3 : Int32))), .val (.ref w_TIME), .val (.int (0 : Int32)), .val (.int (1 : Int32)), .val (.ref l_TIME), .unset] [(.int (0 : Int32))])) _
            refine XS.ifNo X51.here hx rfl (hb hby at_72) rfl ((if0 _ _).trans (teq (by decide : (0 : Int32) = (0 : Int32))).2) ?_
            show Steps p.tables e below (T51.setTop (mkF m 75 #[.val (.int p0), .val (.int (p0 &&& (3 : Int32))), .val (.ref w_TIME), .val (.int (0 : Int32)), .val (.int (1 : Int32)), .val (.ref l_TIME), .unset] [])) _
            refine XS.aload X51.here hx rfl (hb hby at_75) rfl rfl ?_
            show Steps p.tables e below (T51.setTop (mkF m 77 #[.val (.int p0), .val (.int (p0 &&& (3 : Int32))), .val (.ref w_TIME), .val (.int (0 : Int32)), .val (.int (1 : Int32)), .val (.ref l_TIME), .unset] [(.ref l_TIME)])) _
            refine XS.iconst X51.here hx rfl (hb hby at_77) ?_
            show Steps p.tables e below (T51.setTop (mkF m 78 #[.val (.int p0), .val (.int (p0 &&& (3 : Int32))), .val (.ref w_TIME), .val (.int (0 : Int32)), .val (.int (1 : Int32)), .val (.ref l_TIME), .unset] [(.int (0 : Int32)), (.ref l_TIME)])) _
            refine st52.trans ?_
            show Steps p.tables e below (T52.setTop (mkF m 81 #[.val (.int p0), .val (.int (p0 &&& (3 : Int32))), .val (.ref w_TIME), .val (.int (0 : Int32)), .val (.int (1 : Int32)), .val (.ref l_TIME), .unset] [(.int (116 : Int32))])) _
            refine XS.bipush X52.here hx rfl (hb hby at_81) ?_
            show Steps p.tables e below (T52.setTop (mkF m 83 #[.val (.int p0), .val (.int (p0 &&& (3 : Int32))), .val (.ref w_TIME), .val (.int (0 : Int32)), .val (.int (1 : Int32)), .val (.ref l_TIME), .unset] [(.int (112 : Int32)), (.int (116 : Int32))])) _
            refine XS.icmpYes X52.here hx rfl (pc0 := 83) (pc' := 90) rfl (hb hby at_83) rfl (feq (by decide : ¬ ((116 : Int32) = (112 : Int32)))).2 (by decide) (by decide) ?_
            show Steps p.tables e below (T52.setTop (mkF m 90 #[.val (.int p0), .val (.int (p0 &&& (3 : Int32))), .val (.ref w_TIME), .val (.int (0 : Int32)), .val (.int (1 : Int32)), .val (.ref l_TIME), .unset] [])) _
            refine XS.iconst X52.here hx rfl (hb hby at_90) ?_
            show Steps p.tables e below (T52.setTop (mkF m 91 #[.val (.int p0), .val (.int (p0 &&& (3 : Int32))), .val (.ref w_TIME), .val (.int (0 : Int32)), .val (.int (1 : Int32)), .val (.ref l_TIME), .unset] [(.int (0 : Int32))])) _
            refine XS.istore X52.here hx rfl (hb hby at_91) rfl (l' := #[.val (.int p0), .val (.int (p0 &&& (3 : Int32))), .val (.ref w_TIME), .val (.int (0 : Int32)), .val (.int (1 : Int32)), .val (.ref l_TIME), .val (.int (0 : Int32))]) rfl ?_
            show Steps p.tables e below (T52.setTop (mkF m 93 #[.val (.int p0), .val (.int (p0 &&& (3 : Int32))), .val (.ref w_TIME), .val (.int (0 : Int32)), .val (.int (1 : Int32)), .val (.ref l_TIME), .val (.int (0 : Int32))] [])) _
            refine XS.iloadN X52.here hx rfl (hb hby at_93) rfl ?_
            show Steps p.tables e below (T52.setTop (mkF m 94 #[.val (.int p0), .val (.int (p0 &&& (3 : Int32))), .val (.ref w_TIME), .val (.int (0 : Int32)), .val (.int (1 : Int32)), .val (.ref l_TIME), .val (.int (0 : Int32))] [(.int (0 : Int32))])) _
            refine XS.iload X52.here hx rfl (hb hby at_94) rfl ?_
            show Steps p.tables e below (T52.setTop (mkF m 96 #[.val (.int p0), .val (.int (p0 &&& (3 : Int32))), .val (.ref w_TIME), .val (.int (0 : Int32)), .val (.int (1 : Int32)), .val (.ref l_TIME), .val (.int (0 : Int32))] [(.int (1 : Int32)), (.int (0 : Int32))])) _
            refine XS.icmpYes X52.here hx rfl (pc0 := 96) (pc' := 109) rfl (hb hby at_96) rfl (feq (by decide : ¬ ((0 : Int32) = (1 : Int32)))).2 (by decide) (by decide) ?_
            show Steps p.tables e below (T52.setTop (mkF m 109 #[.val (.int p0), .val (.int (p0 &&& (3 : Int32))), .val (.ref w_TIME), .val (.int (0 : Int32)), .val (.int (1 : Int32)), .val (.ref l_TIME), .val (.int (0 : Int32))] [])) _
            refine XS.iconst X52.here hx rfl (hb hby at_109) ?_
            show Steps p.tables e below (T52.setTop (mkF m 110 #[.val (.int p0), .val (.int (p0 &&& (3 : Int32))), .val (.ref w_TIME), .val (.int (0 : Int32)), .val (.int (1 : Int32)), .val (.ref l_TIME), .val (.int (0 : Int32))] [(.int (0 : Int32))])) _
            exact retN X52 hx (t := .boolean) Bd.returns (by simp) (hb hby at_110) hr
          · show Q_law Z p0 w_NONE w_PAYMENT w_TIME w_PAYMENT_AND_TIME kc fm l_NONE v_NONE cl_NONE l_PAYMENT v_PAYMENT cl_PAYMENT l_TIME v_TIME cl_TIME l_PAYMENT_AND_TIME v_PAYMENT_AND_TIME cl_PAYMENT_AND_TIME h0 n0 _ T52.heap _
            refine ⟨?_, N52, trivial⟩
            rw [F_law, if_neg hc5_19, if_neg hc17_29, if_pos hc29_41, if_neg hc51_45]
      · obtain ⟨T53, X53, e53, st53⟩ := getS2 X0 hx hZ hown (host := "") (Or.inl (hw _ (List.mem_of_getElem? (i := 27) rfl))) Via.refl e0 S_PAYMENT_AND_TIME (g := (mkF m 39 #[.val (.int p0), .val (.int (p0 &&& (3 : Int32))), .unset, .unset, .unset, .unset, .unset] [])) rfl (hb hby at_39)
        obtain ⟨cq54, kq54, q54a, q54b, q54c⟩ := isOf hZ e53 E_PAYMENT_AND_TIME
        obtain ⟨_, _, ⟨T54, L54, k54, n54⟩, -, X54, ⟨Lc54, hQ54, l54, y54, z54⟩, st54⟩ := X53.virtualBack hx (y := (⟨"com/example/matchbook/matchbook/model/Contingency", "paymentBased", "()Z"⟩ : MethodName)) (z := (⟨"com/example/matchbook/matchbook/model/Contingency", "paymentBased", "()Z"⟩ : MethodName)) hown (mvT hZ (hw _ (List.mem_of_getElem? (i := 3) rfl))) (mvT hZ (hw _ (List.mem_of_getElem? (i := 4) rfl))) (notFace_of_selects (args := #[]) (mvT hZ (hw _ (List.mem_of_getElem? (i := 6) rfl)))) (mvT hZ (hw _ (List.mem_of_getElem? (i := 6) rfl))) (mvT hZ (hw _ (List.mem_of_getElem? (i := 5) rfl))) (by decide) (backOf (W := 0) (rm_pb l Z a0' hw [] w_PAYMENT_AND_TIME w_PAYMENT w_PAYMENT_AND_TIME h0 n0 Z0 S_PAYMENT S_PAYMENT_AND_TIME) hZ (hw _ (List.mem_of_getElem? (i := 7) rfl)) (hw _ (List.mem_of_getElem? (i := 1) rfl)) (by decide) (by decide)) q54a q54c (g := (mkF m 44 #[.val (.int p0), .val (.int (p0 &&& (3 : Int32))), .val (.ref w_PAYMENT_AND_TIME), .unset, .unset, .unset, .unset] [(.ref w_PAYMENT_AND_TIME)])) rfl (by rw [hml]; rfl) (Steps.refl _) (argsL := []) (rest := []) (lenOf own_pd2 rfl) rfl (by show 2 * 0 + _ ≤ _; exact Nat.le_of_eq rfl) (hb hby at_44) (fun _ _ => ⟨rfl, e53, (by decide : 0 + 0 ≤ _), (by decide : 0 + 0 ≤ _)⟩)
        dsimp only [Pt.U, Pt.locs, Pt.cells, Pt.slots] at X54 l54 y54 z54 st54 hQ54
        subst l54 y54 z54
        obtain ⟨rfl, N54q, e54⟩ := hQ54
        have N54 := Fr.app N0 N54q
        have q54 : (F_pb w_PAYMENT_AND_TIME w_PAYMENT w_PAYMENT_AND_TIME) = (1 : Int32) := by rw [F_pb, if_neg ne_PAYMENT_AND_TIME_PAYMENT, if_pos (rfl : w_PAYMENT_AND_TIME = w_PAYMENT_AND_TIME)]
        rw [q54] at st54
        have pre56 : ∀ t, Steps p.tables e below (T54.setTop (mkF m 51 #[.val (.int p0), .val (.int (p0 &&& (3 : Int32))), .val (.ref w_PAYMENT_AND_TIME), .val (.int (1 : Int32)), .unset, .unset, .unset] [(.int ((p0 &&& (3 : Int32)) &&& (1 : Int32)))])) t → Steps p.tables e below (s₁.setTop (entryFrame m #[(.int p0)] maxLocals)) t := fun t k => pre42 t (by
          show Steps p.tables e below (s₁.setTop (mkF m 29 #[.val (.int p0), .val (.int (p0 &&& (3 : Int32))), .unset, .unset, .unset, .unset, .unset] [(.int (2 : Int32)), (.int (p0 &&& (3 : Int32)))])) _
          refine XS.icmpYes X0.here hx rfl (pc0 := 29) (pc' := 39) rfl (hb hby at_29) rfl (feq hc29_41).2 (by decide) (by decide) ?_
          show Steps p.tables e below (s₁.setTop (mkF m 39 #[.val (.int p0), .val (.int (p0 &&& (3 : Int32))), .unset, .unset, .unset, .unset, .unset] [])) _
          refine st53 _ ?_
          show Steps p.tables e below (T53.setTop (mkF m 42 #[.val (.int p0), .val (.int (p0 &&& (3 : Int32))), .unset, .unset, .unset, .unset, .unset] [(.ref w_PAYMENT_AND_TIME)])) _
          refine XS.astoreN X53.here hx rfl (hb hby at_42) rfl rfl (l' := #[.val (.int p0), .val (.int (p0 &&& (3 : Int32))), .val (.ref w_PAYMENT_AND_TIME), .unset, .unset, .unset, .unset]) rfl ?_
          show Steps p.tables e below (T53.setTop (mkF m 43 #[.val (.int p0), .val (.int (p0 &&& (3 : Int32))), .val (.ref w_PAYMENT_AND_TIME), .unset, .unset, .unset, .unset] [])) _
          refine XS.aloadN X53.here hx rfl (hb hby at_43) rfl rfl ?_
          show Steps p.tables e below (T53.setTop (mkF m 44 #[.val (.int p0), .val (.int (p0 &&& (3 : Int32))), .val (.ref w_PAYMENT_AND_TIME), .unset, .unset, .unset, .unset] [(.ref w_PAYMENT_AND_TIME)])) _
          refine st54.trans ?_
          show Steps p.tables e below (T54.setTop (mkF m 47 #[.val (.int p0), .val (.int (p0 &&& (3 : Int32))), .val (.ref w_PAYMENT_AND_TIME), .unset, .unset, .unset, .unset] [(.int (1 : Int32))])) _
          refine XS.istoreN X54.here hx rfl (hb hby at_47) rfl (l' := #[.val (.int p0), .val (.int (p0 &&& (3 : Int32))), .val (.ref w_PAYMENT_AND_TIME), .val (.int (1 : Int32)), .unset, .unset, .unset]) rfl ?_
          show Steps p.tables e below (T54.setTop (mkF m 48 #[.val (.int p0), .val (.int (p0 &&& (3 : Int32))), .val (.ref w_PAYMENT_AND_TIME), .val (.int (1 : Int32)), .unset, .unset, .unset] [])) _
          refine XS.iloadN X54.here hx rfl (hb hby at_48) rfl ?_
          show Steps p.tables e below (T54.setTop (mkF m 49 #[.val (.int p0), .val (.int (p0 &&& (3 : Int32))), .val (.ref w_PAYMENT_AND_TIME), .val (.int (1 : Int32)), .unset, .unset, .unset] [(.int (p0 &&& (3 : Int32)))])) _
          refine XS.iconst X54.here hx rfl (hb hby at_49) ?_
          show Steps p.tables e below (T54.setTop (mkF m 50 #[.val (.int p0), .val (.int (p0 &&& (3 : Int32))), .val (.ref w_PAYMENT_AND_TIME), .val (.int (1 : Int32)), .unset, .unset, .unset] [(.int (1 : Int32)), (.int (p0 &&& (3 : Int32)))])) _
          refine XS.iand X54.here hx rfl (hb hby at_50) rfl ?_
          exact k)
        by_cases hc51_55 : ((p0 &&& (3 : Int32)) &&& (1 : Int32)) = (0 : Int32)
        · obtain ⟨cq57, kq57, q57a, q57b, q57c⟩ := isOf hZ e54 E_PAYMENT_AND_TIME
          obtain ⟨_, _, ⟨T57, L57, k57, n57⟩, -, X57, ⟨Lc57, hQ57, l57, y57, z57⟩, st57⟩ := X54.virtualBack hx (y := (⟨"com/example/matchbook/matchbook/model/Contingency", "label", "()Ljava/lang/String;"⟩ : MethodName)) (z := (⟨"com/example/matchbook/matchbook/model/Contingency", "label", "()Ljava/lang/String;"⟩ : MethodName)) hown (mvT hZ (hw _ (List.mem_of_getElem? (i := 12) rfl))) (mvT hZ (hw _ (List.mem_of_getElem? (i := 13) rfl))) (notFace_of_selects (args := #[]) (mvT hZ (hw _ (List.mem_of_getElem? (i := 15) rfl)))) (mvT hZ (hw _ (List.mem_of_getElem? (i := 15) rfl))) (mvT hZ (hw _ (List.mem_of_getElem? (i := 14) rfl))) (by decide) (backOf (W := 0) (rm_lab l Z a0' hw [] w_PAYMENT_AND_TIME l_PAYMENT_AND_TIME h0 n0 Z0 HL_PAYMENT_AND_TIME) hZ (hw _ (List.mem_of_getElem? (i := 16) rfl)) (hw _ (List.mem_of_getElem? (i := 1) rfl)) (by decide) (by decide)) q57a q57c (g := (mkF m 62 #[.val (.int p0), .val (.int (p0 &&& (3 : Int32))), .val (.ref w_PAYMENT_AND_TIME), .val (.int (1 : Int32)), .val (.int (0 : Int32)), .unset, .unset] [(.ref w_PAYMENT_AND_TIME)])) rfl (by rw [hml]; rfl) (Steps.refl _) (argsL := []) (rest := []) (lenOf own_pd4 rfl) rfl (by show 2 * 0 + _ ≤ _; exact Nat.le_of_eq rfl) (hb hby at_62) (fun _ _ => ⟨rfl, e54, (by decide : 0 + 0 ≤ _), (by decide : 0 + 0 ≤ _)⟩)
          dsimp only [Pt.U, Pt.locs, Pt.cells, Pt.slots] at X57 l57 y57 z57 st57 hQ57
          subst l57 y57 z57
          obtain ⟨rfl, N57q, e57⟩ := hQ57
          have N57 := Fr.app N54 N57q
          obtain ⟨cq58, kq58, q58a, q58b, q58c⟩ := isOf hZ e57 EL_PAYMENT_AND_TIME
          obtain ⟨_, _, ⟨T58, L58, k58, n58⟩, -, X58, ⟨Lc58, hQ58, l58, y58, z58⟩, st58⟩ := X57.virtualBack hx (y := (⟨"java/lang/String", "isEmpty", "()Z"⟩ : MethodName)) (z := (⟨"java/lang/String", "isEmpty", "()Z"⟩ : MethodName)) hown (mvT hZ (hw _ (List.mem_of_getElem? (i := 19) rfl))) (mvT hZ (hw _ (List.mem_of_getElem? (i := 20) rfl))) (notFace_of_selects (args := #[]) (mvT hZ (hw _ (List.mem_of_getElem? (i := 22) rfl)))) (mvT hZ (hw _ (List.mem_of_getElem? (i := 22) rfl))) (mvT hZ (hw _ (List.mem_of_getElem? (i := 21) rfl))) (by decide) (backOf (W := 0) (rm_emp l Z a0' hw [] l_PAYMENT_AND_TIME v_PAYMENT_AND_TIME cl_PAYMENT_AND_TIME (12 : Int32) h0 n0 Z0 HV_PAYMENT_AND_TIME Ar_PAYMENT_AND_TIME hsz_PAYMENT_AND_TIME hnn_PAYMENT_AND_TIME) hZ (hw _ (List.mem_of_getElem? (i := 24) rfl)) (hw _ (List.mem_of_getElem? (i := 23) rfl)) (by decide) (by decide)) q58a q58c (g := (mkF m 69 #[.val (.int p0), .val (.int (p0 &&& (3 : Int32))), .val (.ref w_PAYMENT_AND_TIME), .val (.int (1 : Int32)), .val (.int (0 : Int32)), .val (.ref l_PAYMENT_AND_TIME), .unset] [(.ref l_PAYMENT_AND_TIME)])) rfl (by rw [hml]; rfl) (Steps.refl _) (argsL := []) (rest := []) (lenOf own_pd2 rfl) rfl (by show 2 * 0 + _ ≤ _; exact Nat.le_of_eq rfl) (hb hby at_69) (fun _ _ => ⟨rfl, e57, (by decide : 0 + 0 ≤ _), (by decide : 0 + 0 ≤ _)⟩)
          dsimp only [Pt.U, Pt.locs, Pt.cells, Pt.slots] at X58 l58 y58 z58 st58 hQ58
          subst l58 y58 z58
          obtain ⟨rfl, N58q, e58⟩ := hQ58
          have N58 := Fr.app N57 N58q
          have q58 : (F_emp (12 : Int32)) = (0 : Int32) := by rw [F_emp, if_neg (by decide : ¬ ((12 : Int32) = (0 : Int32)))]
          rw [q58] at st58
          obtain ⟨cq59, kq59, q59a, q59b, q59c⟩ := isOf hZ e58 EL_PAYMENT_AND_TIME
          obtain ⟨_, _, ⟨T59, L59, k59, n59⟩, -, X59, ⟨Lc59, hQ59, l59, y59, z59⟩, st59⟩ := X58.virtualBack hx (y := (⟨"java/lang/String", "charAt", "(I)C"⟩ : MethodName)) (z := (⟨"java/lang/String", "charAt", "(I)C"⟩ : MethodName)) hown (mvT hZ (hw _ (List.mem_of_getElem? (i := 28) rfl))) (mvT hZ (hw _ (List.mem_of_getElem? (i := 29) rfl))) (notFace_of_selects (args := #[]) (mvT hZ (hw _ (List.mem_of_getElem? (i := 31) rfl)))) (mvT hZ (hw _ (List.mem_of_getElem? (i := 31) rfl))) (mvT hZ (hw _ (List.mem_of_getElem? (i := 30) rfl))) (by decide) (backOf (W := 0) (rm_chr l Z a0' hw [] l_PAYMENT_AND_TIME (0 : Int32) v_PAYMENT_AND_TIME cl_PAYMENT_AND_TIME (12 : Int32) (112 : Int32) kc fm h0 n0 Z0 EL_PAYMENT_AND_TIME HC_PAYMENT_AND_TIME HV_PAYMENT_AND_TIME Ar_PAYMENT_AND_TIME hsz_PAYMENT_AND_TIME hnn_PAYMENT_AND_TIME (by decide) (by decide) hat_PAYMENT_AND_TIME S_cs hkc S_fm hfm) hZ (hw _ (List.mem_of_getElem? (i := 32) rfl)) (hw _ (List.mem_of_getElem? (i := 23) rfl)) (by decide) (by decide)) q59a q59c (g := (mkF m 78 #[.val (.int p0), .val (.int (p0 &&& (3 : Int32))), .val (.ref w_PAYMENT_AND_TIME), .val (.int (1 : Int32)), .val (.int (0 : Int32)), .val (.ref l_PAYMENT_AND_TIME), .unset] [(.int (0 : Int32)), (.ref l_PAYMENT_AND_TIME)])) rfl (by rw [hml]; rfl) (Steps.refl _) (argsL := [(.int (0 : Int32))]) (rest := []) (lenOf own_pd5 rfl) rfl (by show 2 * 0 + _ ≤ _; exact Nat.le_of_eq rfl) (hb hby at_78) (fun _ _ => ⟨rfl, e58, (by decide : 0 + 0 ≤ _), (by decide : 0 + 0 ≤ _)⟩)
          dsimp only [Pt.U, Pt.locs, Pt.cells, Pt.slots] at X59 l59 y59 z59 st59 hQ59
          subst l59 y59 z59
          obtain ⟨rfl, N59q, e59⟩ := hQ59
          have N59 := Fr.app N58 N59q
          have q59 : (F_chr (112 : Int32)) = (112 : Int32) := by unfold F_chr F_lchar; decide +kernel
          rw [q59] at st59
          obtain ⟨fs, hr, hrun, hended, hW, hsame⟩ := X59.leave (v := some (.int (0 : Int32))) (fun h => by rw [Bd.returns] at h; cases h)
          refine ⟨_, _, pre56 _ ?_, hrun, hended, _, _, rfl, ?_, ⟨_, rfl⟩, hW, hsame.mono (by decide) (by decide)⟩
          · show Steps p.tables e below (T54.setTop (mkF m 51 #[.val (.int p0), .val (.int (p0 &&& (3 : Int32))), .val (.ref w_PAYMENT_AND_TIME), .val (.int (1 : Int32)), .unset, .unset, .unset] [(.int ((p0 &&& (3 : Int32)) &&& (1 : Int32)))])) _
            refine XS.ifYes X54.here hx rfl (pc0 := 51) (pc' := 58) rfl (hb hby at_51) rfl ((if0 _ _).trans (teq hc51_55).1) (by decide) (by decide) ?_
            show Steps p.tables e below (T54.setTop (mkF m 58 #[.val (.int p0), .val (.int (p0 &&& (3 : Int32))), .val (.ref w_PAYMENT_AND_TIME), .val (.int (1 : Int32)), .unset, .unset, .unset] [])) _
            refine XS.iconst X54.here hx rfl (hb hby at_58) ?_
            show Steps p.tables e below (T54.setTop (mkF m 59 #[.val (.int p0), .val (.int (p0 &&& (3 : Int32))), .val (.ref w_PAYMENT_AND_TIME), .val (.int (1 : Int32)), .unset, .unset, .unset] [(.int (0 : Int32))])) _
            refine XS.istore X54.here hx rfl (hb hby at_59) rfl (l' := #[.val (.int p0), .val (.int (p0 &&& (3 : Int32))), .val (.ref w_PAYMENT_AND_TIME), .val (.int (1 : Int32)), .val (.int (0 : Int32)), .unset, .unset]) rfl ?_
            show Steps p.tables e below (T54.setTop (mkF m 61 #[.val (.int p0), .val (.int (p0 &&& (3 : Int32))), .val (.ref w_PAYMENT_AND_TIME), .val (.int (1 : Int32)), .val (.int (0 : Int32)), .unset, .unset] [])) _
            refine XS.aloadN X54.here hx rfl (hb hby at_61) rfl rfl ?_
            show Steps p.tables e below (T54.setTop (mkF m 62 #[.val (.int p0), .val (.int (p0 &&& (3 : Int32))), .val (.ref w_PAYMENT_AND_TIME), .val (.int (1 : Int32)), .val (.int (0 : Int32)), .unset, .unset] [(.ref w_PAYMENT_AND_TIME)])) _
            refine st57.trans ?_
            show Steps p.tables e below (T57.setTop (mkF m 65 #[.val (.int p0), .val (.int (p0 &&& (3 : Int32))), .val (.ref w_PAYMENT_AND_TIME), .val (.int (1 : Int32)), .val (.int (0 : Int32)), .unset, .unset] [(.ref l_PAYMENT_AND_TIME)])) _
            refine XS.astore X57.here hx rfl (hb hby at_65) rfl rfl (l' := #[.val (.int p0), .val (.int (p0 &&& (3 : Int32))), .val (.ref w_PAYMENT_AND_TIME), .val (.int (1 : Int32)), .val (.int (0 : Int32)), .val (.ref l_PAYMENT_AND_TIME), .unset]) rfl ?_
            show Steps p.tables e below (T57.setTop (mkF m 67 #[.val (.int p0), .val (.int (p0 &&& (3 : Int32))), .val (.ref w_PAYMENT_AND_TIME), .val (.int (1 : Int32)), .val (.int (0 : Int32)), .val (.ref l_PAYMENT_AND_TIME), .unset] [])) _
            refine XS.aload X57.here hx rfl (hb hby at_67) rfl rfl ?_
            show Steps p.tables e below (T57.setTop (mkF m 69 #[.val (.int p0), .val (.int (p0 &&& (3 : Int32))), .val (.ref w_PAYMENT_AND_TIME), .val (.int (1 : Int32)), .val (.int (0 : Int32)), .val (.ref l_PAYMENT_AND_TIME), .unset] [(.ref l_PAYMENT_AND_TIME)])) _
            refine st58.trans ?_
            show Steps p.tables e below (T58.setTop (mkF m 72 #[.val (.int p0), .val (.int (p0 &&& (3 : Int32))), .val (.ref w_PAYMENT_AND_TIME), .val (.int (1 : Int32)), .val (.int (0 : Int32)), .val (.ref l_PAYMENT_AND_TIME), .unset] [(.int (0 : Int32))])) _
            refine XS.ifNo X58.here hx rfl (hb hby at_72) rfl ((if0 _ _).trans (teq (by decide : (0 : Int32) = (0 : Int32))).2) ?_
            show Steps p.tables e below (T58.setTop (mkF m 75 #[.val (.int p0), .val (.int (p0 &&& (3 : Int32))), .val (.ref w_PAYMENT_AND_TIME), .val (.int (1 : Int32)), .val (.int (0 : Int32)), .val (.ref l_PAYMENT_AND_TIME), .unset] [])) _
            refine XS.aload X58.here hx rfl (hb hby at_75) rfl rfl ?_
            show Steps p.tables e below (T58.setTop (mkF m 77 #[.val (.int p0), .val (.int (p0 &&& (3 : Int32))), .val (.ref w_PAYMENT_AND_TIME), .val (.int (1 : Int32)), .val (.int (0 : Int32)), .val (.ref l_PAYMENT_AND_TIME), .unset] [(.ref l_PAYMENT_AND_TIME)])) _
            refine XS.iconst X58.here hx rfl (hb hby at_77) ?_
            show Steps p.tables e below (T58.setTop (mkF m 78 #[.val (.int p0), .val (.int (p0 &&& (3 : Int32))), .val (.ref w_PAYMENT_AND_TIME), .val (.int (1 : Int32)), .val (.int (0 : Int32)), .val (.ref l_PAYMENT_AND_TIME), .unset] [(.int (0 : Int32)), (.ref l_PAYMENT_AND_TIME)])) _
            refine st59.trans ?_
            show Steps p.tables e below (T59.setTop (mkF m 81 #[.val (.int p0), .val (.int (p0 &&& (3 : Int32))), .val (.ref w_PAYMENT_AND_TIME), .val (.int (1 : Int32)), .val (.int (0 : Int32)), .val (.ref l_PAYMENT_AND_TIME), .unset] [(.int (112 : Int32))])) _
            refine XS.bipush X59.here hx rfl (hb hby at_81) ?_
            show Steps p.tables e below (T59.setTop (mkF m 83 #[.val (.int p0), .val (.int (p0 &&& (3 : Int32))), .val (.ref w_PAYMENT_AND_TIME), .val (.int (1 : Int32)), .val (.int (0 : Int32)), .val (.ref l_PAYMENT_AND_TIME), .unset] [(.int (112 : Int32)), (.int (112 : Int32))])) _
            refine XS.icmpNo X59.here hx rfl (hb hby at_83) rfl (teq (by decide : (112 : Int32) = (112 : Int32))).2 ?_
            show Steps p.tables e below (T59.setTop (mkF m 86 #[.val (.int p0), .val (.int (p0 &&& (3 : Int32))), .val (.ref w_PAYMENT_AND_TIME), .val (.int (1 : Int32)), .val (.int (0 : Int32)), .val (.ref l_PAYMENT_AND_TIME), .unset] [])) _
            refine XS.iconst X59.here hx rfl (hb hby at_86) ?_
            show Steps p.tables e below (T59.setTop (mkF m 87 #[.val (.int p0), .val (.int (p0 &&& (3 : Int32))), .val (.ref w_PAYMENT_AND_TIME), .val (.int (1 : Int32)), .val (.int (0 : Int32)), .val (.ref l_PAYMENT_AND_TIME), .unset] [(.int (1 : Int32))])) _
            refine XS.goto X59.here hx rfl (pc0 := 87) (pc' := 91) rfl (hb hby at_87) (by decide) (by decide) ?_
            show Steps p.tables e below (T59.setTop (mkF m 91 #[.val (.int p0), .val (.int (p0 &&& (3 : Int32))), .val (.ref w_PAYMENT_AND_TIME), .val (.int (1 : Int32)), .val (.int (0 : Int32)), .val (.ref l_PAYMENT_AND_TIME), .unset] [(.int (1 : Int32))])) _
            refine XS.istore X59.here hx rfl (hb hby at_91) rfl (l' := #[.val (.int p0), .val (.int (p0 &&& (3 : Int32))), .val (.ref w_PAYMENT_AND_TIME), .val (.int (1 : Int32)), .val (.int (0 : Int32)), .val (.ref l_PAYMENT_AND_TIME), .val (.int (1 : Int32))]) rfl ?_
            show Steps p.tables e below (T59.setTop (mkF m 93 #[.val (.int p0), .val (.int (p0 &&& (3 : Int32))), .val (.ref w_PAYMENT_AND_TIME), .val (.int (1 : Int32)), .val (.int (0 : Int32)), .val (.ref l_PAYMENT_AND_TIME), .val (.int (1 : Int32))] [])) _
            refine XS.iloadN X59.here hx rfl (hb hby at_93) rfl ?_
            show Steps p.tables e below (T59.setTop (mkF m 94 #[.val (.int p0), .val (.int (p0 &&& (3 : Int32))), .val (.ref w_PAYMENT_AND_TIME), .val (.int (1 : Int32)), .val (.int (0 : Int32)), .val (.ref l_PAYMENT_AND_TIME), .val (.int (1 : Int32))] [(.int (1 : Int32))])) _
            refine XS.iload X59.here hx rfl (hb hby at_94) rfl ?_
            show Steps p.tables e below (T59.setTop (mkF m 96 #[.val (.int p0), .val (.int (p0 &&& (3 : Int32))), .val (.ref w_PAYMENT_AND_TIME), .val (.int (1 : Int32)), .val (.int (0 : Int32)), .val (.ref l_PAYMENT_AND_TIME), .val (.int (1 : Int32))] [(.int (0 : Int32)), (.int (1 : Int32))])) _
            refine XS.icmpYes X59.here hx rfl (pc0 := 96) (pc' := 109) rfl (hb hby at_96) rfl (feq (by decide : ¬ ((1 : Int32) = (0 : Int32)))).2 (by decide) (by decide) ?_
            show Steps p.tables e below (T59.setTop (mkF m 109 #[.val (.int p0), .val (.int (p0 &&& (3 : Int32))), .val (.ref w_PAYMENT_AND_TIME), .val (.int (1 : Int32)), .val (.int (0 : Int32)), .val (.ref l_PAYMENT_AND_TIME), .val (.int (1 : Int32))] [])) _
            refine XS.iconst X59.here hx rfl (hb hby at_109) ?_
            show Steps p.tables e below (T59.setTop (mkF m 110 #[.val (.int p0), .val (.int (p0 &&& (3 : Int32))), .val (.ref w_PAYMENT_AND_TIME), .val (.int (1 : Int32)), .val (.int (0 : Int32)), .val (.ref l_PAYMENT_AND_TIME), .val (.int (1 : Int32))] [(.int (0 : Int32))])) _
            exact retN X59 hx (t := .boolean) Bd.returns (by simp) (hb hby at_110) hr
          · show Q_law Z p0 w_NONE w_PAYMENT w_TIME w_PAYMENT_AND_TIME kc fm l_NONE v_NONE cl_NONE l_PAYMENT v_PAYMENT cl_PAYMENT l_TIME v_TIME cl_TIME l_PAYMENT_AND_TIME v_PAYMENT_AND_TIME cl_PAYMENT_AND_TIME h0 n0 _ T59.heap _
            refine ⟨?_, N59, trivial⟩
            rw [F_law, if_neg hc5_19, if_neg hc17_29, if_neg hc29_41, if_pos hc51_55]
        · obtain ⟨cq60, kq60, q60a, q60b, q60c⟩ := isOf hZ e54 E_PAYMENT_AND_TIME
          obtain ⟨_, _, ⟨T60, L60, k60, n60⟩, -, X60, ⟨Lc60, hQ60, l60, y60, z60⟩, st60⟩ := X54.virtualBack hx (y := (⟨"com/example/matchbook/matchbook/model/Contingency", "label", "()Ljava/lang/String;"⟩ : MethodName)) (z := (⟨"com/example/matchbook/matchbook/model/Contingency", "label", "()Ljava/lang/String;"⟩ : MethodName)) hown (mvT hZ (hw _ (List.mem_of_getElem? (i := 12) rfl))) (mvT hZ (hw _ (List.mem_of_getElem? (i := 13) rfl))) (notFace_of_selects (args := #[]) (mvT hZ (hw _ (List.mem_of_getElem? (i := 15) rfl)))) (mvT hZ (hw _ (List.mem_of_getElem? (i := 15) rfl))) (mvT hZ (hw _ (List.mem_of_getElem? (i := 14) rfl))) (by decide) (backOf (W := 0) (rm_lab l Z a0' hw [] w_PAYMENT_AND_TIME l_PAYMENT_AND_TIME h0 n0 Z0 HL_PAYMENT_AND_TIME) hZ (hw _ (List.mem_of_getElem? (i := 16) rfl)) (hw _ (List.mem_of_getElem? (i := 1) rfl)) (by decide) (by decide)) q60a q60c (g := (mkF m 62 #[.val (.int p0), .val (.int (p0 &&& (3 : Int32))), .val (.ref w_PAYMENT_AND_TIME), .val (.int (1 : Int32)), .val (.int (1 : Int32)), .unset, .unset] [(.ref w_PAYMENT_AND_TIME)])) rfl (by rw [hml]; rfl) (Steps.refl _) (argsL := []) (rest := []) (lenOf own_pd4 rfl) rfl (by show 2 * 0 + _ ≤ _; exact Nat.le_of_eq rfl) (hb hby at_62) (fun _ _ => ⟨rfl, e54, (by decide : 0 + 0 ≤ _), (by decide : 0 + 0 ≤ _)⟩)
          dsimp only [Pt.U, Pt.locs, Pt.cells, Pt.slots] at X60 l60 y60 z60 st60 hQ60
          subst l60 y60 z60
          obtain ⟨rfl, N60q, e60⟩ := hQ60
          have N60 := Fr.app N54 N60q
          obtain ⟨cq61, kq61, q61a, q61b, q61c⟩ := isOf hZ e60 EL_PAYMENT_AND_TIME
          obtain ⟨_, _, ⟨T61, L61, k61, n61⟩, -, X61, ⟨Lc61, hQ61, l61, y61, z61⟩, st61⟩ := X60.virtualBack hx (y := (⟨"java/lang/String", "isEmpty", "()Z"⟩ : MethodName)) (z := (⟨"java/lang/String", "isEmpty", "()Z"⟩ : MethodName)) hown (mvT hZ (hw _ (List.mem_of_getElem? (i := 19) rfl))) (mvT hZ (hw _ (List.mem_of_getElem? (i := 20) rfl))) (notFace_of_selects (args := #[]) (mvT hZ (hw _ (List.mem_of_getElem? (i := 22) rfl)))) (mvT hZ (hw _ (List.mem_of_getElem? (i := 22) rfl))) (mvT hZ (hw _ (List.mem_of_getElem? (i := 21) rfl))) (by decide) (backOf (W := 0) (rm_emp l Z a0' hw [] l_PAYMENT_AND_TIME v_PAYMENT_AND_TIME cl_PAYMENT_AND_TIME (12 : Int32) h0 n0 Z0 HV_PAYMENT_AND_TIME Ar_PAYMENT_AND_TIME hsz_PAYMENT_AND_TIME hnn_PAYMENT_AND_TIME) hZ (hw _ (List.mem_of_getElem? (i := 24) rfl)) (hw _ (List.mem_of_getElem? (i := 23) rfl)) (by decide) (by decide)) q61a q61c (g := (mkF m 69 #[.val (.int p0), .val (.int (p0 &&& (3 : Int32))), .val (.ref w_PAYMENT_AND_TIME), .val (.int (1 : Int32)), .val (.int (1 : Int32)), .val (.ref l_PAYMENT_AND_TIME), .unset] [(.ref l_PAYMENT_AND_TIME)])) rfl (by rw [hml]; rfl) (Steps.refl _) (argsL := []) (rest := []) (lenOf own_pd2 rfl) rfl (by show 2 * 0 + _ ≤ _; exact Nat.le_of_eq rfl) (hb hby at_69) (fun _ _ => ⟨rfl, e60, (by decide : 0 + 0 ≤ _), (by decide : 0 + 0 ≤ _)⟩)
          dsimp only [Pt.U, Pt.locs, Pt.cells, Pt.slots] at X61 l61 y61 z61 st61 hQ61
          subst l61 y61 z61
          obtain ⟨rfl, N61q, e61⟩ := hQ61
          have N61 := Fr.app N60 N61q
          have q61 : (F_emp (12 : Int32)) = (0 : Int32) := by rw [F_emp, if_neg (by decide : ¬ ((12 : Int32) = (0 : Int32)))]
          rw [q61] at st61
          obtain ⟨cq62, kq62, q62a, q62b, q62c⟩ := isOf hZ e61 EL_PAYMENT_AND_TIME
          obtain ⟨_, _, ⟨T62, L62, k62, n62⟩, -, X62, ⟨Lc62, hQ62, l62, y62, z62⟩, st62⟩ := X61.virtualBack hx (y := (⟨"java/lang/String", "charAt", "(I)C"⟩ : MethodName)) (z := (⟨"java/lang/String", "charAt", "(I)C"⟩ : MethodName)) hown (mvT hZ (hw _ (List.mem_of_getElem? (i := 28) rfl))) (mvT hZ (hw _ (List.mem_of_getElem? (i := 29) rfl))) (notFace_of_selects (args := #[]) (mvT hZ (hw _ (List.mem_of_getElem? (i := 31) rfl)))) (mvT hZ (hw _ (List.mem_of_getElem? (i := 31) rfl))) (mvT hZ (hw _ (List.mem_of_getElem? (i := 30) rfl))) (by decide) (backOf (W := 0) (rm_chr l Z a0' hw [] l_PAYMENT_AND_TIME (0 : Int32) v_PAYMENT_AND_TIME cl_PAYMENT_AND_TIME (12 : Int32) (112 : Int32) kc fm h0 n0 Z0 EL_PAYMENT_AND_TIME HC_PAYMENT_AND_TIME HV_PAYMENT_AND_TIME Ar_PAYMENT_AND_TIME hsz_PAYMENT_AND_TIME hnn_PAYMENT_AND_TIME (by decide) (by decide) hat_PAYMENT_AND_TIME S_cs hkc S_fm hfm) hZ (hw _ (List.mem_of_getElem? (i := 32) rfl)) (hw _ (List.mem_of_getElem? (i := 23) rfl)) (by decide) (by decide)) q62a q62c (g := (mkF m 78 #[.val (.int p0), .val (.int (p0 &&& (3 : Int32))), .val (.ref w_PAYMENT_AND_TIME), .val (.int (1 : Int32)), .val (.int (1 : Int32)), .val (.ref l_PAYMENT_AND_TIME), .unset] [(.int (0 : Int32)), (.ref l_PAYMENT_AND_TIME)])) rfl (by rw [hml]; rfl) (Steps.refl _) (argsL := [(.int (0 : Int32))]) (rest := []) (lenOf own_pd5 rfl) rfl (by show 2 * 0 + _ ≤ _; exact Nat.le_of_eq rfl) (hb hby at_78) (fun _ _ => ⟨rfl, e61, (by decide : 0 + 0 ≤ _), (by decide : 0 + 0 ≤ _)⟩)
          dsimp only [Pt.U, Pt.locs, Pt.cells, Pt.slots] at X62 l62 y62 z62 st62 hQ62
          subst l62 y62 z62
          obtain ⟨rfl, N62q, e62⟩ := hQ62
          have N62 := Fr.app N61 N62q
          have q62 : (F_chr (112 : Int32)) = (112 : Int32) := by unfold F_chr F_lchar; decide +kernel
          rw [q62] at st62
          obtain ⟨fs, hr, hrun, hended, hW, hsame⟩ := X62.leave (v := some (.int (1 : Int32))) (fun h => by rw [Bd.returns] at h; cases h)
          refine ⟨_, _, pre56 _ ?_, hrun, hended, _, _, rfl, ?_, ⟨_, rfl⟩, hW, hsame.mono (by decide) (by decide)⟩
          · show Steps p.tables e below (T54.setTop (mkF m 51 #[.val (.int p0), .val (.int (p0 &&& (3 : Int32))), .val (.ref w_PAYMENT_AND_TIME), .val (.int (1 : Int32)), .unset, .unset, .unset] [(.int ((p0 &&& (3 : Int32)) &&& (1 : Int32)))])) _
            refine XS.ifNo X54.here hx rfl (hb hby at_51) rfl ((if0 _ _).trans (feq hc51_55).1) ?_
            show Steps p.tables e below (T54.setTop (mkF m 54 #[.val (.int p0), .val (.int (p0 &&& (3 : Int32))), .val (.ref w_PAYMENT_AND_TIME), .val (.int (1 : Int32)), .unset, .unset, .unset] [])) _
            refine XS.iconst X54.here hx rfl (hb hby at_54) ?_
            show Steps p.tables e below (T54.setTop (mkF m 55 #[.val (.int p0), .val (.int (p0 &&& (3 : Int32))), .val (.ref w_PAYMENT_AND_TIME), .val (.int (1 : Int32)), .unset, .unset, .unset] [(.int (1 : Int32))])) _
            refine XS.goto X54.here hx rfl (pc0 := 55) (pc' := 59) rfl (hb hby at_55) (by decide) (by decide) ?_
            show Steps p.tables e below (T54.setTop (mkF m 59 #[.val (.int p0), .val (.int (p0 &&& (3 : Int32))), .val (.ref w_PAYMENT_AND_TIME), .val (.int (1 : Int32)), .unset, .unset, .unset] [(.int (1 : Int32))])) _
            refine XS.istore X54.here hx rfl (hb hby at_59) rfl (l' := #[.val (.int p0), .val (.int (p0 &&& (3 : Int32))), .val (.ref w_PAYMENT_AND_TIME), .val (.int (1 : Int32)), .val (.int (1 : Int32)), .unset, .unset]) rfl ?_
            show Steps p.tables e below (T54.setTop (mkF m 61 #[.val (.int p0), .val (.int (p0 &&& (3 : Int32))), .val (.ref w_PAYMENT_AND_TIME), .val (.int (1 : Int32)), .val (.int (1 : Int32)), .unset, .unset] [])) _
            refine XS.aloadN X54.here hx rfl (hb hby at_61) rfl rfl ?_
            show Steps p.tables e below (T54.setTop (mkF m 62 #[.val (.int p0), .val (.int (p0 &&& (3 : Int32))), .val (.ref w_PAYMENT_AND_TIME), .val (.int (1 : Int32)), .val (.int (1 : Int32)), .unset, .unset] [(.ref w_PAYMENT_AND_TIME)])) _
            refine st60.trans ?_
            show Steps p.tables e below (T60.setTop (mkF m 65 #[.val (.int p0), .val (.int (p0 &&& (3 : Int32))), .val (.ref w_PAYMENT_AND_TIME), .val (.int (1 : Int32)), .val (.int (1 : Int32)), .unset, .unset] [(.ref l_PAYMENT_AND_TIME)])) _
            refine XS.astore X60.here hx rfl (hb hby at_65) rfl rfl (l' := #[.val (.int p0), .val (.int (p0 &&& (3 : Int32))), .val (.ref w_PAYMENT_AND_TIME), .val (.int (1 : Int32)), .val (.int (1 : Int32)), .val (.ref l_PAYMENT_AND_TIME), .unset]) rfl ?_
            show Steps p.tables e below (T60.setTop (mkF m 67 #[.val (.int p0), .val (.int (p0 &&& (3 : Int32))), .val (.ref w_PAYMENT_AND_TIME), .val (.int (1 : Int32)), .val (.int (1 : Int32)), .val (.ref l_PAYMENT_AND_TIME), .unset] [])) _
            refine XS.aload X60.here hx rfl (hb hby at_67) rfl rfl ?_
            show Steps p.tables e below (T60.setTop (mkF m 69 #[.val (.int p0), .val (.int (p0 &&& (3 : Int32))), .val (.ref w_PAYMENT_AND_TIME), .val (.int (1 : Int32)), .val (.int (1 : Int32)), .val (.ref l_PAYMENT_AND_TIME), .unset] [(.ref l_PAYMENT_AND_TIME)])) _
            refine st61.trans ?_
            show Steps p.tables e below (T61.setTop (mkF m 72 #[.val (.int p0), .val (.int (p0 &&& (3 : Int32))), .val (.ref w_PAYMENT_AND_TIME), .val (.int (1 : Int32)), .val (.int (1 : Int32)), .val (.ref l_PAYMENT_AND_TIME), .unset] [(.int (0 : Int32))])) _
            refine XS.ifNo X61.here hx rfl (hb hby at_72) rfl ((if0 _ _).trans (teq (by decide : (0 : Int32) = (0 : Int32))).2) ?_
            show Steps p.tables e below (T61.setTop (mkF m 75 #[.val (.int p0), .val (.int (p0 &&& (3 : Int32))), .val (.ref w_PAYMENT_AND_TIME), .val (.int (1 : Int32)), .val (.int (1 : Int32)), .val (.ref l_PAYMENT_AND_TIME), .unset] [])) _
            refine XS.aload X61.here hx rfl (hb hby at_75) rfl rfl ?_
            show Steps p.tables e below (T61.setTop (mkF m 77 #[.val (.int p0), .val (.int (p0 &&& (3 : Int32))), .val (.ref w_PAYMENT_AND_TIME), .val (.int (1 : Int32)), .val (.int (1 : Int32)), .val (.ref l_PAYMENT_AND_TIME), .unset] [(.ref l_PAYMENT_AND_TIME)])) _
            refine XS.iconst X61.here hx rfl (hb hby at_77) ?_
            show Steps p.tables e below (T61.setTop (mkF m 78 #[.val (.int p0), .val (.int (p0 &&& (3 : Int32))), .val (.ref w_PAYMENT_AND_TIME), .val (.int (1 : Int32)), .val (.int (1 : Int32)), .val (.ref l_PAYMENT_AND_TIME), .unset] [(.int (0 : Int32)), (.ref l_PAYMENT_AND_TIME)])) _
            refine st62.trans ?_
            show Steps p.tables e below (T62.setTop (mkF m 81 #[.val (.int p0), .val (.int (p0 &&& (3 : Int32))), .val (.ref w_PAYMENT_AND_TIME), .val (.int (1 : Int32)), .val (.int (1 : Int32)), .val (.ref l_PAYMENT_AND_TIME), .unset] [(.int (112 : Int32))])) _
            refine XS.bipush X62.here hx rfl (hb hby at_81) ?_
            show Steps p.tables e below (T62.setTop (mkF m 83 #[.val (.int p0), .val (.int (p0 &&& (3 : Int32))), .val (.ref w_PAYMENT_AND_TIME), .val (.int (1 : Int32)), .val (.int (1 : Int32)), .val (.ref l_PAYMENT_AND_TIME), .unset] [(.int (112 : Int32)), (.int (112 : Int32))])) _
            refine XS.icmpNo X62.here hx rfl (hb hby at_83) rfl (teq (by decide : (112 : Int32) = (112 : Int32))).2 ?_
            show Steps p.tables e below (T62.setTop (mkF m 86 #[.val (.int p0), .val (.int (p0 &&& (3 : Int32))), .val (.ref w_PAYMENT_AND_TIME), .val (.int (1 : Int32)), .val (.int (1 : Int32)), .val (.ref l_PAYMENT_AND_TIME), .unset] [])) _
            refine XS.iconst X62.here hx rfl (hb hby at_86) ?_
            show Steps p.tables e below (T62.setTop (mkF m 87 #[.val (.int p0), .val (.int (p0 &&& (3 : Int32))), .val (.ref w_PAYMENT_AND_TIME), .val (.int (1 : Int32)), .val (.int (1 : Int32)), .val (.ref l_PAYMENT_AND_TIME), .unset] [(.int (1 : Int32))])) _
            refine XS.goto X62.here hx rfl (pc0 := 87) (pc' := 91) rfl (hb hby at_87) (by decide) (by decide) ?_
            show Steps p.tables e below (T62.setTop (mkF m 91 #[.val (.int p0), .val (.int (p0 &&& (3 : Int32))), .val (.ref w_PAYMENT_AND_TIME), .val (.int (1 : Int32)), .val (.int (1 : Int32)), .val (.ref l_PAYMENT_AND_TIME), .unset] [(.int (1 : Int32))])) _
            refine XS.istore X62.here hx rfl (hb hby at_91) rfl (l' := #[.val (.int p0), .val (.int (p0 &&& (3 : Int32))), .val (.ref w_PAYMENT_AND_TIME), .val (.int (1 : Int32)), .val (.int (1 : Int32)), .val (.ref l_PAYMENT_AND_TIME), .val (.int (1 : Int32))]) rfl ?_
            show Steps p.tables e below (T62.setTop (mkF m 93 #[.val (.int p0), .val (.int (p0 &&& (3 : Int32))), .val (.ref w_PAYMENT_AND_TIME), .val (.int (1 : Int32)), .val (.int (1 : Int32)), .val (.ref l_PAYMENT_AND_TIME), .val (.int (1 : Int32))] [])) _
            refine XS.iloadN X62.here hx rfl (hb hby at_93) rfl ?_
            show Steps p.tables e below (T62.setTop (mkF m 94 #[.val (.int p0), .val (.int (p0 &&& (3 : Int32))), .val (.ref w_PAYMENT_AND_TIME), .val (.int (1 : Int32)), .val (.int (1 : Int32)), .val (.ref l_PAYMENT_AND_TIME), .val (.int (1 : Int32))] [(.int (1 : Int32))])) _
            refine XS.iload X62.here hx rfl (hb hby at_94) rfl ?_
            show Steps p.tables e below (T62.setTop (mkF m 96 #[.val (.int p0), .val (.int (p0 &&& (3 : Int32))), .val (.ref w_PAYMENT_AND_TIME), .val (.int (1 : Int32)), .val (.int (1 : Int32)), .val (.ref l_PAYMENT_AND_TIME), .val (.int (1 : Int32))] [(.int (1 : Int32)), (.int (1 : Int32))])) _
            refine XS.icmpNo X62.here hx rfl (hb hby at_96) rfl (teq (by decide : (1 : Int32) = (1 : Int32))).2 ?_
            show Steps p.tables e below (T62.setTop (mkF m 99 #[.val (.int p0), .val (.int (p0 &&& (3 : Int32))), .val (.ref w_PAYMENT_AND_TIME), .val (.int (1 : Int32)), .val (.int (1 : Int32)), .val (.ref l_PAYMENT_AND_TIME), .val (.int (1 : Int32))] [])) _
            refine XS.iloadN X62.here hx rfl (hb hby at_99) rfl ?_
            show Steps p.tables e below (T62.setTop (mkF m 100 #[.val (.int p0), .val (.int (p0 &&& (3 : Int32))), .val (.ref w_PAYMENT_AND_TIME), .val (.int (1 : Int32)), .val (.int (1 : Int32)), .val (.ref l_PAYMENT_AND_TIME), .val (.int (1 : Int32))] [(.int (1 : Int32))])) _
            refine XS.iload X62.here hx rfl (hb hby at_100) rfl ?_
            show Steps p.tables e below (T62.setTop (mkF m 102 #[.val (.int p0), .val (.int (p0 &&& (3 : Int32))), .val (.ref w_PAYMENT_AND_TIME), .val (.int (1 : Int32)), .val (.int (1 : Int32)), .val (.ref l_PAYMENT_AND_TIME), .val (.int (1 : Int32))] [(.int (1 : Int32)), (.int (1 : Int32))])) _
            refine XS.icmpNo X62.here hx rfl (hb hby at_102) rfl (teq (by decide : (1 : Int32) = (1 : Int32))).2 ?_
            show Steps p.tables e below (T62.setTop (mkF m 105 #[.val (.int p0), .val (.int (p0 &&& (3 : Int32))), .val (.ref w_PAYMENT_AND_TIME), .val (.int (1 : Int32)), .val (.int (1 : Int32)), .val (.ref l_PAYMENT_AND_TIME), .val (.int (1 : Int32))] [])) _
            refine XS.iconst X62.here hx rfl (hb hby at_105) ?_
            show Steps p.tables e below (T62.setTop (mkF m 106 #[.val (.int p0), .val (.int (p0 &&& (3 : Int32))), .val (.ref w_PAYMENT_AND_TIME), .val (.int (1 : Int32)), .val (.int (1 : Int32)), .val (.ref l_PAYMENT_AND_TIME), .val (.int (1 : Int32))] [(.int (1 : Int32))])) _
            refine XS.goto X62.here hx rfl (pc0 := 106) (pc' := 110) rfl (hb hby at_106) (by decide) (by decide) ?_
            show Steps p.tables e below (T62.setTop (mkF m 110 #[.val (.int p0), .val (.int (p0 &&& (3 : Int32))), .val (.ref w_PAYMENT_AND_TIME), .val (.int (1 : Int32)), .val (.int (1 : Int32)), .val (.ref l_PAYMENT_AND_TIME), .val (.int (1 : Int32))] [(.int (1 : Int32))])) _
            exact retN X62 hx (t := .boolean) Bd.returns (by simp) (hb hby at_110) hr
          · show Q_law Z p0 w_NONE w_PAYMENT w_TIME w_PAYMENT_AND_TIME kc fm l_NONE v_NONE cl_NONE l_PAYMENT v_PAYMENT cl_PAYMENT l_TIME v_TIME cl_TIME l_PAYMENT_AND_TIME v_PAYMENT_AND_TIME cl_PAYMENT_AND_TIME h0 n0 _ T62.heap _
            refine ⟨?_, N62, trivial⟩
            rw [F_law, if_neg hc5_19, if_neg hc17_29, if_neg hc29_41, if_neg hc51_55]
theorem own_msk (x : Int32) : x &&& (3 : Int32) = (0 : Int32) ∨ x &&& (3 : Int32) = (1 : Int32) ∨ x &&& (3 : Int32) = (2 : Int32) ∨ x &&& (3 : Int32) = (3 : Int32) := by
  have e1 : (x &&& (3 : Int32)).toInt = x.toInt % 2 ^ 2 := Jvm.Kit.i32_mask x 3 (k := 2) (by decide) (by decide)
  simp only [← Int32.toInt_inj]
  have c0 : (0 : Int32).toInt = 0 := by decide
  have c1 : (1 : Int32).toInt = 1 := by decide
  have c2 : (2 : Int32).toInt = 2 := by decide
  have c3 : (3 : Int32).toInt = 3 := by decide
  simp only [c0, c1, c2, c3]
  omega
theorem own_law (p0 : Int32) : F_law p0 = 1 := by
  unfold F_law
  rcases own_msk p0 with h | h | h | h <;> rw [h] <;> decide
set_option maxRecDepth 65536 in
set_option maxHeartbeats 40000000 in
theorem own_comes {Post : Tables → Env → Array Value → State → Outcome → State → Prop} (hpost : ∀ tb e args s v u, (limb_1_1.after args s (.returned v) u = true ∧ limb_1_2.after args s (.returned v) u = true ∧ True) → FrameEnd s (.returned v) u (Jvm.fieldLocs frame_1_writes args s ++ Jvm.arrayLocs frame_1_arrays args s ++ Jvm.staticLocs frame_1_statics s) 0 0 → Post tb e args s (.returned v) u) :
    ArmFor flags0 classFile x code maxLocals ret World_1 tables_1 room_1 Calls_1 rest_1 Pre_1 Post := by
  intro l hfl _ _ p e ha hc hk s m args below hf hA hF happ hP
  obtain ⟨hcalls, hrest, hpre⟩ := hP
  obtain ⟨-, -, -, hnamed, -, -, -, hat⟩ := (Spec.applies_iff hf).mp happ
  obtain ⟨hg, hn⟩ := and_e (Cond.before_iff.mp (show (Jvm.Cond.and given_1 narrow_1).before args s = true from hpre))
  obtain ⟨g1, g1'⟩ := and_e hg
  obtain ⟨g2, g2'⟩ := and_e hn
  obtain ⟨g3, g3'⟩ := and_e g2'
  obtain ⟨g4, g4'⟩ := and_e g3'
  obtain ⟨g5, g5'⟩ := and_e g4'
  obtain ⟨g6, g6'⟩ := and_e g5'
  obtain ⟨g7, g7'⟩ := and_e g6'
  obtain ⟨g8, g8'⟩ := and_e g7'
  obtain ⟨g9, g9'⟩ := and_e g8'
  obtain ⟨g10, g10'⟩ := and_e g9'
  obtain ⟨g11, g11'⟩ := and_e g10'
  obtain ⟨g12, g12'⟩ := and_e g11'
  obtain ⟨g13, g13'⟩ := and_e g12'
  obtain ⟨g14, g14'⟩ := and_e g13'
  obtain ⟨g15, g15'⟩ := and_e g14'
  obtain ⟨g16, g16'⟩ := and_e g15'
  obtain ⟨g17, g17'⟩ := and_e g16'
  obtain ⟨g18, g18'⟩ := and_e g17'
  obtain ⟨g19, g19'⟩ := and_e g18'
  obtain ⟨g20, g20'⟩ := and_e g19'
  obtain ⟨g21, g21'⟩ := and_e g20'
  obtain ⟨g22, g22'⟩ := and_e g21'
  obtain ⟨g23, g23'⟩ := and_e g22'
  obtain ⟨g24, g24'⟩ := and_e g23'
  obtain ⟨g25, g25'⟩ := and_e g24'
  obtain ⟨g26, g26'⟩ := and_e g25'
  obtain ⟨g27, g27'⟩ := and_e g26'
  obtain ⟨g28, g28'⟩ := and_e g27'
  obtain ⟨g29, g29'⟩ := and_e g28'
  obtain ⟨g30, g30'⟩ := and_e g29'
  obtain ⟨g31, g31'⟩ := and_e g30'
  obtain ⟨g32, g32'⟩ := and_e g31'
  obtain ⟨g33, g33'⟩ := and_e g32'
  obtain ⟨g34, g34'⟩ := and_e g33'
  obtain ⟨g35, g35'⟩ := and_e g34'
  obtain ⟨g36, g36'⟩ := and_e g35'
  obtain ⟨g37, g37'⟩ := and_e g36'
  obtain ⟨g38, g38'⟩ := and_e g37'
  obtain ⟨g39, g39'⟩ := and_e g38'
  obtain ⟨g40, g40'⟩ := and_e g39'
  obtain ⟨g41, g41'⟩ := and_e g40'
  obtain ⟨g42, g42'⟩ := and_e g41'
  obtain ⟨g43, g43'⟩ := and_e g42'
  obtain ⟨g44, g44'⟩ := and_e g43'
  obtain ⟨g45, g45'⟩ := and_e g44'
  obtain ⟨g46, g46'⟩ := and_e g45'
  obtain ⟨g47, g47'⟩ := and_e g46'
  obtain ⟨u0, rfl⟩ : ∃ u0 : Value, args = #[u0] := by
    have hs : args.size = 1 := by simpa [Cond.value, given_1] using g1
    obtain ⟨L⟩ := args
    match L, hs with
    | [u0], _ => exact ⟨u0, rfl⟩
  have hw := fun d (hd : d ∈ tables_1) => atoms_spec (ws := Jvm.Cond.code x code maxLocals ret :: tables_1) hat d (List.mem_cons_of_mem _ hd)
  obtain ⟨i0, ei0⟩ := is_v g1'
  obtain rfl : u0 = (.int i0) := Option.some.inj ei0
  obtain ⟨w_NONE, ev_NONE⟩ := exa_v g2
  have E_NONE := Exa.start ev_NONE g2
  have S_NONE := Sta.start ev_NONE (Or.inr ⟨(hw _ (List.mem_of_getElem? (i := 1) rfl)), (hw _ (List.mem_of_getElem? (i := 2) rfl))⟩)
  obtain ⟨w_PAYMENT, ev_PAYMENT⟩ := exa_v g3
  have E_PAYMENT := Exa.start ev_PAYMENT g3
  have S_PAYMENT := Sta.start ev_PAYMENT (Or.inr ⟨(hw _ (List.mem_of_getElem? (i := 1) rfl)), (hw _ (List.mem_of_getElem? (i := 9) rfl))⟩)
  obtain ⟨w_PAYMENT_AND_TIME, ev_PAYMENT_AND_TIME⟩ := exa_v g6
  have E_PAYMENT_AND_TIME := Exa.start ev_PAYMENT_AND_TIME g6
  have S_PAYMENT_AND_TIME := Sta.start ev_PAYMENT_AND_TIME (Or.inr ⟨(hw _ (List.mem_of_getElem? (i := 1) rfl)), (hw _ (List.mem_of_getElem? (i := 11) rfl))⟩)
  obtain ⟨w_TIME, ev_TIME⟩ := exa_v g15
  have E_TIME := Exa.start ev_TIME g15
  have S_TIME := Sta.start ev_TIME (Or.inr ⟨(hw _ (List.mem_of_getElem? (i := 1) rfl)), (hw _ (List.mem_of_getElem? (i := 54) rfl))⟩)
  obtain ⟨l_NONE, evl_NONE⟩ := exa_v g8
  have EL_NONE := Exa.start evl_NONE g8
  have HL_NONE := Fld.start ((fld_at ev_NONE).symm.trans evl_NONE)
  obtain ⟨l_PAYMENT_AND_TIME, evl_PAYMENT_AND_TIME⟩ := exa_v g11
  have EL_PAYMENT_AND_TIME := Exa.start evl_PAYMENT_AND_TIME g11
  have HL_PAYMENT_AND_TIME := Fld.start ((fld_at ev_PAYMENT_AND_TIME).symm.trans evl_PAYMENT_AND_TIME)
  obtain ⟨l_TIME, evl_TIME⟩ := exa_v g17
  have EL_TIME := Exa.start evl_TIME g17
  have HL_TIME := Fld.start ((fld_at ev_TIME).symm.trans evl_TIME)
  obtain ⟨l_PAYMENT, evl_PAYMENT⟩ := exa_v g22
  have EL_PAYMENT := Exa.start evl_PAYMENT g22
  have HL_PAYMENT := Fld.start ((fld_at ev_PAYMENT).symm.trans evl_PAYMENT)
  obtain ⟨v_NONE, evv_NONE⟩ := arr_v g9
  obtain ⟨cl_NONE, Ar_NONE⟩ := Arr.start evv_NONE g9
  have HV_NONE := Fld.start ((fld_at evl_NONE).symm.trans evv_NONE)
  obtain ⟨v_PAYMENT_AND_TIME, evv_PAYMENT_AND_TIME⟩ := arr_v g12
  obtain ⟨cl_PAYMENT_AND_TIME, Ar_PAYMENT_AND_TIME⟩ := Arr.start evv_PAYMENT_AND_TIME g12
  have HV_PAYMENT_AND_TIME := Fld.start ((fld_at evl_PAYMENT_AND_TIME).symm.trans evv_PAYMENT_AND_TIME)
  obtain ⟨v_TIME, evv_TIME⟩ := arr_v g18
  obtain ⟨cl_TIME, Ar_TIME⟩ := Arr.start evv_TIME g18
  have HV_TIME := Fld.start ((fld_at evl_TIME).symm.trans evv_TIME)
  obtain ⟨v_PAYMENT, evv_PAYMENT⟩ := arr_v g23
  obtain ⟨cl_PAYMENT, Ar_PAYMENT⟩ := Arr.start evv_PAYMENT g23
  have HV_PAYMENT := Fld.start ((fld_at evl_PAYMENT).symm.trans evv_PAYMENT)
  obtain ⟨hsz_NONE, hnn_NONE⟩ := own_len g10 evv_NONE Ar_NONE
  obtain ⟨hsz_PAYMENT_AND_TIME, hnn_PAYMENT_AND_TIME⟩ := own_len g13 evv_PAYMENT_AND_TIME Ar_PAYMENT_AND_TIME
  have HC_PAYMENT_AND_TIME := Fld.start ((fld_at evl_PAYMENT_AND_TIME).symm.trans (own_eqk g14))
  obtain ⟨hsz_TIME, hnn_TIME⟩ := own_len g19 evv_TIME Ar_TIME
  have HC_TIME := Fld.start ((fld_at evl_TIME).symm.trans (own_eqk g20))
  have hat_TIME := (elem_in (own_eqk g21) evv_TIME (Term.int_eval _) Ar_TIME.1).2
  obtain ⟨hsz_PAYMENT, hnn_PAYMENT⟩ := own_len g24 evv_PAYMENT Ar_PAYMENT
  have HC_PAYMENT := Fld.start ((fld_at evl_PAYMENT).symm.trans (own_eqk g25))
  have HC_NONE := Fld.start ((fld_at evl_NONE).symm.trans (own_eqk g26))
  skip
  skip
  skip
  have hat_PAYMENT_AND_TIME := (elem_in (own_eqk g30) evv_PAYMENT_AND_TIME (Term.int_eval _) Ar_PAYMENT_AND_TIME.1).2
  skip
  skip
  skip
  skip
  skip
  skip
  skip
  skip
  skip
  skip
  skip
  have hat_PAYMENT := (elem_in (own_eqk g42) evv_PAYMENT (Term.int_eval _) Ar_PAYMENT.1).2
  skip
  skip
  skip
  skip
  skip
  skip
  have o_NONE := (fld_at ev_NONE).symm.trans (own_eqk g4)
  have o_PAYMENT := (fld_at ev_PAYMENT).symm.trans (own_eqk g5)
  have o_PAYMENT_AND_TIME := (fld_at ev_PAYMENT_AND_TIME).symm.trans (own_eqk g7)
  have o_TIME := (fld_at ev_TIME).symm.trans (own_eqk g16)
  obtain ⟨hsets, hown0⟩ := atoms_of _ (rest_1_c_eq ▸ (show rest_1_c.before _ s = true from hrest))
  obtain ⟨kc, evk⟩ := is_v (Cond.before_iff.mp (hsets _ (List.mem_of_getElem? (i := 1) rfl)))
  have S_cs := Sta.start evk (Or.inl (hsets _ (List.mem_of_getElem? (i := 0) rfl)))
  have hkc : ¬ (kc = (0 : Int32)) := gotF (Cond.eq_ints evk (Term.int_eval _)) (not_v (Cond.before_iff.mp (hsets _ (List.mem_of_getElem? (i := 2) rfl))))
  obtain ⟨fm, evf, hfm⟩ := isR_v (Cond.before_iff.mp (hsets _ (List.mem_of_getElem? (i := 8) rfl)))
  have S_fm := Sta.start evf (Or.inl (hsets _ (List.mem_of_getElem? (i := 7) rfl)))
  have ne_NONE_PAYMENT : ¬ (w_NONE = w_PAYMENT) := fun q => by
    have q2 : s.fieldOf? w_NONE "java/lang/Enum" "ordinal" "I" = s.fieldOf? w_PAYMENT "java/lang/Enum" "ordinal" "I" := by rw [q]
    rw [o_NONE, o_PAYMENT] at q2
    simp at q2
  have ne_NONE_PAYMENT_AND_TIME : ¬ (w_NONE = w_PAYMENT_AND_TIME) := fun q => by
    have q2 : s.fieldOf? w_NONE "java/lang/Enum" "ordinal" "I" = s.fieldOf? w_PAYMENT_AND_TIME "java/lang/Enum" "ordinal" "I" := by rw [q]
    rw [o_NONE, o_PAYMENT_AND_TIME] at q2
    simp at q2
  have ne_TIME_PAYMENT : ¬ (w_TIME = w_PAYMENT) := fun q => by
    have q2 : s.fieldOf? w_TIME "java/lang/Enum" "ordinal" "I" = s.fieldOf? w_PAYMENT "java/lang/Enum" "ordinal" "I" := by rw [q]
    rw [o_TIME, o_PAYMENT] at q2
    simp at q2
  have ne_TIME_PAYMENT_AND_TIME : ¬ (w_TIME = w_PAYMENT_AND_TIME) := fun q => by
    have q2 : s.fieldOf? w_TIME "java/lang/Enum" "ordinal" "I" = s.fieldOf? w_PAYMENT_AND_TIME "java/lang/Enum" "ordinal" "I" := by rw [q]
    rw [o_TIME, o_PAYMENT_AND_TIME] at q2
    simp at q2
  have ne_PAYMENT_AND_TIME_PAYMENT : ¬ (w_PAYMENT_AND_TIME = w_PAYMENT) := fun q => by
    have q2 : s.fieldOf? w_PAYMENT_AND_TIME "java/lang/Enum" "ordinal" "I" = s.fieldOf? w_PAYMENT "java/lang/Enum" "ordinal" "I" := by rw [q]
    rw [o_PAYMENT_AND_TIME, o_PAYMENT] at q2
    simp at q2
  have hlaw := own_law i0
  obtain ⟨n, o, h1, h2, h3, v, L, rfl, ⟨hv, N, -⟩, hq⟩ := rm_law l s _ hw tables_1 i0 w_NONE w_PAYMENT w_TIME w_PAYMENT_AND_TIME kc fm l_NONE v_NONE cl_NONE l_PAYMENT v_PAYMENT cl_PAYMENT l_TIME v_TIME cl_TIME l_PAYMENT_AND_TIME v_PAYMENT_AND_TIME cl_PAYMENT_AND_TIME s.heap s.heap.size (Nat.le_refl _) S_NONE E_NONE S_PAYMENT E_PAYMENT S_TIME E_TIME S_PAYMENT_AND_TIME E_PAYMENT_AND_TIME ne_NONE_PAYMENT ne_NONE_PAYMENT_AND_TIME ne_TIME_PAYMENT ne_TIME_PAYMENT_AND_TIME ne_PAYMENT_AND_TIME_PAYMENT S_cs hkc S_fm hfm HL_NONE EL_NONE HV_NONE Ar_NONE hsz_NONE hnn_NONE HL_PAYMENT EL_PAYMENT HC_PAYMENT HV_PAYMENT Ar_PAYMENT hsz_PAYMENT hnn_PAYMENT hat_PAYMENT HL_TIME EL_TIME HC_TIME HV_TIME Ar_TIME hsz_TIME hnn_TIME hat_TIME HL_PAYMENT_AND_TIME EL_PAYMENT_AND_TIME HC_PAYMENT_AND_TIME HV_PAYMENT_AND_TIME Ar_PAYMENT_AND_TIME hsz_PAYMENT_AND_TIME hnn_PAYMENT_AND_TIME hat_PAYMENT_AND_TIME p e ha hc hk s m _ below hf ((Spec.applies_iff_loose hf).mp happ).1 ⟨rfl, State.Warmed39.refl s, rfl⟩ trivial
  rw [hlaw] at hv
  subst hv
  refine ⟨n, _, h1, h2, h3, hpost _ _ _ _ _ _ ⟨Cond.after_iff.mpr rfl, Cond.after_iff.mpr (eq_i res_at (Term.int_eval (1)) rfl), trivial⟩ ⟨hq.1, hq.2.1, (hq.2.2.sift fun y hy => Or.inr (N y hy)).mono (by decide) (by decide)⟩⟩
theorem main_1_1 : Claimed_1_1 := own_comes fun _ _ _ _ _ _ h hF => ⟨h.1, hF⟩
theorem main_1_2 : Claimed_1_2 := own_comes fun _ _ _ _ _ _ h hF => ⟨h.2.1, hF⟩
end Jvm.Pilot.@@N@@
namespace Jvm.Pilot.@@N@@
open Jvm Jvm.ClassFile Sem Op Lib Jvm.Free Jvm.Stand Jvm.Pilot.@@N@@.Jvm.D
/-! MADE BY PROGRAM (witnessworld.py) out of the Statement's table words and the real class files: 18 classes; the members and pool entries that the words name. The judged class is class 1, her method 1. -/
namespace start1
open Jvm.ClassFile
def u (s : String) : CpInfo := .utf8 (stringToUtf16 s)
/-- a pool by its gaps: so many unusable entries, then the entry; so many at the end -/
def gap : Nat → List CpInfo → List CpInfo
  | 0, r => r
  | n + 1, r => .unusable :: gap n r
def poolList (es : List (Nat × CpInfo)) (last : Nat) : List CpInfo := es.foldr (fun e r => gap e.1 (e.2 :: r)) (gap last [])
def pool (es : List (Nat × CpInfo)) (last : Nat) : Array CpInfo := ⟨poolList es last⟩
def fileOf (pool : Array CpInfo) (this : Nat) (attrs : Array Attribute := #[]) (ms : Array MethodInfo := #[]) (fl : Nat := 33) (sup : Nat := 0) (ifs : Array Nat := #[]) (fds : Array FieldInfo := #[]) : ClassFile where
  minorVersion := 0
  majorVersion := 65
  constantPool := pool
  accessFlags := fl
  thisClass := this
  superClass := sup
  interfaces := ifs
  fields := fds
  methods := ms
  attributes := attrs
def plain (name : String) (sup : Option ClassId) : Class where
  name := name
  kind := .ordinary
  loader := none
  accessFlags := 33
  super := sup
  interfaces := #[]
  cf := none
  fields := #[]
  methods := #[]
  instanceTypes := #[]
  staticTypes := #[]
  resolved := #[]
  callSites := []
  init := .initialized
  statics := none
  mirror := none

def pool0 : Array CpInfo := pool [(5, u "<init>"), (0, u "()V"), (1, .class_ 10), (1, u "java/lang/Object")] 113

def k0m0 : Method := { name := "<init>", desc := "()V", sig := { parameters := [], returnType := none }, accessFlags := 1, code := none }
/-- java/lang/Object -/
def k0 : Class := { plain "java/lang/Object" none with
  accessFlags := 33
  interfaces := #[]
  cf := some (fileOf pool0 8 #[] #[{ accessFlags := 1, nameIndex := 5, descriptorIndex := 6, attributes := #[] }] 33 0 #[] #[])
  fields := #[]
  methods := #[k0m0]
  instanceTypes := #[]
  staticTypes := #[]
  resolved := Array.replicate 124 none
  statics := none }

def pool1 : Array CpInfo := pool [(2, .class_ 4), (1, u "java/lang/Object"), (0, u "<init>"), (0, u "()V"), (0, .fieldref 8 9), (0, .class_ 10), (0, .nameAndType 11 12), (0, u "com/example/matchbook/matchbook/model/Contingency"), (0, u "NONE"), (0, u "Lcom/example/matchbook/matchbook/model/Contingency;"), (0, .fieldref 8 14), (0, .nameAndType 15 12), (0, u "PAYMENT"), (0, .fieldref 8 17), (0, .nameAndType 18 12), (0, u "TIME"), (0, .fieldref 8 20), (0, .nameAndType 21 12), (0, u "PAYMENT_AND_TIME"), (0, .methodref 8 23), (0, .nameAndType 24 25), (0, u "paymentBased"), (0, u "()Z"), (0, .methodref 8 27), (0, .nameAndType 28 29), (0, u "label"), (0, u "()Ljava/lang/String;"), (0, .methodref 31 32), (0, .class_ 33), (0, .nameAndType 34 25), (0, u "java/lang/String"), (0, u "isEmpty"), (0, .methodref 31 36), (0, .nameAndType 37 38), (0, u "charAt"), (0, u "(I)C"), (0, .class_ 40), (0, u "com/example/matchbook/matchbook/model/ContingencyPaymentBasedPinLaw"), (2, u "law"), (0, u "(I)Z")] 3

def k1m0 : Method := { name := "<init>", desc := "()V", sig := { parameters := [], returnType := none }, accessFlags := 1, code := none }
def k1c1 : Code := { maxStack := 2, maxLocals := 7, code := code, exceptionTable := #[], attributes := #[] }
def k1m1 : Method := { name := "law", desc := "(I)Z", sig := { parameters := [.int], returnType := some .boolean }, accessFlags := 9, code := some k1c1 }
/-- com/example/matchbook/matchbook/model/ContingencyPaymentBasedPinLaw -/
def k1 : Class := { plain "com/example/matchbook/matchbook/model/ContingencyPaymentBasedPinLaw" (some 0) with
  accessFlags := 49
  interfaces := #[]
  cf := some (fileOf pool1 39 #[] #[{ accessFlags := 1, nameIndex := 5, descriptorIndex := 6, attributes := #[] }, { accessFlags := 9, nameIndex := 43, descriptorIndex := 44, attributes := #[] }] 49 2 #[] #[])
  fields := #[]
  methods := #[k1m0, k1m1]
  instanceTypes := #[]
  staticTypes := #[]
  resolved := Array.replicate 48 none
  statics := none }

def pool2 : Array CpInfo := pool [(1, .class_ 2), (0, u "java/lang/constant/Constable"), (0, .class_ 4), (0, u "java/lang/Object")] 6

/-- java/lang/constant/Constable -/
def k2 : Class := { plain "java/lang/constant/Constable" (some 0) with
  accessFlags := 1537
  interfaces := #[]
  cf := some (fileOf pool2 1 #[] #[] 1537 3 #[] #[])
  fields := #[]
  methods := #[]
  instanceTypes := #[]
  staticTypes := #[]
  resolved := Array.replicate 11 none
  statics := none }

def pool3 : Array CpInfo := pool [(1, .class_ 2), (0, u "java/lang/Comparable"), (0, .class_ 4), (0, u "java/lang/Object")] 7

/-- java/lang/Comparable -/
def k3 : Class := { plain "java/lang/Comparable" (some 0) with
  accessFlags := 1537
  interfaces := #[]
  cf := some (fileOf pool3 1 #[] #[] 1537 3 #[] #[])
  fields := #[]
  methods := #[]
  instanceTypes := #[]
  staticTypes := #[]
  resolved := Array.replicate 12 none
  statics := none }

def pool4 : Array CpInfo := pool [(1, .class_ 2), (0, u "java/io/Serializable"), (0, .class_ 4), (0, u "java/lang/Object")] 2

/-- java/io/Serializable -/
def k4 : Class := { plain "java/io/Serializable" (some 0) with
  accessFlags := 1537
  interfaces := #[]
  cf := some (fileOf pool4 1 #[] #[] 1537 3 #[] #[])
  fields := #[]
  methods := #[]
  instanceTypes := #[]
  staticTypes := #[]
  resolved := Array.replicate 7 none
  statics := none }

def pool5 : Array CpInfo := pool [(2, .class_ 4), (1, u "java/lang/Enum"), (0, u "name"), (0, u "Ljava/lang/String;"), (2, u "ordinal"), (0, u "I"), (1, .class_ 14), (1, u "java/lang/Object"), (4, u "hash"), (86, .class_ 108), (1, u "java/lang/Enum$EnumDesc"), (2, .class_ 112), (0, u "java/lang/constant/Constable"), (0, .class_ 114), (0, u "java/lang/Comparable"), (0, .class_ 116), (0, u "java/io/Serializable")] 87

/-- java/lang/Enum -/
def k5 : Class := { plain "java/lang/Enum" (some 0) with
  accessFlags := 1057
  interfaces := #[2, 3, 4]
  cf := some (fileOf pool5 2 #[.nestMembers #[106]] #[] 1057 12 #[111, 113, 115] #[{ accessFlags := 18, nameIndex := 5, descriptorIndex := 6, attributes := #[] }, { accessFlags := 18, nameIndex := 9, descriptorIndex := 10, attributes := #[] }, { accessFlags := 2, nameIndex := 19, descriptorIndex := 10, attributes := #[] }])
  fields := #[{ name := "name", type := (.object "java/lang/String"), accessFlags := 18, slot := 0, constantValue := 0 }, { name := "ordinal", type := .int, accessFlags := 18, slot := 1, constantValue := 0 }, { name := "hash", type := .int, accessFlags := 2, slot := 2, constantValue := 0 }]
  methods := #[]
  instanceTypes := #[(.object "java/lang/String"), .int, .int]
  staticTypes := #[]
  resolved := Array.replicate 204 none
  statics := none }

def pool6 : Array CpInfo := pool [(1, .class_ 2), (0, u "com/example/matchbook/matchbook/model/Contingency"), (2, u "NONE"), (0, u "Lcom/example/matchbook/matchbook/model/Contingency;"), (0, .fieldref 1 8), (0, .nameAndType 9 6), (0, u "PAYMENT"), (2, u "TIME"), (0, .fieldref 1 14), (0, .nameAndType 15 6), (0, u "PAYMENT_AND_TIME"), (2, u "$VALUES"), (0, u "[Lcom/example/matchbook/matchbook/model/Contingency;"), (6, .class_ 28), (1, u "java/lang/Enum"), (6, .fieldref 1 36), (0, .nameAndType 37 38), (0, u "label"), (0, u "Ljava/lang/String;"), (2, u "paymentBased"), (0, u "()Z"), (17, u "CONTINGENCIES"), (39, u "()Ljava/lang/String;")] 14

def k6c0 : Code := { maxStack := 1, maxLocals := 1, code := prog_37_method_4_code, exceptionTable := #[], attributes := #[] }
def k6m0 : Method := { name := "label", desc := "()Ljava/lang/String;", sig := { parameters := [], returnType := some (.object "java/lang/String") }, accessFlags := 1, code := some k6c0 }
def k6c1 : Code := { maxStack := 2, maxLocals := 1, code := prog_37_method_5_code, exceptionTable := #[], attributes := #[] }
def k6m1 : Method := { name := "paymentBased", desc := "()Z", sig := { parameters := [], returnType := some .boolean }, accessFlags := 1, code := some k6c1 }
/-- com/example/matchbook/matchbook/model/Contingency -/
def k6 : Class := { plain "com/example/matchbook/matchbook/model/Contingency" (some 5) with
  accessFlags := 16433
  interfaces := #[]
  cf := some (fileOf pool6 1 #[] #[{ accessFlags := 1, nameIndex := 37, descriptorIndex := 100, attributes := #[] }, { accessFlags := 1, nameIndex := 41, descriptorIndex := 42, attributes := #[] }] 16433 26 #[] #[{ accessFlags := 16409, nameIndex := 5, descriptorIndex := 6, attributes := #[] }, { accessFlags := 16409, nameIndex := 9, descriptorIndex := 6, attributes := #[] }, { accessFlags := 16409, nameIndex := 12, descriptorIndex := 6, attributes := #[] }, { accessFlags := 16409, nameIndex := 15, descriptorIndex := 6, attributes := #[] }, { accessFlags := 26, nameIndex := 60, descriptorIndex := 19, attributes := #[] }, { accessFlags := 18, nameIndex := 37, descriptorIndex := 38, attributes := #[] }, { accessFlags := 4122, nameIndex := 18, descriptorIndex := 19, attributes := #[] }])
  fields := #[{ name := "NONE", type := (.object "com/example/matchbook/matchbook/model/Contingency"), accessFlags := 16409, slot := 0, constantValue := 0 }, { name := "PAYMENT", type := (.object "com/example/matchbook/matchbook/model/Contingency"), accessFlags := 16409, slot := 1, constantValue := 0 }, { name := "TIME", type := (.object "com/example/matchbook/matchbook/model/Contingency"), accessFlags := 16409, slot := 2, constantValue := 0 }, { name := "PAYMENT_AND_TIME", type := (.object "com/example/matchbook/matchbook/model/Contingency"), accessFlags := 16409, slot := 3, constantValue := 0 }, { name := "CONTINGENCIES", type := (.array (.object "com/example/matchbook/matchbook/model/Contingency")), accessFlags := 26, slot := 4, constantValue := 0 }, { name := "label", type := (.object "java/lang/String"), accessFlags := 18, slot := 3, constantValue := 0 }, { name := "$VALUES", type := (.array (.object "com/example/matchbook/matchbook/model/Contingency")), accessFlags := 4122, slot := 5, constantValue := 0 }]
  methods := #[k6m0, k6m1]
  instanceTypes := #[(.object "java/lang/String"), .int, .int, (.object "java/lang/String")]
  staticTypes := #[(.object "com/example/matchbook/matchbook/model/Contingency"), (.object "com/example/matchbook/matchbook/model/Contingency"), (.object "com/example/matchbook/matchbook/model/Contingency"), (.object "com/example/matchbook/matchbook/model/Contingency"), (.array (.object "com/example/matchbook/matchbook/model/Contingency")), (.array (.object "com/example/matchbook/matchbook/model/Contingency"))]
  resolved := Array.replicate 115 none
  statics := some 0 }

def pool7 : Array CpInfo := pool [(2, .class_ 4), (1, u "java/lang/CharSequence"), (42, .class_ 48), (0, u "java/lang/CharSequence$1CodePointIterator"), (10, .class_ 60), (0, u "java/lang/CharSequence$1CharIterator"), (5, .class_ 67), (0, u "java/lang/Object")] 63

/-- java/lang/CharSequence -/
def k7 : Class := { plain "java/lang/CharSequence" (some 0) with
  accessFlags := 1537
  interfaces := #[]
  cf := some (fileOf pool7 2 #[.nestMembers #[47, 59]] #[] 1537 66 #[] #[])
  fields := #[]
  methods := #[]
  instanceTypes := #[]
  staticTypes := #[]
  resolved := Array.replicate 131 none
  statics := none }

def pool8 : Array CpInfo := pool [(1, .class_ 2), (0, u "java/lang/constant/ConstantDesc"), (0, .class_ 4), (0, u "java/lang/Object")] 32

/-- java/lang/constant/ConstantDesc -/
def k8 : Class := { plain "java/lang/constant/ConstantDesc" (some 0) with
  accessFlags := 1537
  interfaces := #[]
  cf := some (fileOf pool8 1 #[] #[] 1537 3 #[] #[])
  fields := #[]
  methods := #[]
  instanceTypes := #[]
  staticTypes := #[]
  resolved := Array.replicate 37 none
  statics := none }

def pool9 : Array CpInfo := pool [(2, .class_ 4), (1, u "java/lang/Object"), (0, u "<init>"), (0, u "()V"), (2, .fieldref 10 11), (0, .class_ 12), (0, .nameAndType 13 14), (0, u "java/lang/String"), (0, u "value"), (0, u "[B"), (0, .fieldref 10 16), (0, .nameAndType 17 18), (0, u "coder"), (0, u "B"), (2, u "hash"), (0, u "I"), (2, u "hashIsZero"), (0, u "Z"), (11, .fieldref 10 39), (0, .nameAndType 40 26), (0, u "COMPACT_STRINGS"), (66, .class_ 109), (1, u "java/lang/StringLatin1"), (32, u "()Z"), (220, u "([BI)C"), (27, u "(II)V"), (35, u "(I)C"), (64, .methodref 10 493), (0, .nameAndType 494 142), (0, u "isLatin1"), (0, .methodref 107 496), (0, .nameAndType 497 363), (0, u "charAt"), (3, u "checkIndex"), (73, .class_ 576), (0, u "java/lang/CharSequence"), (22, u "CASE_INSENSITIVE_ORDER"), (0, u "Ljava/util/Comparator;"), (91, u "isEmpty"), (360, .fieldref 1054 1055), (0, .class_ 1056), (0, .nameAndType 1057 1058), (0, u "jdk/internal/util/Preconditions"), (0, u "SIOOBE_FORMATTER"), (0, u "Ljava/util/function/BiFunction;"), (0, .methodref 1054 1060), (0, .nameAndType 501 1061), (0, u "(IILjava/util/function/BiFunction;)I"), (39, u "serialPersistentFields"), (0, u "[Ljava/io/ObjectStreamField;"), (0, .class_ 1104), (0, u "java/lang/String$CaseInsensitiveComparator"), (1, .class_ 1107), (0, u "java/io/Serializable"), (0, .class_ 1109), (0, u "java/lang/Comparable"), (0, .class_ 1111), (0, u "java/lang/constant/Constable"), (0, .class_ 1113), (0, u "java/lang/constant/ConstantDesc"), (2, u "serialVersionUID"), (0, u "J"), (3, u "REPL"), (0, u "C"), (2, u "LATIN1"), (1, u "UTF16")] 323

def k9m0 : Method := { name := "<init>", desc := "()V", sig := { parameters := [], returnType := none }, accessFlags := 1, code := none }
def k9c1 : Code := { maxStack := 1, maxLocals := 1, code := jdk_42_method_55_code, exceptionTable := #[], attributes := #[] }
def k9m1 : Method := { name := "isEmpty", desc := "()Z", sig := { parameters := [], returnType := some .boolean }, accessFlags := 1, code := some k9c1 }
def k9c2 : Code := { maxStack := 2, maxLocals := 2, code := jdk_42_method_56_code, exceptionTable := #[], attributes := #[] }
def k9m2 : Method := { name := "charAt", desc := "(I)C", sig := { parameters := [.int], returnType := some .char }, accessFlags := 1, code := some k9c2 }
def k9c3 : Code := { maxStack := 1, maxLocals := 1, code := jdk_42_method_154_code, exceptionTable := #[], attributes := #[] }
def k9m3 : Method := { name := "isLatin1", desc := "()Z", sig := { parameters := [], returnType := some .boolean }, accessFlags := 0, code := some k9c3 }
def k9c4 : Code := { maxStack := 3, maxLocals := 2, code := jdk_42_method_155_code, exceptionTable := #[], attributes := #[] }
def k9m4 : Method := { name := "checkIndex", desc := "(II)V", sig := { parameters := [.int, .int], returnType := none }, accessFlags := 8, code := some k9c4 }
/-- java/lang/String -/
def k9 : Class := { plain "java/lang/String" (some 0) with
  accessFlags := 49
  interfaces := #[4, 3, 7, 2, 8]
  cf := some (fileOf pool9 10 #[.nestMembers #[1103]] #[{ accessFlags := 1, nameIndex := 5, descriptorIndex := 6, attributes := #[] }, { accessFlags := 1, nameIndex := 692, descriptorIndex := 142, attributes := #[] }, { accessFlags := 1, nameIndex := 497, descriptorIndex := 427, attributes := #[] }, { accessFlags := 0, nameIndex := 494, descriptorIndex := 142, attributes := #[] }, { accessFlags := 8, nameIndex := 501, descriptorIndex := 391, attributes := #[] }] 49 2 #[1106, 1108, 575, 1110, 1112] #[{ accessFlags := 18, nameIndex := 13, descriptorIndex := 14, attributes := #[] }, { accessFlags := 18, nameIndex := 17, descriptorIndex := 18, attributes := #[] }, { accessFlags := 2, nameIndex := 21, descriptorIndex := 22, attributes := #[] }, { accessFlags := 2, nameIndex := 25, descriptorIndex := 26, attributes := #[] }, { accessFlags := 26, nameIndex := 1116, descriptorIndex := 1117, attributes := #[] }, { accessFlags := 24, nameIndex := 40, descriptorIndex := 26, attributes := #[] }, { accessFlags := 26, nameIndex := 1101, descriptorIndex := 1102, attributes := #[] }, { accessFlags := 26, nameIndex := 1121, descriptorIndex := 1122, attributes := #[] }, { accessFlags := 25, nameIndex := 599, descriptorIndex := 600, attributes := #[] }, { accessFlags := 24, nameIndex := 1125, descriptorIndex := 18, attributes := #[] }, { accessFlags := 24, nameIndex := 1127, descriptorIndex := 18, attributes := #[] }])
  fields := #[{ name := "value", type := (.array .byte), accessFlags := 18, slot := 0, constantValue := 0 }, { name := "coder", type := .byte, accessFlags := 18, slot := 1, constantValue := 0 }, { name := "hash", type := .int, accessFlags := 2, slot := 2, constantValue := 0 }, { name := "hashIsZero", type := .boolean, accessFlags := 2, slot := 3, constantValue := 0 }, { name := "serialVersionUID", type := .long, accessFlags := 26, slot := 0, constantValue := 0 }, { name := "COMPACT_STRINGS", type := .boolean, accessFlags := 24, slot := 1, constantValue := 0 }, { name := "serialPersistentFields", type := (.array (.object "java/io/ObjectStreamField")), accessFlags := 26, slot := 2, constantValue := 0 }, { name := "REPL", type := .char, accessFlags := 26, slot := 3, constantValue := 0 }, { name := "CASE_INSENSITIVE_ORDER", type := (.object "java/util/Comparator"), accessFlags := 25, slot := 4, constantValue := 0 }, { name := "LATIN1", type := .byte, accessFlags := 24, slot := 5, constantValue := 0 }, { name := "UTF16", type := .byte, accessFlags := 24, slot := 6, constantValue := 0 }]
  methods := #[k9m0, k9m1, k9m2, k9m3, k9m4]
  instanceTypes := #[(.array .byte), .byte, .int, .boolean]
  staticTypes := #[.long, .boolean, (.array (.object "java/io/ObjectStreamField")), .char, (.object "java/util/Comparator"), .byte, .byte]
  resolved := Array.replicate 1451 none
  statics := some 1 }

def pool10 : Array CpInfo := pool [(1, .class_ 2), (0, u "java/lang/String"), (1, .class_ 6), (1, u "java/lang/Object"), (0, u "<init>"), (0, u "()V"), (0, .methodref 1 10), (0, .nameAndType 11 12), (0, u "checkIndex"), (0, u "(II)V"), (1, .class_ 16), (1, u "java/lang/StringLatin1"), (36, u "([BI)C"), (67, u "$assertionsDisabled"), (0, u "Z"), (98, .class_ 223), (1, u "java/lang/StringLatin1$LinesSpliterator"), (28, u "charAt"), (137, .class_ 391), (0, u "java/lang/StringLatin1$CharsSpliterator")] 3

def k10m0 : Method := { name := "<init>", desc := "()V", sig := { parameters := [], returnType := none }, accessFlags := 0, code := none }
def k10c1 : Code := { maxStack := 2, maxLocals := 2, code := jdk_43_method_2_code, exceptionTable := #[], attributes := #[] }
def k10m1 : Method := { name := "charAt", desc := "([BI)C", sig := { parameters := [(.array .byte), .int], returnType := some .char }, accessFlags := 9, code := some k10c1 }
/-- java/lang/StringLatin1 -/
def k10 : Class := { plain "java/lang/StringLatin1" (some 0) with
  accessFlags := 48
  interfaces := #[]
  cf := some (fileOf pool10 14 #[.nestMembers #[390, 221]] #[{ accessFlags := 0, nameIndex := 7, descriptorIndex := 8, attributes := #[] }, { accessFlags := 9, nameIndex := 252, descriptorIndex := 53, attributes := #[] }] 48 4 #[] #[{ accessFlags := 4120, nameIndex := 121, descriptorIndex := 122, attributes := #[] }])
  fields := #[{ name := "$assertionsDisabled", type := .boolean, accessFlags := 4120, slot := 0, constantValue := 0 }]
  methods := #[k10m0, k10m1]
  instanceTypes := #[]
  staticTypes := #[.boolean]
  resolved := Array.replicate 395 none
  statics := none }

def pool11 : Array CpInfo := pool [(2, .class_ 4), (1, u "java/lang/Object"), (0, u "<init>"), (0, u "()V"), (17, .class_ 26), (1, u "jdk/internal/util/Preconditions"), (6, u "checkIndex"), (21, .class_ 56), (0, u "jdk/internal/util/Preconditions$4"), (57, .class_ 115), (0, u "jdk/internal/util/Preconditions$1"), (7, u "SIOOBE_FORMATTER"), (0, u "Ljava/util/function/BiFunction;"), (0, .class_ 126), (0, u "jdk/internal/util/Preconditions$2"), (3, u "AIOOBE_FORMATTER"), (0, .class_ 132), (0, u "jdk/internal/util/Preconditions$3"), (3, u "IOOBE_FORMATTER"), (41, u "(IILjava/util/function/BiFunction;)I")] 15

def k11m0 : Method := { name := "<init>", desc := "()V", sig := { parameters := [], returnType := none }, accessFlags := 1, code := none }
def k11c1 : Code := { maxStack := 3, maxLocals := 3, code := jdk_41_method_11_code, exceptionTable := #[], attributes := #[] }
def k11m1 : Method := { name := "checkIndex", desc := "(IILjava/util/function/BiFunction;)I", sig := { parameters := [.int, .int, (.object "java/util/function/BiFunction")], returnType := some .int }, accessFlags := 9, code := some k11c1 }
/-- jdk/internal/util/Preconditions -/
def k11 : Class := { plain "jdk/internal/util/Preconditions" (some 0) with
  accessFlags := 33
  interfaces := #[]
  cf := some (fileOf pool11 24 #[.nestMembers #[55, 131, 125, 114]] #[{ accessFlags := 1, nameIndex := 5, descriptorIndex := 6, attributes := #[] }, { accessFlags := 9, nameIndex := 33, descriptorIndex := 178, attributes := #[] }] 33 2 #[] #[{ accessFlags := 25, nameIndex := 123, descriptorIndex := 124, attributes := #[] }, { accessFlags := 25, nameIndex := 130, descriptorIndex := 124, attributes := #[] }, { accessFlags := 25, nameIndex := 136, descriptorIndex := 124, attributes := #[] }])
  fields := #[{ name := "SIOOBE_FORMATTER", type := (.object "java/util/function/BiFunction"), accessFlags := 25, slot := 0, constantValue := 0 }, { name := "AIOOBE_FORMATTER", type := (.object "java/util/function/BiFunction"), accessFlags := 25, slot := 1, constantValue := 0 }, { name := "IOOBE_FORMATTER", type := (.object "java/util/function/BiFunction"), accessFlags := 25, slot := 2, constantValue := 0 }]
  methods := #[k11m0, k11m1]
  instanceTypes := #[]
  staticTypes := #[(.object "java/util/function/BiFunction"), (.object "java/util/function/BiFunction"), (.object "java/util/function/BiFunction")]
  resolved := Array.replicate 194 none
  statics := some 2 }

def pool12 : Array CpInfo := pool [(9, u "<init>"), (6, .class_ 18), (1, u "java/lang/Object"), (0, u "()V"), (1, .class_ 23), (1, u "jdk/internal/util/ArraysSupport"), (0, u "LOG2_ARRAY_LONG_INDEX_SCALE"), (0, u "I"), (2, u "U"), (0, u "Ljdk/internal/misc/Unsafe;"), (8, u "BIG_ENDIAN"), (0, u "Z"), (8, u "LOG2_BYTE_BIT_SIZE"), (4, u "LOG2_ARRAY_INT_INDEX_SCALE"), (54, u "JLA"), (0, u "Ljdk/internal/access/JavaLangAccess;"), (11, u "LOG2_ARRAY_BOOLEAN_INDEX_SCALE"), (9, u "LOG2_ARRAY_BYTE_INDEX_SCALE"), (5, u "LOG2_ARRAY_CHAR_INDEX_SCALE"), (5, u "LOG2_ARRAY_SHORT_INDEX_SCALE"), (18, u "LOG2_ARRAY_FLOAT_INDEX_SCALE"), (24, u "LOG2_ARRAY_DOUBLE_INDEX_SCALE"), (89, u "T_BOOLEAN"), (2, u "T_CHAR"), (1, u "T_FLOAT"), (1, u "T_DOUBLE"), (1, u "T_BYTE"), (1, u "T_SHORT"), (1, u "T_INT"), (1, u "T_LONG"), (1, u "SOFT_MAX_ARRAY_LENGTH")] 83

def k12m0 : Method := { name := "<init>", desc := "()V", sig := { parameters := [], returnType := none }, accessFlags := 2, code := none }
/-- jdk/internal/util/ArraysSupport -/
def k12 : Class := { plain "jdk/internal/util/ArraysSupport" (some 0) with
  accessFlags := 33
  interfaces := #[]
  cf := some (fileOf pool12 21 #[] #[{ accessFlags := 2, nameIndex := 9, descriptorIndex := 19, attributes := #[] }] 33 16 #[] #[{ accessFlags := 24, nameIndex := 28, descriptorIndex := 29, attributes := #[] }, { accessFlags := 26, nameIndex := 38, descriptorIndex := 39, attributes := #[] }, { accessFlags := 25, nameIndex := 121, descriptorIndex := 25, attributes := #[] }, { accessFlags := 25, nameIndex := 131, descriptorIndex := 25, attributes := #[] }, { accessFlags := 25, nameIndex := 137, descriptorIndex := 25, attributes := #[] }, { accessFlags := 25, nameIndex := 143, descriptorIndex := 25, attributes := #[] }, { accessFlags := 25, nameIndex := 53, descriptorIndex := 25, attributes := #[] }, { accessFlags := 25, nameIndex := 24, descriptorIndex := 25, attributes := #[] }, { accessFlags := 25, nameIndex := 162, descriptorIndex := 25, attributes := #[] }, { accessFlags := 25, nameIndex := 187, descriptorIndex := 25, attributes := #[] }, { accessFlags := 26, nameIndex := 48, descriptorIndex := 25, attributes := #[] }, { accessFlags := 25, nameIndex := 277, descriptorIndex := 25, attributes := #[] }, { accessFlags := 25, nameIndex := 280, descriptorIndex := 25, attributes := #[] }, { accessFlags := 25, nameIndex := 282, descriptorIndex := 25, attributes := #[] }, { accessFlags := 25, nameIndex := 284, descriptorIndex := 25, attributes := #[] }, { accessFlags := 25, nameIndex := 286, descriptorIndex := 25, attributes := #[] }, { accessFlags := 25, nameIndex := 288, descriptorIndex := 25, attributes := #[] }, { accessFlags := 25, nameIndex := 290, descriptorIndex := 25, attributes := #[] }, { accessFlags := 25, nameIndex := 292, descriptorIndex := 25, attributes := #[] }, { accessFlags := 26, nameIndex := 108, descriptorIndex := 109, attributes := #[] }, { accessFlags := 25, nameIndex := 294, descriptorIndex := 25, attributes := #[] }])
  fields := #[{ name := "U", type := (.object "jdk/internal/misc/Unsafe"), accessFlags := 24, slot := 0, constantValue := 0 }, { name := "BIG_ENDIAN", type := .boolean, accessFlags := 26, slot := 1, constantValue := 0 }, { name := "LOG2_ARRAY_BOOLEAN_INDEX_SCALE", type := .int, accessFlags := 25, slot := 2, constantValue := 0 }, { name := "LOG2_ARRAY_BYTE_INDEX_SCALE", type := .int, accessFlags := 25, slot := 3, constantValue := 0 }, { name := "LOG2_ARRAY_CHAR_INDEX_SCALE", type := .int, accessFlags := 25, slot := 4, constantValue := 0 }, { name := "LOG2_ARRAY_SHORT_INDEX_SCALE", type := .int, accessFlags := 25, slot := 5, constantValue := 0 }, { name := "LOG2_ARRAY_INT_INDEX_SCALE", type := .int, accessFlags := 25, slot := 6, constantValue := 0 }, { name := "LOG2_ARRAY_LONG_INDEX_SCALE", type := .int, accessFlags := 25, slot := 7, constantValue := 0 }, { name := "LOG2_ARRAY_FLOAT_INDEX_SCALE", type := .int, accessFlags := 25, slot := 8, constantValue := 0 }, { name := "LOG2_ARRAY_DOUBLE_INDEX_SCALE", type := .int, accessFlags := 25, slot := 9, constantValue := 0 }, { name := "LOG2_BYTE_BIT_SIZE", type := .int, accessFlags := 26, slot := 10, constantValue := 0 }, { name := "T_BOOLEAN", type := .int, accessFlags := 25, slot := 11, constantValue := 0 }, { name := "T_CHAR", type := .int, accessFlags := 25, slot := 12, constantValue := 0 }, { name := "T_FLOAT", type := .int, accessFlags := 25, slot := 13, constantValue := 0 }, { name := "T_DOUBLE", type := .int, accessFlags := 25, slot := 14, constantValue := 0 }, { name := "T_BYTE", type := .int, accessFlags := 25, slot := 15, constantValue := 0 }, { name := "T_SHORT", type := .int, accessFlags := 25, slot := 16, constantValue := 0 }, { name := "T_INT", type := .int, accessFlags := 25, slot := 17, constantValue := 0 }, { name := "T_LONG", type := .int, accessFlags := 25, slot := 18, constantValue := 0 }, { name := "JLA", type := (.object "jdk/internal/access/JavaLangAccess"), accessFlags := 26, slot := 19, constantValue := 0 }, { name := "SOFT_MAX_ARRAY_LENGTH", type := .int, accessFlags := 25, slot := 20, constantValue := 0 }]
  methods := #[k12m0]
  instanceTypes := #[]
  staticTypes := #[(.object "jdk/internal/misc/Unsafe"), .boolean, .int, .int, .int, .int, .int, .int, .int, .int, .int, .int, .int, .int, .int, .int, .int, .int, .int, (.object "jdk/internal/access/JavaLangAccess"), .int]
  resolved := Array.replicate 378 none
  statics := none }

def pool13 : Array CpInfo := pool [(1, u "java/lang/Cloneable"), (0, .class_ 1), (0, u "java/lang/Object"), (0, .class_ 3)] 3

/-- java/lang/Cloneable -/
def k13 : Class := { plain "java/lang/Cloneable" (some 0) with
  accessFlags := 1537
  interfaces := #[]
  cf := some (fileOf pool13 2 #[] #[] 1537 4 #[] #[])
  fields := #[]
  methods := #[]
  instanceTypes := #[]
  staticTypes := #[]
  resolved := Array.replicate 8 none
  statics := none }

/-- the primitive byte -/
def k14 : Class := { plain "byte" none with kind := .primitive 'B', accessFlags := 0x411 }
/-- [B -/
def k15 : Class := { plain "[B" (some 0) with kind := .array 14 .byte, interfaces := #[13, 4], accessFlags := 1041 }

/-- the primitive int -/
def k16 : Class := { plain "int" none with kind := .primitive 'I', accessFlags := 0x411 }
/-- [I -/
def k17 : Class := { plain "[I" (some 0) with kind := .array 16 .int, interfaces := #[13, 4], accessFlags := 1041 }

def heap : Heap := #[{ cls := 6, slots := #[.ref 3, .ref 4, .ref 10, .ref 5, .null, .null], vm := .statics 6 },
  { cls := 9, slots := #[.long 0, .int 1, .null, .int 0, .null, .int 0, .int 0], vm := .statics 9 },
  { cls := 11, slots := #[.null, .null, .null], vm := .statics 11 },
  { cls := 6, slots := #[.null, .int 0, .int 0, .ref 6], vm := .none },
  { cls := 6, slots := #[.null, .int 1, .int 0, .ref 13], vm := .none },
  { cls := 6, slots := #[.null, .int 3, .int 0, .ref 8], vm := .none },
  { cls := 9, slots := #[.ref 7, .int 0, .int 0, .int 0], vm := .none },
  { cls := 15, slots := #[], vm := .none },
  { cls := 9, slots := #[.ref 9, .int 0, .int 0, .int 0], vm := .none },
  { cls := 15, slots := #[.int 112, .int 97, .int 121, .int 109, .int 101, .int 110, .int 116, .int 43, .int 116, .int 105, .int 109, .int 101], vm := .none },
  { cls := 6, slots := #[.null, .int 2, .int 0, .ref 11], vm := .none },
  { cls := 9, slots := #[.ref 12, .int 0, .int 0, .int 0], vm := .none },
  { cls := 15, slots := #[.int 116, .int 105, .int 109, .int 101], vm := .none },
  { cls := 9, slots := #[.ref 14, .int 0, .int 0, .int 0], vm := .none },
  { cls := 15, slots := #[.int 112, .int 97, .int 121, .int 109, .int 101, .int 110, .int 116], vm := .none }]
def classes : Array Class := #[k0, k1, k2, k3, k4, k5, k6, k7, k8, k9, k10, k11, k12, k13, k14, k15, k16, k17]
def interned : List (Array UInt16 × Addr) := []
def slotsUsed : Nat := 71
def theMethod : MethodId := ⟨1, 1⟩
def args0 : Array Value := #[.int 5]
def aboutOver (below : List Frame) : State where
  vm := { classes := classes, interned := interned.toArray }
  heap := heap
  slotsUsed := slotsUsed
  threads := #[{ frames := .invoking theMethod args0 :: below }]
def below0 : List Frame := [.native { method := ⟨0, 0⟩, args := #[] }]
def about1 : State := aboutOver below0
def p0 : Program := .bare "" "" ""
def e0 : Env := launch0.env 0 0 0
theorem w_frames : about1.frames = Frame.invoking theMethod args0 :: below0 := rfl
set_option maxRecDepth 65536 in
theorem w_args : argsFit about1.vm theMethod args0 = true := by decide +kernel
set_option maxRecDepth 65536 in
theorem w_heap : heapFits about1 = true := by decide +kernel
set_option maxRecDepth 65536 in
theorem w_runnable : about1.curStatus? = some .runnable := by decide +kernel
set_option maxRecDepth 65536 in
theorem w_alone : about1.alone = true := by decide +kernel
set_option maxRecDepth 65536 in
theorem w_named : about1.methodNamed? x = some theMethod := by decide +kernel
set_option maxRecDepth 65536 in
theorem w_hears : about1.hears theMethod below0 = true := by decide +kernel
set_option maxRecDepth 65536 in
theorem w_ripe : about1.ripe theMethod args0 below0 = true := by decide +kernel
theorem w_running : about1.status = .running := rfl
set_option maxRecDepth 65536 in
theorem w_room : about1.hasRoom e0.platform room_1 = true :=
  launch0.hasRoom_least _ room_1 (by decide +kernel) (by decide +kernel) (by decide +kernel) (by decide +kernel) (by decide +kernel) (by decide +kernel)
theorem allAtoms_all (ts : List Jvm.Cond) (a : Array Jvm.Value) (st : Jvm.State) : (allAtoms ts).before a st = ts.all (fun c => c.before a st) := by
  induction ts with
  | nil => rfl
  | cons c t ih =>
    show (Jvm.Cond.and c (allAtoms t)).before a st = _
    rw [Jvm.Cond.before_and, ih, List.all_cons]
def words1 : List Jvm.Cond := Jvm.Cond.code x code maxLocals ret :: tables_1
/-- a 'code' word, met by the world's own term for the bytes: nothing is compared byte by byte -/
theorem code_word {y : MethodName} {bytes : ByteArray} {mx : Nat} {rt : Option FieldType} {a : Array Value} {s : State} {m : MethodId} {meth : Method} {c : Code} (h1 : s.methodNamed? y = some m) (h2 : s.vm.method? m = some meth) (h3 : meth.code = some c) (h4 : c.code = bytes)
    (h5 : (c.maxLocals == mx && c.exceptionTable.isEmpty && decide (c.maxStack ≤ mostOperands) && decide (meth.sig.returnType = rt) && !meth.locks && decide (parseMethodDescriptor y.desc = some meth.sig)) = true) : (Jvm.Cond.code y bytes mx rt).before a s = true := by
  simp only [Bool.and_eq_true, beq_iff_eq, Bool.not_eq_true', decide_eq_true_eq] at h5
  obtain ⟨⟨⟨⟨⟨g1, g2⟩, g3⟩, g4⟩, g5⟩, g6⟩ := h5
  simp [Cond.before, Cond.holds, Cond.value, h1, h2, h3, h4, g1, g2, g3, g4, g5, g6]
def isCode : Jvm.Cond → Bool
  | .code _ _ _ _ => true
  | _ => false
theorem all_split {L : List Jvm.Cond} {P : Jvm.Cond → Bool} (h1 : L.all (fun c => isCode c || P c) = true) (h2 : ∀ c ∈ L.filter isCode, P c = true) : L.all P = true := by
  refine List.all_eq_true.mpr fun c hc => ?_
  have h := List.all_eq_true.mp h1 c hc
  rcases Bool.eq_false_or_eq_true (isCode c) with hi | hi
  · exact h2 c (List.mem_filter.mpr ⟨hc, hi⟩)
  · simpa [hi] using h
set_option maxRecDepth 65536 in
theorem w_c0 : (Jvm.Cond.code x code maxLocals ret).before args0 about1 = true := code_word (m := ⟨1, 1⟩) (meth := k1m1) (c := k1c1) (by decide +kernel) rfl rfl rfl (by decide +kernel)
set_option maxRecDepth 65536 in
theorem w_c1 : (Jvm.Cond.code ({ cls := "com/example/matchbook/matchbook/model/Contingency", name := "paymentBased", desc := "()Z" } : Jvm.MethodName) prog_37_method_5_code (1 : Nat) (Option.some Jvm.ClassFile.FieldType.boolean)).before args0 about1 = true := code_word (m := ⟨6, 1⟩) (meth := k6m1) (c := k6c1) (by decide +kernel) rfl rfl rfl (by decide +kernel)
set_option maxRecDepth 65536 in
theorem w_c2 : (Jvm.Cond.code ({ cls := "com/example/matchbook/matchbook/model/Contingency", name := "label", desc := "()Ljava/lang/String;" } : Jvm.MethodName) prog_37_method_4_code (1 : Nat) (Option.some (Jvm.ClassFile.FieldType.object "java/lang/String"))).before args0 about1 = true := code_word (m := ⟨6, 0⟩) (meth := k6m0) (c := k6c0) (by decide +kernel) rfl rfl rfl (by decide +kernel)
set_option maxRecDepth 65536 in
theorem w_c3 : (Jvm.Cond.code ({ cls := "java/lang/String", name := "isEmpty", desc := "()Z" } : Jvm.MethodName) jdk_42_method_55_code (1 : Nat) (Option.some Jvm.ClassFile.FieldType.boolean)).before args0 about1 = true := code_word (m := ⟨9, 1⟩) (meth := k9m1) (c := k9c1) (by decide +kernel) rfl rfl rfl (by decide +kernel)
set_option maxRecDepth 65536 in
theorem w_c4 : (Jvm.Cond.code ({ cls := "java/lang/String", name := "charAt", desc := "(I)C" } : Jvm.MethodName) jdk_42_method_56_code (2 : Nat) (Option.some Jvm.ClassFile.FieldType.char)).before args0 about1 = true := code_word (m := ⟨9, 2⟩) (meth := k9m2) (c := k9c2) (by decide +kernel) rfl rfl rfl (by decide +kernel)
set_option maxRecDepth 65536 in
theorem w_c5 : (Jvm.Cond.code ({ cls := "java/lang/String", name := "isLatin1", desc := "()Z" } : Jvm.MethodName) jdk_42_method_154_code (1 : Nat) (Option.some Jvm.ClassFile.FieldType.boolean)).before args0 about1 = true := code_word (m := ⟨9, 3⟩) (meth := k9m3) (c := k9c3) (by decide +kernel) rfl rfl rfl (by decide +kernel)
set_option maxRecDepth 65536 in
theorem w_c6 : (Jvm.Cond.code ({ cls := "java/lang/StringLatin1", name := "charAt", desc := "([BI)C" } : Jvm.MethodName) jdk_43_method_2_code (2 : Nat) (Option.some Jvm.ClassFile.FieldType.char)).before args0 about1 = true := code_word (m := ⟨10, 1⟩) (meth := k10m1) (c := k10c1) (by decide +kernel) rfl rfl rfl (by decide +kernel)
set_option maxRecDepth 65536 in
theorem w_c7 : (Jvm.Cond.code ({ cls := "java/lang/String", name := "checkIndex", desc := "(II)V" } : Jvm.MethodName) jdk_42_method_155_code (2 : Nat) (Option.none : Option Jvm.ClassFile.FieldType)).before args0 about1 = true := code_word (m := ⟨9, 4⟩) (meth := k9m4) (c := k9c4) (by decide +kernel) rfl rfl rfl (by decide +kernel)
set_option maxRecDepth 65536 in
theorem w_c8 : (Jvm.Cond.code ({ cls := "jdk/internal/util/Preconditions", name := "checkIndex", desc := "(IILjava/util/function/BiFunction;)I" } : Jvm.MethodName) jdk_41_method_11_code (3 : Nat) (Option.some Jvm.ClassFile.FieldType.int)).before args0 about1 = true := code_word (m := ⟨11, 1⟩) (meth := k11m1) (c := k11c1) (by decide +kernel) rfl rfl rfl (by decide +kernel)
def codes1 : List Jvm.Cond := [Jvm.Cond.code x code maxLocals ret, Jvm.Cond.code ({ cls := "com/example/matchbook/matchbook/model/Contingency", name := "paymentBased", desc := "()Z" } : Jvm.MethodName) prog_37_method_5_code (1 : Nat) (Option.some Jvm.ClassFile.FieldType.boolean), Jvm.Cond.code ({ cls := "com/example/matchbook/matchbook/model/Contingency", name := "label", desc := "()Ljava/lang/String;" } : Jvm.MethodName) prog_37_method_4_code (1 : Nat) (Option.some (Jvm.ClassFile.FieldType.object "java/lang/String")), Jvm.Cond.code ({ cls := "java/lang/String", name := "isEmpty", desc := "()Z" } : Jvm.MethodName) jdk_42_method_55_code (1 : Nat) (Option.some Jvm.ClassFile.FieldType.boolean), Jvm.Cond.code ({ cls := "java/lang/String", name := "charAt", desc := "(I)C" } : Jvm.MethodName) jdk_42_method_56_code (2 : Nat) (Option.some Jvm.ClassFile.FieldType.char), Jvm.Cond.code ({ cls := "java/lang/String", name := "isLatin1", desc := "()Z" } : Jvm.MethodName) jdk_42_method_154_code (1 : Nat) (Option.some Jvm.ClassFile.FieldType.boolean), Jvm.Cond.code ({ cls := "java/lang/StringLatin1", name := "charAt", desc := "([BI)C" } : Jvm.MethodName) jdk_43_method_2_code (2 : Nat) (Option.some Jvm.ClassFile.FieldType.char), Jvm.Cond.code ({ cls := "java/lang/String", name := "checkIndex", desc := "(II)V" } : Jvm.MethodName) jdk_42_method_155_code (2 : Nat) (Option.none : Option Jvm.ClassFile.FieldType), Jvm.Cond.code ({ cls := "jdk/internal/util/Preconditions", name := "checkIndex", desc := "(IILjava/util/function/BiFunction;)I" } : Jvm.MethodName) jdk_41_method_11_code (3 : Nat) (Option.some Jvm.ClassFile.FieldType.int)]
set_option maxRecDepth 65536 in
theorem codes_eq : words1.filter isCode = codes1 := rfl
theorem w_codes : ∀ c ∈ words1.filter isCode, c.before args0 about1 = true := by
  rw [codes_eq]
  intro c hc
  simp only [codes1, List.mem_cons, List.not_mem_nil, or_false] at hc
  rcases hc with rfl | rfl | rfl | rfl | rfl | rfl | rfl | rfl | rfl
  · exact w_c0
  · exact w_c1
  · exact w_c2
  · exact w_c3
  · exact w_c4
  · exact w_c5
  · exact w_c6
  · exact w_c7
  · exact w_c8
set_option maxRecDepth 65536 in
theorem w_t1 : (words1.take 24).all (fun c => isCode c || c.before args0 about1) = true := by decide +kernel
set_option maxRecDepth 65536 in
theorem w_t2 : ((words1.drop 24).take 24).all (fun c => isCode c || c.before args0 about1) = true := by decide +kernel
set_option maxRecDepth 65536 in
theorem w_t3 : ((words1.drop 24).drop 24).all (fun c => isCode c || c.before args0 about1) = true := by decide +kernel
theorem w_tables : (allAtoms (Jvm.Cond.code x code maxLocals ret :: tables_1)).before args0 about1 = true := by
  rw [allAtoms_all]
  show words1.all (fun c => c.before args0 about1) = true
  refine all_split ?_ w_codes
  rw [← List.take_append_drop 24 words1, List.all_append, w_t1, ← List.take_append_drop 24 (words1.drop 24), List.all_append, w_t2, w_t3]
  rfl
set_option maxRecDepth 65536 in
theorem w_rest : rest_1_c.before args0 about1 = true := by decide +kernel
set_option maxRecDepth 65536 in
theorem w_case : (Jvm.Cond.and given_1 narrow_1).before args0 about1 = true := by decide +kernel
theorem w_applies : (headSpec (Jvm.Cond.code x code maxLocals ret :: tables_1) room_1).applies x e0.platform about1 = true :=
  (Spec.applies_iff w_frames).mpr ⟨w_running, w_runnable, w_alone, w_named, w_hears, w_ripe, w_room, w_tables⟩
theorem atStart : AtStart classFile x code maxLocals ret World_1 tables_1 room_1 Calls_1 rest_1 Pre_1 launch0 p0 e0 about1 theMethod args0 below0 :=
  ⟨lists_1, trivial, launch0.admits_env _ _ _, launch0.least_env, fairChoices_fair.cas, fairChoices_fair.clock, w_frames, w_args, w_heap, w_applies, trivial, w_rest, w_case⟩
end start1
theorem witness_1 : WitnessClaimed_1 := ⟨start1.p0, start1.e0, start1.about1, start1.theMethod, start1.args0, start1.below0, start1.atStart⟩
end Jvm.Pilot.@@N@@
