import JvmDerived
import JvmDerived.Pilot.@@N@@Statement
import JvmDerived.Pilot.@@N@@Code
set_option linter.unusedVariables false
set_option linter.unusedSimpArgs false
@@BLOCK:NumsL.lean.txt@@
namespace Jvm.Pilot.@@N@@
open Jvm Jvm.ClassFile Sem Op Lib Jvm.Free Jvm.Stand Jvm.LawKit Jvm.RoadKit Bundle Jvm.Pilot.@@N@@.Jvm.D
theorem own_retI {p : Program} {l : Launch} {e : Env} {R : Room} {s : State} {m : MethodId} {args : Array Value} {below : List Frame} {meth : Method} {c : Code} {T : State} {locs : List Loc} {cells slots : Nat} (X : Stand p l e R s m args below meth c T locs cells slots) (hx : p.tables.exec = Jvm.exec) {pc : Nat} {Ls : Array Slot} {z : Int32} {rest : List Value} (hret : meth.sig.returnType = some .int) (hd : decode c.code pc = .ok (.ireturn, 1)) {fs : List Frame}
    (hl : ∀ (f : JFrame) (acts : List Action), f.method = m → f.locked = none → f.entered = [] → (doReturn e (T.setTop f) acts (some (.int z))).1 = T.setFrames fs) : Steps p.tables e below (T.setTop (mkF m pc Ls (.int z :: rest))) (T.setFrames fs) :=
  retOut X hx hret rfl (Or.inl ⟨rfl, Or.inl rfl, z, rfl⟩) hd hl
theorem own_retA {p : Program} {l : Launch} {e : Env} {R : Room} {s : State} {m : MethodId} {args : Array Value} {below : List Frame} {meth : Method} {c : Code} {T : State} {locs : List Loc} {cells slots : Nat} (X : Stand p l e R s m args below meth c T locs cells slots) (hx : p.tables.exec = Jvm.exec) {pc : Nat} {Ls : Array Slot} {w : Value} {t : FieldType} {rest : List Value} (hret : meth.sig.returnType = some t) (ht : t.isReference = true) (hw : w.isRef = true) (hn : narrow t w = w) (hd : decode c.code pc = .ok (.areturn, 1)) {fs : List Frame}
    (hl : ∀ (f : JFrame) (acts : List Action), f.method = m → f.locked = none → f.entered = [] → (doReturn e (T.setTop f) acts (some w)).1 = T.setFrames fs) : Steps p.tables e below (T.setTop (mkF m pc Ls (w :: rest))) (T.setFrames fs) :=
  retOut X hx hret hn (Or.inr (Or.inr (Or.inr (Or.inr ⟨rfl, ht, hw⟩)))) hd hl
theorem own_retJ {p : Program} {l : Launch} {e : Env} {R : Room} {s : State} {m : MethodId} {args : Array Value} {below : List Frame} {meth : Method} {c : Code} {T : State} {locs : List Loc} {cells slots : Nat} (X : Stand p l e R s m args below meth c T locs cells slots) (hx : p.tables.exec = Jvm.exec) {pc : Nat} {Ls : Array Slot} {z : Int64} {rest : List Value} (hret : meth.sig.returnType = some .long) (hd : decode c.code pc = .ok (.lreturn, 1)) {fs : List Frame}
    (hl : ∀ (f : JFrame) (acts : List Action), f.method = m → f.locked = none → f.entered = [] → (doReturn e (T.setTop f) acts (some (.long z))).1 = T.setFrames fs) : Steps p.tables e below (T.setTop (mkF m pc Ls (.long z :: rest))) (T.setFrames fs) :=
  retOut X hx hret rfl (Or.inr (Or.inl ⟨rfl, rfl, z, rfl⟩)) hd hl
theorem own_exttr {h0 h h' : Heap} (E : Ext h0 h) (E' : Ext h h') : Ext h0 h' := ⟨Nat.le_trans E.1 E'.1, fun a c q => E'.2 _ _ (E.2 _ _ q)⟩
theorem own_extwr {h0 h h' : Heap} {a : Addr} {sl : Nat} {v : Value} (E : Ext h0 h) (W : Wr h h' a sl v) (q : h0.size ≤ a) : Ext h0 h' := by
  refine ⟨Nat.le_trans E.1 (Nat.le_of_eq W.size.symm), fun x c hc => ?_⟩
  obtain ⟨c', e1, -, -, -, e5, -⟩ := wr_at W (E.2 x c hc)
  have hx : x < h0.size := (Array.getElem?_eq_some_iff.mp hc).1
  rw [e5 (Nat.ne_of_lt (Nat.lt_of_lt_of_le hx q))] at e1
  exact e1
theorem own_wmono {s t : State} {o : Outcome} {L : List Loc} {k n k' n' : Nat} (h : ReturnedEndW s o t L k n) (hk : k ≤ k') (hn : n ≤ n') : ReturnedEndW s o t L k' n' := ⟨h.1, h.2.1, h.2.2.1, h.2.2.2.mono hk hn⟩
theorem own_strAtoms {Z : State} {a0 : Array Value} (w1 : (Jvm.Cond.initialized "java/lang/String").before a0 Z = true) (w2 : (Jvm.Cond.instantiable "java/lang/String" 4).before a0 Z = true) (w3 : (Jvm.Cond.arrayClass .byte).before a0 Z = true) (w4 : (Jvm.Cond.laysFinal "java/lang/String" "java/lang/String" "value" "[B").before a0 Z = true) (w5 : (Jvm.Cond.laysFinal "java/lang/String" "java/lang/String" "coder" "B").before a0 Z = true) (w6 : (Jvm.Cond.soleField "java/lang/String" "value").before a0 Z = true) (w7 : (Jvm.Cond.soleField "java/lang/String" "coder").before a0 Z = true) : ∀ a ∈ Bundle.stringAtoms, a.before a0 Z = true := by
  intro a ha
  simp only [Bundle.stringAtoms, List.mem_cons, List.not_mem_nil, or_false] at ha
  rcases ha with rfl | rfl | rfl | rfl | rfl | rfl | rfl <;> assumption
theorem own_extkeep {h0 h h' : Heap} {a : Addr} (E : Ext h0 h) (K : Keep h h' [a]) (q : h0.size ≤ a) : Ext h0 h' := ⟨Nat.le_trans E.1 K.1, fun x c hc => K.2.1 x c (E.2 x c hc) (fun hm => absurd (List.mem_singleton.mp hm) (Nat.ne_of_lt (Nat.lt_of_lt_of_le (Array.getElem?_eq_some_iff.mp hc).1 q)))⟩
theorem own_fld2 {Z : State} {h : Heap} {a : Addr} {C O n d O1 n1 d1 : String} {v1 : Value} {a0 : Array Value} {k : Nat} (E : Exa Z h a C) (F : Fld Z h a O1 n1 d1 v1) (L : Laid Z a0 C O n d) (wi : (Jvm.Cond.instantiable C k).before a0 Z = true) : ∃ v, Fld Z h a O n d v := by
  obtain ⟨cell, kc, h1, h2, h3, h4, h5⟩ := E
  obtain ⟨cell', cf', k', i', f', g1, -, -, g4, g5, -, -⟩ := F
  cases h1.symm.trans g1
  obtain ⟨c, k2, cf, kf, i, f, a1, a2, a3, a4, a5, a6, -⟩ := L.spec
  cases h2.symm.trans a1
  cases h3.symm.trans a2
  obtain ⟨c2, k3, i1, i2, i3, -⟩ := Cond.instantiable_spec wi
  cases h2.symm.trans i1
  cases h3.symm.trans i2
  have hs := h5 i3
  have hlt : f.slot < cell.slots.size := by rw [hs]; exact (Array.getElem?_eq_some_iff.mp a6).1
  exact ⟨cell.slots[f.slot], cell, cf, kf, i, f, h1, a3, a4, g4, g5, a5, Array.getElem?_eq_getElem hlt⟩
theorem own_retD {p : Program} {l : Launch} {e : Env} {R : Room} {s : State} {m : MethodId} {args : Array Value} {below : List Frame} {meth : Method} {c : Code} {T : State} {locs : List Loc} {cells slots : Nat} (X : Stand p l e R s m args below meth c T locs cells slots) (hx : p.tables.exec = Jvm.exec) {pc : Nat} {Ls : Array Slot} {z : UInt64} {rest : List Value} (hret : meth.sig.returnType = some .double) (hd : decode c.code pc = .ok (.dreturn, 1)) {fs : List Frame}
    (hl : ∀ (f : JFrame) (acts : List Action), f.method = m → f.locked = none → f.entered = [] → (doReturn e (T.setTop f) acts (some (.double z))).1 = T.setFrames fs) : Steps p.tables e below (T.setTop (mkF m pc Ls (.double z :: rest))) (T.setFrames fs) :=
  retOut X hx hret rfl (Or.inr (Or.inr (Or.inl ⟨rfl, rfl, z, rfl⟩))) hd hl
theorem own_eqk {args : Array Value} {first s : State} {o : Option Outcome} {idx : List Nat} {t : Term} {k : Int32} (h : (Jvm.Cond.eq t (.int k)).value args first o s idx = some true) : t.eval args first o idx s = some (.int k) := by
  have hk : (Term.int k).eval args first o idx s = some (.int k) := Term.int_eval k
  cases ht : t.eval args first o idx s with
  | none => simp [Cond.value, ht] at h
  | some x => cases x <;> simp [Cond.value, ht, hk] at h ⊢ <;> exact h
theorem own_pn0 : plainName "com/example/entry_to_apps/entrytoapps/IconCache" = true := by first | (simp [plainName, overriddenIn]; done) | decide +kernel
theorem own_d_has_0 : decode prog_28_method_7_code 0 = .ok (.iload_n 0, 1) := by decide +kernel
theorem own_d_has_1 : decode prog_28_method_7_code 1 = .ok (.getstatic 137, 3) := by decide +kernel
theorem own_d_has_4 : decode prog_28_method_7_code 4 = .ok (.iload_n 1, 1) := by decide +kernel
theorem own_d_has_5 : decode prog_28_method_7_code 5 = .ok (.iaload, 1) := by decide +kernel
theorem own_d_has_6 : decode prog_28_method_7_code 6 = .ok (.iand, 1) := by decide +kernel
theorem own_d_has_7 : decode prog_28_method_7_code 7 = .ok (.ifCond .eq 7, 3) := by decide +kernel
theorem own_d_has_14 : decode prog_28_method_7_code 14 = .ok (.iconst 0, 1) := by decide +kernel
theorem own_d_has_15 : decode prog_28_method_7_code 15 = .ok (.ireturn, 1) := by decide +kernel
theorem own_d_has_10 : decode prog_28_method_7_code 10 = .ok (.iconst 1, 1) := by decide +kernel
theorem own_d_has_11 : decode prog_28_method_7_code 11 = .ok (.goto 4, 3) := by decide +kernel
def F_has (p0 : Int32) (z : Int32) : Int32 := (if (p0 &&& z) = (0 : Int32) then (0 : Int32) else (1 : Int32))
theorem own_ef_has (m : MethodId) (p0 : Int32) (p1 : Int32) : entryFrame m #[(.int p0), (.int p1)] 2 = mkF m 0 #[.val (.int p0), .val (.int p1)] [] := by first | (simp [entryFrame, mkF, argsToLocals, Value.category]; done) | rfl
def Q_has (Z : State) (p0 : Int32) (p1 : Int32) (z : Int32) (w_fl : Addr) (cl : Cell) (h0 : Heap) (n0 : Nat) (v : Option Value) (h : Heap) (L : List Loc) : Prop := v = some (.int (F_has p0 z)) ∧ Fr n0 L ∧ h = h0
set_option maxRecDepth 65536 in
set_option maxHeartbeats 40000000 in
theorem rm_has (l : Launch) (Z : State) (a0' : Array Value) (hw : ∀ d ∈ tables_1, d.before a0' Z = true) (ws : List Jvm.Cond) (p0 : Int32) (p1 : Int32) (z : Int32) (w_fl : Addr) (cl : Cell) (h0 : Heap) (n0 : Nat) (Z0 : n0 ≤ h0.size) (hin : ¬ (p1 < 0 ∨ cl.slots.size ≤ p1.toNatClampNeg)) (hat : cl.slots[p1.toNatClampNeg]? = some (.int z)) (S_fl : Sta Z h0 "com/example/entry_to_apps/entrytoapps/IconCache" "EXTENSION_FLAGS" "[I" (.ref w_fl)) (Ar_fl : Arr Z h0 w_fl cl .int) :
    MetFree l (⟨"com/example/entry_to_apps/entrytoapps/IconCache", "hasExtension", "(II)Z"⟩ : MethodName) (head1 (Jvm.Cond.code (⟨"com/example/entry_to_apps/entrytoapps/IconCache", "hasExtension", "(II)Z"⟩ : MethodName) prog_28_method_7_code 2 (some .boolean) :: ws) ({ frames := 0, cells := 0, slots := 0, locals := 0 } : Room)) (fun a U => a = #[(.int p0), (.int p1)] ∧ Z.Warmed39 U.vm ∧ U.heap = h0) (fun _ _ _ _ _ => True) (fun _ U o U' => ∃ v L, o = .returned v ∧ Q_has Z p0 p1 z w_fl cl h0 n0 v U'.heap L ∧ FrameEnd U o U' L ({ frames := 0, cells := 0, slots := 0, locals := 0 } : Room).cells ({ frames := 0, cells := 0, slots := 0, locals := 0 } : Room).slots) := by
  refine MetFree.of_bodySF (plainFor_of_name own_pn0) hisR ?_
  intro p e s m args below meth c s₁ Bd hml0 hP hK
  obtain ⟨rfl, hZ, hh⟩ := hP
  have hx := Bd.exec
  have hby := Bd.bytes
  have hml : c.maxLocals = 2 := hml0
  have hown : s.vm.findClass "com/example/entry_to_apps/entrytoapps/IconCache" = some m.cls := findClass_of_methodNamed Bd.named
  have hnm := (name_of_methodNamed Bd.named Bd.method).1
  have X0 : Stand p l e ({ frames := 0, cells := 0, slots := 0, locals := 0 } : Room) s m #[(.int p0), (.int p1)] below meth c s₁ [] 0 0 := Stand.of_body Bd
  have e0 : s₁.heap = h0 := by rw [← hh, Bd.state]; rfl
  have N0 := Fr.nil n0
  have pre0 : ∀ t, Steps p.tables e below (s₁.setTop (mkF m 0 #[.val (.int p0), .val (.int p1)] [])) t → Steps p.tables e below (s₁.setTop (entryFrame m #[(.int p0), (.int p1)] 2)) t := fun t k => castTop (own_ef_has m p0 p1) k
  obtain ⟨T1, X1, e1, st1⟩ := getS2 X0 hx hZ hown (host := "") (Or.inl (hw _ (List.mem_of_getElem? (i := 4) rfl))) Via.refl e0 S_fl (g := (mkF m 1 #[.val (.int p0), .val (.int p1)] [(.int p0)])) rfl (hb hby own_d_has_1)
  have pre3 : ∀ t, Steps p.tables e below (T1.setTop (mkF m 7 #[.val (.int p0), .val (.int p1)] [(.int (p0 &&& z))])) t → Steps p.tables e below (s₁.setTop (entryFrame m #[(.int p0), (.int p1)] 2)) t := fun t k => pre0 t (by
    show Steps p.tables e below (s₁.setTop (mkF m 0 #[.val (.int p0), .val (.int p1)] [])) _
    refine XS.iloadN X0.here hx rfl (hb hby own_d_has_0) rfl ?_
    show Steps p.tables e below (s₁.setTop (mkF m 1 #[.val (.int p0), .val (.int p1)] [(.int p0)])) _
    refine st1 _ ?_
    show Steps p.tables e below (T1.setTop (mkF m 4 #[.val (.int p0), .val (.int p1)] [(.ref w_fl), (.int p0)])) _
    refine XS.iloadN X1.here hx rfl (hb hby own_d_has_4) rfl ?_
    show Steps p.tables e below (T1.setTop (mkF m 5 #[.val (.int p0), .val (.int p1)] [(.int p1), (.ref w_fl), (.int p0)])) _
    refine X1.iaload hx (j := p1) (v := (.int z)) (by rw [e1]; exact Ar_fl.1) (State.isArrayOf_alike hZ.alike Ar_fl.2.1) Ar_fl.2.2 hin hat (g := (mkF m 5 #[.val (.int p0), .val (.int p1)] [(.int p1), (.ref w_fl), (.int p0)])) rfl rfl (hb hby own_d_has_5) _ ?_
    show Steps p.tables e below (T1.setTop (mkF m 6 #[.val (.int p0), .val (.int p1)] [(.int z), (.int p0)])) _
    refine XS.iand X1.here hx rfl (hb hby own_d_has_6) rfl ?_
    exact k)
  by_cases hc7_2 : (p0 &&& z) = (0 : Int32)
  · obtain ⟨fs, hr, hrun, hended, hW, hsame⟩ := X1.leave (v := some (.int (0 : Int32))) (fun h => by rw [Bd.returns] at h; cases h)
    refine ⟨_, _, pre3 _ ?_, hrun, hended, _, _, rfl, ?_, ⟨_, rfl⟩, hW, hsame.mono (by decide) (by decide)⟩
    · show Steps p.tables e below (T1.setTop (mkF m 7 #[.val (.int p0), .val (.int p1)] [(.int (p0 &&& z))])) _
      refine XS.ifYes X1.here hx rfl (pc0 := 7) (pc' := 14) rfl (hb hby own_d_has_7) rfl ((if0 _ _).trans (teq hc7_2).1) (by decide) (by decide) ?_
      show Steps p.tables e below (T1.setTop (mkF m 14 #[.val (.int p0), .val (.int p1)] [])) _
      refine XS.iconst X1.here hx rfl (hb hby own_d_has_14) ?_
      show Steps p.tables e below (T1.setTop (mkF m 15 #[.val (.int p0), .val (.int p1)] [(.int (0 : Int32))])) _
      exact retN X1 hx (t := .boolean) Bd.returns (by simp) (hb hby own_d_has_15) hr
    · show Q_has Z p0 p1 z w_fl cl h0 n0 _ T1.heap _
      refine ⟨?_, N0, e1⟩
      rw [F_has, if_pos hc7_2]
  · obtain ⟨fs, hr, hrun, hended, hW, hsame⟩ := X1.leave (v := some (.int (1 : Int32))) (fun h => by rw [Bd.returns] at h; cases h)
    refine ⟨_, _, pre3 _ ?_, hrun, hended, _, _, rfl, ?_, ⟨_, rfl⟩, hW, hsame.mono (by decide) (by decide)⟩
    · show Steps p.tables e below (T1.setTop (mkF m 7 #[.val (.int p0), .val (.int p1)] [(.int (p0 &&& z))])) _
      refine XS.ifNo X1.here hx rfl (hb hby own_d_has_7) rfl ((if0 _ _).trans (feq hc7_2).1) ?_
      show Steps p.tables e below (T1.setTop (mkF m 10 #[.val (.int p0), .val (.int p1)] [])) _
      refine XS.iconst X1.here hx rfl (hb hby own_d_has_10) ?_
      show Steps p.tables e below (T1.setTop (mkF m 11 #[.val (.int p0), .val (.int p1)] [(.int (1 : Int32))])) _
      refine XS.goto X1.here hx rfl (pc0 := 11) (pc' := 15) rfl (hb hby own_d_has_11) (by decide) (by decide) ?_
      show Steps p.tables e below (T1.setTop (mkF m 15 #[.val (.int p0), .val (.int p1)] [(.int (1 : Int32))])) _
      exact retN X1 hx (t := .boolean) Bd.returns (by simp) (hb hby own_d_has_15) hr
    · show Q_has Z p0 p1 z w_fl cl h0 n0 _ T1.heap _
      refine ⟨?_, N0, e1⟩
      rw [F_has, if_neg hc7_2]
theorem own_pn1 : plainName "com/example/entry_to_apps/entrytoapps/IconCacheHasExtensionPinLaw" = true := by first | (simp [plainName, overriddenIn]; done) | decide +kernel
theorem own_pd0 : parseMethodDescriptor "(II)Z" = some ⟨[.int, .int], some .boolean⟩ := by decide +kernel
def F_law (p0 : Int32) : Int32 := (if (((p0.toUInt32 >>> ((2 : Int32) &&& 31).toUInt32).toInt32) &&& (1 : Int32)) = (1 : Int32) then (if (((p0.toUInt32 >>> ((1 : Int32) &&& 31).toUInt32).toInt32) &&& (1 : Int32)) = (1 : Int32) then (if (p0 &&& (1 : Int32)) = (1 : Int32) then (if (F_has p0 (4 : Int32)) = (1 : Int32) then (if (F_has p0 (2 : Int32)) = (1 : Int32) then (1 : Int32) else (0 : Int32)) else (0 : Int32)) else (if (F_has p0 (4 : Int32)) = (1 : Int32) then (if (F_has p0 (2 : Int32)) = (1 : Int32) then (if (F_has p0 (1 : Int32)) = (0 : Int32) then (1 : Int32) else (0 : Int32)) else (0 : Int32)) else (0 : Int32))) else (if (p0 &&& (1 : Int32)) = (1 : Int32) then (if (F_has p0 (4 : Int32)) = (1 : Int32) then (if (F_has p0 (2 : Int32)) = (0 : Int32) then (1 : Int32) else (0 : Int32)) else (0 : Int32)) else (if (F_has p0 (4 : Int32)) = (1 : Int32) then (if (F_has p0 (2 : Int32)) = (0 : Int32) then (if (F_has p0 (1 : Int32)) = (0 : Int32) then (1 : Int32) else (0 : Int32)) else (0 : Int32)) else (0 : Int32)))) else (if (((p0.toUInt32 >>> ((1 : Int32) &&& 31).toUInt32).toInt32) &&& (1 : Int32)) = (1 : Int32) then (if (p0 &&& (1 : Int32)) = (1 : Int32) then (if (F_has p0 (4 : Int32)) = (0 : Int32) then (if (F_has p0 (2 : Int32)) = (1 : Int32) then (1 : Int32) else (0 : Int32)) else (0 : Int32)) else (if (F_has p0 (4 : Int32)) = (0 : Int32) then (if (F_has p0 (2 : Int32)) = (1 : Int32) then (if (F_has p0 (1 : Int32)) = (0 : Int32) then (1 : Int32) else (0 : Int32)) else (0 : Int32)) else (0 : Int32))) else (if (p0 &&& (1 : Int32)) = (1 : Int32) then (if (F_has p0 (4 : Int32)) = (0 : Int32) then (if (F_has p0 (2 : Int32)) = (0 : Int32) then (1 : Int32) else (0 : Int32)) else (0 : Int32)) else (if (F_has p0 (4 : Int32)) = (0 : Int32) then (if (F_has p0 (2 : Int32)) = (0 : Int32) then (if (F_has p0 (1 : Int32)) = (0 : Int32) then (1 : Int32) else (0 : Int32)) else (0 : Int32)) else (0 : Int32)))))
theorem own_ef_law (m : MethodId) (p0 : Int32) : entryFrame m #[(.int p0)] maxLocals = mkF m 0 #[.val (.int p0), .unset, .unset, .unset] [] := by first | (simp [entryFrame, mkF, argsToLocals, Value.category, maxLocals]; done) | rfl
def Q_law (Z : State) (p0 : Int32) (w_fl : Addr) (cl : Cell) (h0 : Heap) (n0 : Nat) (v : Option Value) (h : Heap) (L : List Loc) : Prop := v = some (.int (F_law p0)) ∧ Fr n0 L ∧ True
set_option maxRecDepth 65536 in
set_option maxHeartbeats 40000000 in
theorem rm_law (l : Launch) (Z : State) (a0' : Array Value) (hw : ∀ d ∈ tables_1, d.before a0' Z = true) (ws : List Jvm.Cond) (p0 : Int32) (w_fl : Addr) (cl : Cell) (h0 : Heap) (n0 : Nat) (Z0 : n0 ≤ h0.size) (S_fl : Sta Z h0 "com/example/entry_to_apps/entrytoapps/IconCache" "EXTENSION_FLAGS" "[I" (.ref w_fl)) (Ar_fl : Arr Z h0 w_fl cl .int) (hin0 : ¬ ((0 : Int32) < 0 ∨ cl.slots.size ≤ (0 : Int32).toNatClampNeg)) (hat0 : cl.slots[(0 : Int32).toNatClampNeg]? = some (.int (4 : Int32))) (hin1 : ¬ ((1 : Int32) < 0 ∨ cl.slots.size ≤ (1 : Int32).toNatClampNeg)) (hat1 : cl.slots[(1 : Int32).toNatClampNeg]? = some (.int (2 : Int32))) (hin2 : ¬ ((2 : Int32) < 0 ∨ cl.slots.size ≤ (2 : Int32).toNatClampNeg)) (hat2 : cl.slots[(2 : Int32).toNatClampNeg]? = some (.int (1 : Int32))) :
    MetFree l x (head1 (Jvm.Cond.code x code maxLocals ret :: ws) room_1) (fun a U => a = #[(.int p0)] ∧ Z.Warmed39 U.vm ∧ U.heap = h0) (fun _ _ _ _ _ => True) (fun _ U o U' => ∃ v L, o = .returned v ∧ Q_law Z p0 w_fl cl h0 n0 v U'.heap L ∧ FrameEnd U o U' L room_1.cells room_1.slots) := by
  refine MetFree.of_bodySF (plainFor_of_name own_pn1) hisR ?_
  intro p e s m args below meth c s₁ Bd hml0 hP hK
  obtain ⟨rfl, hZ, hh⟩ := hP
  have hx := Bd.exec
  have hby := Bd.bytes
  have hml : c.maxLocals = 4 := hml0
  have hown : s.vm.findClass "com/example/entry_to_apps/entrytoapps/IconCacheHasExtensionPinLaw" = some m.cls := findClass_of_methodNamed Bd.named
  have hnm := (name_of_methodNamed Bd.named Bd.method).1
  have X0 : Stand p l e room_1 s m #[(.int p0)] below meth c s₁ [] 0 0 := Stand.of_body Bd
  have e0 : s₁.heap = h0 := by rw [← hh, Bd.state]; rfl
  have N0 := Fr.nil n0
  have pre0 : ∀ t, Steps p.tables e below (s₁.setTop (mkF m 0 #[.val (.int p0), .unset, .unset, .unset] [])) t → Steps p.tables e below (s₁.setTop (entryFrame m #[(.int p0)] maxLocals)) t := fun t k => castTop (own_ef_law m p0) k
  have pre5 : ∀ t, Steps p.tables e below (s₁.setTop (mkF m 6 #[.val (.int p0), .unset, .unset, .unset] [(.int (1 : Int32)), (.int (((p0.toUInt32 >>> ((2 : Int32) &&& 31).toUInt32).toInt32) &&& (1 : Int32)))])) t → Steps p.tables e below (s₁.setTop (entryFrame m #[(.int p0)] maxLocals)) t := fun t k => pre0 t (by
    show Steps p.tables e below (s₁.setTop (mkF m 0 #[.val (.int p0), .unset, .unset, .unset] [])) _
    refine XS.iloadN X0.here hx rfl (hb hby at_0) rfl ?_
    show Steps p.tables e below (s₁.setTop (mkF m 1 #[.val (.int p0), .unset, .unset, .unset] [(.int p0)])) _
    refine XS.iconst X0.here hx rfl (hb hby at_1) ?_
    show Steps p.tables e below (s₁.setTop (mkF m 2 #[.val (.int p0), .unset, .unset, .unset] [(.int (2 : Int32)), (.int p0)])) _
    refine XS.iushr X0.here hx rfl (hb hby at_2) rfl ?_
    show Steps p.tables e below (s₁.setTop (mkF m 3 #[.val (.int p0), .unset, .unset, .unset] [(.int ((p0.toUInt32 >>> ((2 : Int32) &&& 31).toUInt32).toInt32))])) _
    refine XS.iconst X0.here hx rfl (hb hby at_3) ?_
    show Steps p.tables e below (s₁.setTop (mkF m 4 #[.val (.int p0), .unset, .unset, .unset] [(.int (1 : Int32)), (.int ((p0.toUInt32 >>> ((2 : Int32) &&& 31).toUInt32).toInt32))])) _
    refine XS.iand X0.here hx rfl (hb hby at_4) rfl ?_
    show Steps p.tables e below (s₁.setTop (mkF m 5 #[.val (.int p0), .unset, .unset, .unset] [(.int (((p0.toUInt32 >>> ((2 : Int32) &&& 31).toUInt32).toInt32) &&& (1 : Int32)))])) _
    refine XS.iconst X0.here hx rfl (hb hby at_5) ?_
    exact k)
  by_cases hc6_4 : (((p0.toUInt32 >>> ((2 : Int32) &&& 31).toUInt32).toInt32) &&& (1 : Int32)) = (1 : Int32)
  · have pre7 : ∀ t, Steps p.tables e below (s₁.setTop (mkF m 21 #[.val (.int p0), .val (.int (1 : Int32)), .unset, .unset] [(.int (1 : Int32)), (.int (((p0.toUInt32 >>> ((1 : Int32) &&& 31).toUInt32).toInt32) &&& (1 : Int32)))])) t → Steps p.tables e below (s₁.setTop (entryFrame m #[(.int p0)] maxLocals)) t := fun t k => pre5 t (by
      show Steps p.tables e below (s₁.setTop (mkF m 6 #[.val (.int p0), .unset, .unset, .unset] [(.int (1 : Int32)), (.int (((p0.toUInt32 >>> ((2 : Int32) &&& 31).toUInt32).toInt32) &&& (1 : Int32)))])) _
      refine XS.icmpNo X0.here hx rfl (hb hby at_6) rfl (teq hc6_4).2 ?_
      show Steps p.tables e below (s₁.setTop (mkF m 9 #[.val (.int p0), .unset, .unset, .unset] [])) _
      refine XS.iconst X0.here hx rfl (hb hby at_9) ?_
      show Steps p.tables e below (s₁.setTop (mkF m 10 #[.val (.int p0), .unset, .unset, .unset] [(.int (1 : Int32))])) _
      refine XS.goto X0.here hx rfl (pc0 := 10) (pc' := 14) rfl (hb hby at_10) (by decide) (by decide) ?_
      show Steps p.tables e below (s₁.setTop (mkF m 14 #[.val (.int p0), .unset, .unset, .unset] [(.int (1 : Int32))])) _
      refine XS.istoreN X0.here hx rfl (hb hby at_14) rfl (l' := #[.val (.int p0), .val (.int (1 : Int32)), .unset, .unset]) rfl ?_
      show Steps p.tables e below (s₁.setTop (mkF m 15 #[.val (.int p0), .val (.int (1 : Int32)), .unset, .unset] [])) _
      refine XS.iloadN X0.here hx rfl (hb hby at_15) rfl ?_
      show Steps p.tables e below (s₁.setTop (mkF m 16 #[.val (.int p0), .val (.int (1 : Int32)), .unset, .unset] [(.int p0)])) _
      refine XS.iconst X0.here hx rfl (hb hby at_16) ?_
      show Steps p.tables e below (s₁.setTop (mkF m 17 #[.val (.int p0), .val (.int (1 : Int32)), .unset, .unset] [(.int (1 : Int32)), (.int p0)])) _
      refine XS.iushr X0.here hx rfl (hb hby at_17) rfl ?_
      show Steps p.tables e below (s₁.setTop (mkF m 18 #[.val (.int p0), .val (.int (1 : Int32)), .unset, .unset] [(.int ((p0.toUInt32 >>> ((1 : Int32) &&& 31).toUInt32).toInt32))])) _
      refine XS.iconst X0.here hx rfl (hb hby at_18) ?_
      show Steps p.tables e below (s₁.setTop (mkF m 19 #[.val (.int p0), .val (.int (1 : Int32)), .unset, .unset] [(.int (1 : Int32)), (.int ((p0.toUInt32 >>> ((1 : Int32) &&& 31).toUInt32).toInt32))])) _
      refine XS.iand X0.here hx rfl (hb hby at_19) rfl ?_
      show Steps p.tables e below (s₁.setTop (mkF m 20 #[.val (.int p0), .val (.int (1 : Int32)), .unset, .unset] [(.int (((p0.toUInt32 >>> ((1 : Int32) &&& 31).toUInt32).toInt32) &&& (1 : Int32)))])) _
      refine XS.iconst X0.here hx rfl (hb hby at_20) ?_
      exact k)
    by_cases hc21_6 : (((p0.toUInt32 >>> ((1 : Int32) &&& 31).toUInt32).toInt32) &&& (1 : Int32)) = (1 : Int32)
    · have pre9 : ∀ t, Steps p.tables e below (s₁.setTop (mkF m 34 #[.val (.int p0), .val (.int (1 : Int32)), .val (.int (1 : Int32)), .unset] [(.int (1 : Int32)), (.int (p0 &&& (1 : Int32)))])) t → Steps p.tables e below (s₁.setTop (entryFrame m #[(.int p0)] maxLocals)) t := fun t k => pre7 t (by
        show Steps p.tables e below (s₁.setTop (mkF m 21 #[.val (.int p0), .val (.int (1 : Int32)), .unset, .unset] [(.int (1 : Int32)), (.int (((p0.toUInt32 >>> ((1 : Int32) &&& 31).toUInt32).toInt32) &&& (1 : Int32)))])) _
        refine XS.icmpNo X0.here hx rfl (hb hby at_21) rfl (teq hc21_6).2 ?_
        show Steps p.tables e below (s₁.setTop (mkF m 24 #[.val (.int p0), .val (.int (1 : Int32)), .unset, .unset] [])) _
        refine XS.iconst X0.here hx rfl (hb hby at_24) ?_
        show Steps p.tables e below (s₁.setTop (mkF m 25 #[.val (.int p0), .val (.int (1 : Int32)), .unset, .unset] [(.int (1 : Int32))])) _
        refine XS.goto X0.here hx rfl (pc0 := 25) (pc' := 29) rfl (hb hby at_25) (by decide) (by decide) ?_
        show Steps p.tables e below (s₁.setTop (mkF m 29 #[.val (.int p0), .val (.int (1 : Int32)), .unset, .unset] [(.int (1 : Int32))])) _
        refine XS.istoreN X0.here hx rfl (hb hby at_29) rfl (l' := #[.val (.int p0), .val (.int (1 : Int32)), .val (.int (1 : Int32)), .unset]) rfl ?_
        show Steps p.tables e below (s₁.setTop (mkF m 30 #[.val (.int p0), .val (.int (1 : Int32)), .val (.int (1 : Int32)), .unset] [])) _
        refine XS.iloadN X0.here hx rfl (hb hby at_30) rfl ?_
        show Steps p.tables e below (s₁.setTop (mkF m 31 #[.val (.int p0), .val (.int (1 : Int32)), .val (.int (1 : Int32)), .unset] [(.int p0)])) _
        refine XS.iconst X0.here hx rfl (hb hby at_31) ?_
        show Steps p.tables e below (s₁.setTop (mkF m 32 #[.val (.int p0), .val (.int (1 : Int32)), .val (.int (1 : Int32)), .unset] [(.int (1 : Int32)), (.int p0)])) _
        refine XS.iand X0.here hx rfl (hb hby at_32) rfl ?_
        show Steps p.tables e below (s₁.setTop (mkF m 33 #[.val (.int p0), .val (.int (1 : Int32)), .val (.int (1 : Int32)), .unset] [(.int (p0 &&& (1 : Int32)))])) _
        refine XS.iconst X0.here hx rfl (hb hby at_33) ?_
        exact k)
      by_cases hc34_8 : (p0 &&& (1 : Int32)) = (1 : Int32)
      · obtain ⟨_, _, ⟨T10, L10, k10, n10⟩, -, X10, ⟨Lc10, hQ10, l10, y10, z10⟩, st10⟩ := Jvm.LawKit.callS X0 hx (y := (⟨"com/example/entry_to_apps/entrytoapps/IconCache", "hasExtension", "(II)Z"⟩ : MethodName)) hown (mvT hZ (hw _ (List.mem_of_getElem? (i := 0) rfl))) (mvT hZ (hw _ (List.mem_of_getElem? (i := 1) rfl))) (mvT hZ (hw _ (List.mem_of_getElem? (i := 2) rfl))) (mvT hZ (hw _ (List.mem_of_getElem? (i := 3) rfl))) (by decide) (backOf (W := 0) (rm_has l Z a0' hw [] p0 (0 : Int32) (4 : Int32) w_fl cl h0 n0 Z0 hin0 hat0 S_fl Ar_fl) hZ (hw _ (List.mem_of_getElem? (i := 3) rfl)) (hw _ (List.mem_of_getElem? (i := 2) rfl)) (by decide) (by decide)) (g := (mkF m 45 #[.val (.int p0), .val (.int (1 : Int32)), .val (.int (1 : Int32)), .val (.int (1 : Int32))] [(.int (0 : Int32)), (.int p0)])) rfl (by rw [hml]; rfl) (argsL := [(.int p0), (.int (0 : Int32))]) (rest := []) (lenOf own_pd0 rfl) rfl (by show 2 * 0 + _ ≤ _; exact Nat.le_of_eq rfl) (hb hby at_45) (fun _ _ => ⟨rfl, e0, (by decide : 0 + 0 ≤ _), (by decide : 0 + 0 ≤ _)⟩)
        dsimp only [Pt.U, Pt.locs, Pt.cells, Pt.slots] at X10 l10 y10 z10 st10 hQ10
        subst l10 y10 z10
        obtain ⟨rfl, N10q, e10⟩ := hQ10
        have N10 := Fr.app N0 N10q
        have pre12 : ∀ t, Steps p.tables e below (T10.setTop (mkF m 49 #[.val (.int p0), .val (.int (1 : Int32)), .val (.int (1 : Int32)), .val (.int (1 : Int32))] [(.int (1 : Int32)), (.int (F_has p0 (4 : Int32)))])) t → Steps p.tables e below (s₁.setTop (entryFrame m #[(.int p0)] maxLocals)) t := fun t k => pre9 t (by
          show Steps p.tables e below (s₁.setTop (mkF m 34 #[.val (.int p0), .val (.int (1 : Int32)), .val (.int (1 : Int32)), .unset] [(.int (1 : Int32)), (.int (p0 &&& (1 : Int32)))])) _
          refine XS.icmpNo X0.here hx rfl (hb hby at_34) rfl (teq hc34_8).2 ?_
          show Steps p.tables e below (s₁.setTop (mkF m 37 #[.val (.int p0), .val (.int (1 : Int32)), .val (.int (1 : Int32)), .unset] [])) _
          refine XS.iconst X0.here hx rfl (hb hby at_37) ?_
          show Steps p.tables e below (s₁.setTop (mkF m 38 #[.val (.int p0), .val (.int (1 : Int32)), .val (.int (1 : Int32)), .unset] [(.int (1 : Int32))])) _
          refine XS.goto X0.here hx rfl (pc0 := 38) (pc' := 42) rfl (hb hby at_38) (by decide) (by decide) ?_
          show Steps p.tables e below (s₁.setTop (mkF m 42 #[.val (.int p0), .val (.int (1 : Int32)), .val (.int (1 : Int32)), .unset] [(.int (1 : Int32))])) _
          refine XS.istoreN X0.here hx rfl (hb hby at_42) rfl (l' := #[.val (.int p0), .val (.int (1 : Int32)), .val (.int (1 : Int32)), .val (.int (1 : Int32))]) rfl ?_
          show Steps p.tables e below (s₁.setTop (mkF m 43 #[.val (.int p0), .val (.int (1 : Int32)), .val (.int (1 : Int32)), .val (.int (1 : Int32))] [])) _
          refine XS.iloadN X0.here hx rfl (hb hby at_43) rfl ?_
          show Steps p.tables e below (s₁.setTop (mkF m 44 #[.val (.int p0), .val (.int (1 : Int32)), .val (.int (1 : Int32)), .val (.int (1 : Int32))] [(.int p0)])) _
          refine XS.iconst X0.here hx rfl (hb hby at_44) ?_
          show Steps p.tables e below (s₁.setTop (mkF m 45 #[.val (.int p0), .val (.int (1 : Int32)), .val (.int (1 : Int32)), .val (.int (1 : Int32))] [(.int (0 : Int32)), (.int p0)])) _
          refine st10 _ ?_
          show Steps p.tables e below (T10.setTop (mkF m 48 #[.val (.int p0), .val (.int (1 : Int32)), .val (.int (1 : Int32)), .val (.int (1 : Int32))] [(.int (F_has p0 (4 : Int32)))])) _
          refine XS.iloadN X10.here hx rfl (hb hby at_48) rfl ?_
          exact k)
        by_cases hc49_11 : (F_has p0 (4 : Int32)) = (1 : Int32)
        · obtain ⟨_, _, ⟨T13, L13, k13, n13⟩, -, X13, ⟨Lc13, hQ13, l13, y13, z13⟩, st13⟩ := Jvm.LawKit.callS X10 hx (y := (⟨"com/example/entry_to_apps/entrytoapps/IconCache", "hasExtension", "(II)Z"⟩ : MethodName)) hown (mvT hZ (hw _ (List.mem_of_getElem? (i := 0) rfl))) (mvT hZ (hw _ (List.mem_of_getElem? (i := 1) rfl))) (mvT hZ (hw _ (List.mem_of_getElem? (i := 2) rfl))) (mvT hZ (hw _ (List.mem_of_getElem? (i := 3) rfl))) (by decide) (backOf (W := 0) (rm_has l Z a0' hw [] p0 (1 : Int32) (2 : Int32) w_fl cl h0 n0 Z0 hin1 hat1 S_fl Ar_fl) hZ (hw _ (List.mem_of_getElem? (i := 3) rfl)) (hw _ (List.mem_of_getElem? (i := 2) rfl)) (by decide) (by decide)) (g := (mkF m 54 #[.val (.int p0), .val (.int (1 : Int32)), .val (.int (1 : Int32)), .val (.int (1 : Int32))] [(.int (1 : Int32)), (.int p0)])) rfl (by rw [hml]; rfl) (argsL := [(.int p0), (.int (1 : Int32))]) (rest := []) (lenOf own_pd0 rfl) rfl (by show 2 * 0 + _ ≤ _; exact Nat.le_of_eq rfl) (hb hby at_54) (fun _ _ => ⟨rfl, e10, (by decide : 0 + 0 ≤ _), (by decide : 0 + 0 ≤ _)⟩)
          dsimp only [Pt.U, Pt.locs, Pt.cells, Pt.slots] at X13 l13 y13 z13 st13 hQ13
          subst l13 y13 z13
          obtain ⟨rfl, N13q, e13⟩ := hQ13
          have N13 := Fr.app N10 N13q
          have pre15 : ∀ t, Steps p.tables e below (T13.setTop (mkF m 58 #[.val (.int p0), .val (.int (1 : Int32)), .val (.int (1 : Int32)), .val (.int (1 : Int32))] [(.int (1 : Int32)), (.int (F_has p0 (2 : Int32)))])) t → Steps p.tables e below (s₁.setTop (entryFrame m #[(.int p0)] maxLocals)) t := fun t k => pre12 t (by
            show Steps p.tables e below (T10.setTop (mkF m 49 #[.val (.int p0), .val (.int (1 : Int32)), .val (.int (1 : Int32)), .val (.int (1 : Int32))] [(.int (1 : Int32)), (.int (F_has p0 (4 : Int32)))])) _
            refine XS.icmpNo X10.here hx rfl (hb hby at_49) rfl (teq hc49_11).2 ?_
            show Steps p.tables e below (T10.setTop (mkF m 52 #[.val (.int p0), .val (.int (1 : Int32)), .val (.int (1 : Int32)), .val (.int (1 : Int32))] [])) _
            refine XS.iloadN X10.here hx rfl (hb hby at_52) rfl ?_
            show Steps p.tables e below (T10.setTop (mkF m 53 #[.val (.int p0), .val (.int (1 : Int32)), .val (.int (1 : Int32)), .val (.int (1 : Int32))] [(.int p0)])) _
            refine XS.iconst X10.here hx rfl (hb hby at_53) ?_
            show Steps p.tables e below (T10.setTop (mkF m 54 #[.val (.int p0), .val (.int (1 : Int32)), .val (.int (1 : Int32)), .val (.int (1 : Int32))] [(.int (1 : Int32)), (.int p0)])) _
            refine st13 _ ?_
            show Steps p.tables e below (T13.setTop (mkF m 57 #[.val (.int p0), .val (.int (1 : Int32)), .val (.int (1 : Int32)), .val (.int (1 : Int32))] [(.int (F_has p0 (2 : Int32)))])) _
            refine XS.iloadN X13.here hx rfl (hb hby at_57) rfl ?_
            exact k)
          by_cases hc58_14 : (F_has p0 (2 : Int32)) = (1 : Int32)
          · obtain ⟨_, _, ⟨T16, L16, k16, n16⟩, -, X16, ⟨Lc16, hQ16, l16, y16, z16⟩, st16⟩ := Jvm.LawKit.callS X13 hx (y := (⟨"com/example/entry_to_apps/entrytoapps/IconCache", "hasExtension", "(II)Z"⟩ : MethodName)) hown (mvT hZ (hw _ (List.mem_of_getElem? (i := 0) rfl))) (mvT hZ (hw _ (List.mem_of_getElem? (i := 1) rfl))) (mvT hZ (hw _ (List.mem_of_getElem? (i := 2) rfl))) (mvT hZ (hw _ (List.mem_of_getElem? (i := 3) rfl))) (by decide) (backOf (W := 0) (rm_has l Z a0' hw [] p0 (2 : Int32) (1 : Int32) w_fl cl h0 n0 Z0 hin2 hat2 S_fl Ar_fl) hZ (hw _ (List.mem_of_getElem? (i := 3) rfl)) (hw _ (List.mem_of_getElem? (i := 2) rfl)) (by decide) (by decide)) (g := (mkF m 63 #[.val (.int p0), .val (.int (1 : Int32)), .val (.int (1 : Int32)), .val (.int (1 : Int32))] [(.int (2 : Int32)), (.int p0)])) rfl (by rw [hml]; rfl) (argsL := [(.int p0), (.int (2 : Int32))]) (rest := []) (lenOf own_pd0 rfl) rfl (by show 2 * 0 + _ ≤ _; exact Nat.le_of_eq rfl) (hb hby at_63) (fun _ _ => ⟨rfl, e13, (by decide : 0 + 0 ≤ _), (by decide : 0 + 0 ≤ _)⟩)
            dsimp only [Pt.U, Pt.locs, Pt.cells, Pt.slots] at X16 l16 y16 z16 st16 hQ16
            subst l16 y16 z16
            obtain ⟨rfl, N16q, e16⟩ := hQ16
            have N16 := Fr.app N13 N16q
            have q16 : (F_has p0 (1 : Int32)) = (1 : Int32) := by rw [F_has, if_neg (fun q => absurd (hc34_8.symm.trans q) (by decide))]
            rw [q16] at st16
            obtain ⟨fs, hr, hrun, hended, hW, hsame⟩ := X16.leave (v := some (.int (1 : Int32))) (fun h => by rw [Bd.returns] at h; cases h)
            refine ⟨_, _, pre15 _ ?_, hrun, hended, _, _, rfl, ?_, ⟨_, rfl⟩, hW, hsame.mono (by decide) (by decide)⟩
            · show Steps p.tables e below (T13.setTop (mkF m 58 #[.val (.int p0), .val (.int (1 : Int32)), .val (.int (1 : Int32)), .val (.int (1 : Int32))] [(.int (1 : Int32)), (.int (F_has p0 (2 : Int32)))])) _
              refine XS.icmpNo X13.here hx rfl (hb hby at_58) rfl (teq hc58_14).2 ?_
              show Steps p.tables e below (T13.setTop (mkF m 61 #[.val (.int p0), .val (.int (1 : Int32)), .val (.int (1 : Int32)), .val (.int (1 : Int32))] [])) _
              refine XS.iloadN X13.here hx rfl (hb hby at_61) rfl ?_
              show Steps p.tables e below (T13.setTop (mkF m 62 #[.val (.int p0), .val (.int (1 : Int32)), .val (.int (1 : Int32)), .val (.int (1 : Int32))] [(.int p0)])) _
              refine XS.iconst X13.here hx rfl (hb hby at_62) ?_
              show Steps p.tables e below (T13.setTop (mkF m 63 #[.val (.int p0), .val (.int (1 : Int32)), .val (.int (1 : Int32)), .val (.int (1 : Int32))] [(.int (2 : Int32)), (.int p0)])) _
              refine st16 _ ?_
              show Steps p.tables e below (T16.setTop (mkF m 66 #[.val (.int p0), .val (.int (1 : Int32)), .val (.int (1 : Int32)), .val (.int (1 : Int32))] [(.int (1 : Int32))])) _
              refine XS.iloadN X16.here hx rfl (hb hby at_66) rfl ?_
              show Steps p.tables e below (T16.setTop (mkF m 67 #[.val (.int p0), .val (.int (1 : Int32)), .val (.int (1 : Int32)), .val (.int (1 : Int32))] [(.int (1 : Int32)), (.int (1 : Int32))])) _
              refine XS.icmpNo X16.here hx rfl (hb hby at_67) rfl (teq (by decide : (1 : Int32) = (1 : Int32))).2 ?_
              show Steps p.tables e below (T16.setTop (mkF m 70 #[.val (.int p0), .val (.int (1 : Int32)), .val (.int (1 : Int32)), .val (.int (1 : Int32))] [])) _
              refine XS.iconst X16.here hx rfl (hb hby at_70) ?_
              show Steps p.tables e below (T16.setTop (mkF m 71 #[.val (.int p0), .val (.int (1 : Int32)), .val (.int (1 : Int32)), .val (.int (1 : Int32))] [(.int (1 : Int32))])) _
              refine XS.goto X16.here hx rfl (pc0 := 71) (pc' := 75) rfl (hb hby at_71) (by decide) (by decide) ?_
              show Steps p.tables e below (T16.setTop (mkF m 75 #[.val (.int p0), .val (.int (1 : Int32)), .val (.int (1 : Int32)), .val (.int (1 : Int32))] [(.int (1 : Int32))])) _
              exact retN X16 hx (t := .boolean) Bd.returns (by simp) (hb hby at_75) hr
            · show Q_law Z p0 w_fl cl h0 n0 _ T16.heap _
              refine ⟨?_, N16, trivial⟩
              rw [F_law, if_pos hc6_4, if_pos hc21_6, if_pos hc34_8, if_pos hc49_11, if_pos hc58_14]
          · obtain ⟨fs, hr, hrun, hended, hW, hsame⟩ := X13.leave (v := some (.int (0 : Int32))) (fun h => by rw [Bd.returns] at h; cases h)
            refine ⟨_, _, pre15 _ ?_, hrun, hended, _, _, rfl, ?_, ⟨_, rfl⟩, hW, hsame.mono (by decide) (by decide)⟩
            · show Steps p.tables e below (T13.setTop (mkF m 58 #[.val (.int p0), .val (.int (1 : Int32)), .val (.int (1 : Int32)), .val (.int (1 : Int32))] [(.int (1 : Int32)), (.int (F_has p0 (2 : Int32)))])) _
              refine XS.icmpYes X13.here hx rfl (pc0 := 58) (pc' := 74) rfl (hb hby at_58) rfl (feq hc58_14).2 (by decide) (by decide) ?_
              show Steps p.tables e below (T13.setTop (mkF m 74 #[.val (.int p0), .val (.int (1 : Int32)), .val (.int (1 : Int32)), .val (.int (1 : Int32))] [])) _
              refine XS.iconst X13.here hx rfl (hb hby at_74) ?_
              show Steps p.tables e below (T13.setTop (mkF m 75 #[.val (.int p0), .val (.int (1 : Int32)), .val (.int (1 : Int32)), .val (.int (1 : Int32))] [(.int (0 : Int32))])) _
              exact retN X13 hx (t := .boolean) Bd.returns (by simp) (hb hby at_75) hr
            · show Q_law Z p0 w_fl cl h0 n0 _ T13.heap _
              refine ⟨?_, N13, trivial⟩
              rw [F_law, if_pos hc6_4, if_pos hc21_6, if_pos hc34_8, if_pos hc49_11, if_neg hc58_14]
        · obtain ⟨fs, hr, hrun, hended, hW, hsame⟩ := X10.leave (v := some (.int (0 : Int32))) (fun h => by rw [Bd.returns] at h; cases h)
          refine ⟨_, _, pre12 _ ?_, hrun, hended, _, _, rfl, ?_, ⟨_, rfl⟩, hW, hsame.mono (by decide) (by decide)⟩
          · show Steps p.tables e below (T10.setTop (mkF m 49 #[.val (.int p0), .val (.int (1 : Int32)), .val (.int (1 : Int32)), .val (.int (1 : Int32))] [(.int (1 : Int32)), (.int (F_has p0 (4 : Int32)))])) _
            refine XS.icmpYes X10.here hx rfl (pc0 := 49) (pc' := 74) rfl (hb hby at_49) rfl (feq hc49_11).2 (by decide) (by decide) ?_
            show Steps p.tables e below (T10.setTop (mkF m 74 #[.val (.int p0), .val (.int (1 : Int32)), .val (.int (1 : Int32)), .val (.int (1 : Int32))] [])) _
            refine XS.iconst X10.here hx rfl (hb hby at_74) ?_
            show Steps p.tables e below (T10.setTop (mkF m 75 #[.val (.int p0), .val (.int (1 : Int32)), .val (.int (1 : Int32)), .val (.int (1 : Int32))] [(.int (0 : Int32))])) _
            exact retN X10 hx (t := .boolean) Bd.returns (by simp) (hb hby at_75) hr
          · show Q_law Z p0 w_fl cl h0 n0 _ T10.heap _
            refine ⟨?_, N10, trivial⟩
            rw [F_law, if_pos hc6_4, if_pos hc21_6, if_pos hc34_8, if_neg hc49_11]
      · obtain ⟨_, _, ⟨T17, L17, k17, n17⟩, -, X17, ⟨Lc17, hQ17, l17, y17, z17⟩, st17⟩ := Jvm.LawKit.callS X0 hx (y := (⟨"com/example/entry_to_apps/entrytoapps/IconCache", "hasExtension", "(II)Z"⟩ : MethodName)) hown (mvT hZ (hw _ (List.mem_of_getElem? (i := 0) rfl))) (mvT hZ (hw _ (List.mem_of_getElem? (i := 1) rfl))) (mvT hZ (hw _ (List.mem_of_getElem? (i := 2) rfl))) (mvT hZ (hw _ (List.mem_of_getElem? (i := 3) rfl))) (by decide) (backOf (W := 0) (rm_has l Z a0' hw [] p0 (0 : Int32) (4 : Int32) w_fl cl h0 n0 Z0 hin0 hat0 S_fl Ar_fl) hZ (hw _ (List.mem_of_getElem? (i := 3) rfl)) (hw _ (List.mem_of_getElem? (i := 2) rfl)) (by decide) (by decide)) (g := (mkF m 45 #[.val (.int p0), .val (.int (1 : Int32)), .val (.int (1 : Int32)), .val (.int (0 : Int32))] [(.int (0 : Int32)), (.int p0)])) rfl (by rw [hml]; rfl) (argsL := [(.int p0), (.int (0 : Int32))]) (rest := []) (lenOf own_pd0 rfl) rfl (by show 2 * 0 + _ ≤ _; exact Nat.le_of_eq rfl) (hb hby at_45) (fun _ _ => ⟨rfl, e0, (by decide : 0 + 0 ≤ _), (by decide : 0 + 0 ≤ _)⟩)
        dsimp only [Pt.U, Pt.locs, Pt.cells, Pt.slots] at X17 l17 y17 z17 st17 hQ17
        subst l17 y17 z17
        obtain ⟨rfl, N17q, e17⟩ := hQ17
        have N17 := Fr.app N0 N17q
        have pre19 : ∀ t, Steps p.tables e below (T17.setTop (mkF m 49 #[.val (.int p0), .val (.int (1 : Int32)), .val (.int (1 : Int32)), .val (.int (0 : Int32))] [(.int (1 : Int32)), (.int (F_has p0 (4 : Int32)))])) t → Steps p.tables e below (s₁.setTop (entryFrame m #[(.int p0)] maxLocals)) t := fun t k => pre9 t (by
          show Steps p.tables e below (s₁.setTop (mkF m 34 #[.val (.int p0), .val (.int (1 : Int32)), .val (.int (1 : Int32)), .unset] [(.int (1 : Int32)), (.int (p0 &&& (1 : Int32)))])) _
          refine XS.icmpYes X0.here hx rfl (pc0 := 34) (pc' := 41) rfl (hb hby at_34) rfl (feq hc34_8).2 (by decide) (by decide) ?_
          show Steps p.tables e below (s₁.setTop (mkF m 41 #[.val (.int p0), .val (.int (1 : Int32)), .val (.int (1 : Int32)), .unset] [])) _
          refine XS.iconst X0.here hx rfl (hb hby at_41) ?_
          show Steps p.tables e below (s₁.setTop (mkF m 42 #[.val (.int p0), .val (.int (1 : Int32)), .val (.int (1 : Int32)), .unset] [(.int (0 : Int32))])) _
          refine XS.istoreN X0.here hx rfl (hb hby at_42) rfl (l' := #[.val (.int p0), .val (.int (1 : Int32)), .val (.int (1 : Int32)), .val (.int (0 : Int32))]) rfl ?_
          show Steps p.tables e below (s₁.setTop (mkF m 43 #[.val (.int p0), .val (.int (1 : Int32)), .val (.int (1 : Int32)), .val (.int (0 : Int32))] [])) _
          refine XS.iloadN X0.here hx rfl (hb hby at_43) rfl ?_
          show Steps p.tables e below (s₁.setTop (mkF m 44 #[.val (.int p0), .val (.int (1 : Int32)), .val (.int (1 : Int32)), .val (.int (0 : Int32))] [(.int p0)])) _
          refine XS.iconst X0.here hx rfl (hb hby at_44) ?_
          show Steps p.tables e below (s₁.setTop (mkF m 45 #[.val (.int p0), .val (.int (1 : Int32)), .val (.int (1 : Int32)), .val (.int (0 : Int32))] [(.int (0 : Int32)), (.int p0)])) _
          refine st17 _ ?_
          show Steps p.tables e below (T17.setTop (mkF m 48 #[.val (.int p0), .val (.int (1 : Int32)), .val (.int (1 : Int32)), .val (.int (0 : Int32))] [(.int (F_has p0 (4 : Int32)))])) _
          refine XS.iloadN X17.here hx rfl (hb hby at_48) rfl ?_
          exact k)
        by_cases hc49_18 : (F_has p0 (4 : Int32)) = (1 : Int32)
        · obtain ⟨_, _, ⟨T20, L20, k20, n20⟩, -, X20, ⟨Lc20, hQ20, l20, y20, z20⟩, st20⟩ := Jvm.LawKit.callS X17 hx (y := (⟨"com/example/entry_to_apps/entrytoapps/IconCache", "hasExtension", "(II)Z"⟩ : MethodName)) hown (mvT hZ (hw _ (List.mem_of_getElem? (i := 0) rfl))) (mvT hZ (hw _ (List.mem_of_getElem? (i := 1) rfl))) (mvT hZ (hw _ (List.mem_of_getElem? (i := 2) rfl))) (mvT hZ (hw _ (List.mem_of_getElem? (i := 3) rfl))) (by decide) (backOf (W := 0) (rm_has l Z a0' hw [] p0 (1 : Int32) (2 : Int32) w_fl cl h0 n0 Z0 hin1 hat1 S_fl Ar_fl) hZ (hw _ (List.mem_of_getElem? (i := 3) rfl)) (hw _ (List.mem_of_getElem? (i := 2) rfl)) (by decide) (by decide)) (g := (mkF m 54 #[.val (.int p0), .val (.int (1 : Int32)), .val (.int (1 : Int32)), .val (.int (0 : Int32))] [(.int (1 : Int32)), (.int p0)])) rfl (by rw [hml]; rfl) (argsL := [(.int p0), (.int (1 : Int32))]) (rest := []) (lenOf own_pd0 rfl) rfl (by show 2 * 0 + _ ≤ _; exact Nat.le_of_eq rfl) (hb hby at_54) (fun _ _ => ⟨rfl, e17, (by decide : 0 + 0 ≤ _), (by decide : 0 + 0 ≤ _)⟩)
          dsimp only [Pt.U, Pt.locs, Pt.cells, Pt.slots] at X20 l20 y20 z20 st20 hQ20
          subst l20 y20 z20
          obtain ⟨rfl, N20q, e20⟩ := hQ20
          have N20 := Fr.app N17 N20q
          have pre22 : ∀ t, Steps p.tables e below (T20.setTop (mkF m 58 #[.val (.int p0), .val (.int (1 : Int32)), .val (.int (1 : Int32)), .val (.int (0 : Int32))] [(.int (1 : Int32)), (.int (F_has p0 (2 : Int32)))])) t → Steps p.tables e below (s₁.setTop (entryFrame m #[(.int p0)] maxLocals)) t := fun t k => pre19 t (by
            show Steps p.tables e below (T17.setTop (mkF m 49 #[.val (.int p0), .val (.int (1 : Int32)), .val (.int (1 : Int32)), .val (.int (0 : Int32))] [(.int (1 : Int32)), (.int (F_has p0 (4 : Int32)))])) _
            refine XS.icmpNo X17.here hx rfl (hb hby at_49) rfl (teq hc49_18).2 ?_
            show Steps p.tables e below (T17.setTop (mkF m 52 #[.val (.int p0), .val (.int (1 : Int32)), .val (.int (1 : Int32)), .val (.int (0 : Int32))] [])) _
            refine XS.iloadN X17.here hx rfl (hb hby at_52) rfl ?_
            show Steps p.tables e below (T17.setTop (mkF m 53 #[.val (.int p0), .val (.int (1 : Int32)), .val (.int (1 : Int32)), .val (.int (0 : Int32))] [(.int p0)])) _
            refine XS.iconst X17.here hx rfl (hb hby at_53) ?_
            show Steps p.tables e below (T17.setTop (mkF m 54 #[.val (.int p0), .val (.int (1 : Int32)), .val (.int (1 : Int32)), .val (.int (0 : Int32))] [(.int (1 : Int32)), (.int p0)])) _
            refine st20 _ ?_
            show Steps p.tables e below (T20.setTop (mkF m 57 #[.val (.int p0), .val (.int (1 : Int32)), .val (.int (1 : Int32)), .val (.int (0 : Int32))] [(.int (F_has p0 (2 : Int32)))])) _
            refine XS.iloadN X20.here hx rfl (hb hby at_57) rfl ?_
            exact k)
          by_cases hc58_21 : (F_has p0 (2 : Int32)) = (1 : Int32)
          · obtain ⟨_, _, ⟨T23, L23, k23, n23⟩, -, X23, ⟨Lc23, hQ23, l23, y23, z23⟩, st23⟩ := Jvm.LawKit.callS X20 hx (y := (⟨"com/example/entry_to_apps/entrytoapps/IconCache", "hasExtension", "(II)Z"⟩ : MethodName)) hown (mvT hZ (hw _ (List.mem_of_getElem? (i := 0) rfl))) (mvT hZ (hw _ (List.mem_of_getElem? (i := 1) rfl))) (mvT hZ (hw _ (List.mem_of_getElem? (i := 2) rfl))) (mvT hZ (hw _ (List.mem_of_getElem? (i := 3) rfl))) (by decide) (backOf (W := 0) (rm_has l Z a0' hw [] p0 (2 : Int32) (1 : Int32) w_fl cl h0 n0 Z0 hin2 hat2 S_fl Ar_fl) hZ (hw _ (List.mem_of_getElem? (i := 3) rfl)) (hw _ (List.mem_of_getElem? (i := 2) rfl)) (by decide) (by decide)) (g := (mkF m 63 #[.val (.int p0), .val (.int (1 : Int32)), .val (.int (1 : Int32)), .val (.int (0 : Int32))] [(.int (2 : Int32)), (.int p0)])) rfl (by rw [hml]; rfl) (argsL := [(.int p0), (.int (2 : Int32))]) (rest := []) (lenOf own_pd0 rfl) rfl (by show 2 * 0 + _ ≤ _; exact Nat.le_of_eq rfl) (hb hby at_63) (fun _ _ => ⟨rfl, e20, (by decide : 0 + 0 ≤ _), (by decide : 0 + 0 ≤ _)⟩)
            dsimp only [Pt.U, Pt.locs, Pt.cells, Pt.slots] at X23 l23 y23 z23 st23 hQ23
            subst l23 y23 z23
            obtain ⟨rfl, N23q, e23⟩ := hQ23
            have N23 := Fr.app N20 N23q
            have pre25 : ∀ t, Steps p.tables e below (T23.setTop (mkF m 67 #[.val (.int p0), .val (.int (1 : Int32)), .val (.int (1 : Int32)), .val (.int (0 : Int32))] [(.int (0 : Int32)), (.int (F_has p0 (1 : Int32)))])) t → Steps p.tables e below (s₁.setTop (entryFrame m #[(.int p0)] maxLocals)) t := fun t k => pre22 t (by
              show Steps p.tables e below (T20.setTop (mkF m 58 #[.val (.int p0), .val (.int (1 : Int32)), .val (.int (1 : Int32)), .val (.int (0 : Int32))] [(.int (1 : Int32)), (.int (F_has p0 (2 : Int32)))])) _
              refine XS.icmpNo X20.here hx rfl (hb hby at_58) rfl (teq hc58_21).2 ?_
              show Steps p.tables e below (T20.setTop (mkF m 61 #[.val (.int p0), .val (.int (1 : Int32)), .val (.int (1 : Int32)), .val (.int (0 : Int32))] [])) _
              refine XS.iloadN X20.here hx rfl (hb hby at_61) rfl ?_
              show Steps p.tables e below (T20.setTop (mkF m 62 #[.val (.int p0), .val (.int (1 : Int32)), .val (.int (1 : Int32)), .val (.int (0 : Int32))] [(.int p0)])) _
              refine XS.iconst X20.here hx rfl (hb hby at_62) ?_
              show Steps p.tables e below (T20.setTop (mkF m 63 #[.val (.int p0), .val (.int (1 : Int32)), .val (.int (1 : Int32)), .val (.int (0 : Int32))] [(.int (2 : Int32)), (.int p0)])) _
              refine st23 _ ?_
              show Steps p.tables e below (T23.setTop (mkF m 66 #[.val (.int p0), .val (.int (1 : Int32)), .val (.int (1 : Int32)), .val (.int (0 : Int32))] [(.int (F_has p0 (1 : Int32)))])) _
              refine XS.iloadN X23.here hx rfl (hb hby at_66) rfl ?_
              exact k)
            by_cases hc67_24 : (F_has p0 (1 : Int32)) = (0 : Int32)
            · obtain ⟨fs, hr, hrun, hended, hW, hsame⟩ := X23.leave (v := some (.int (1 : Int32))) (fun h => by rw [Bd.returns] at h; cases h)
              refine ⟨_, _, pre25 _ ?_, hrun, hended, _, _, rfl, ?_, ⟨_, rfl⟩, hW, hsame.mono (by decide) (by decide)⟩
              · show Steps p.tables e below (T23.setTop (mkF m 67 #[.val (.int p0), .val (.int (1 : Int32)), .val (.int (1 : Int32)), .val (.int (0 : Int32))] [(.int (0 : Int32)), (.int (F_has p0 (1 : Int32)))])) _
                refine XS.icmpNo X23.here hx rfl (hb hby at_67) rfl (teq hc67_24).2 ?_
                show Steps p.tables e below (T23.setTop (mkF m 70 #[.val (.int p0), .val (.int (1 : Int32)), .val (.int (1 : Int32)), .val (.int (0 : Int32))] [])) _
                refine XS.iconst X23.here hx rfl (hb hby at_70) ?_
                show Steps p.tables e below (T23.setTop (mkF m 71 #[.val (.int p0), .val (.int (1 : Int32)), .val (.int (1 : Int32)), .val (.int (0 : Int32))] [(.int (1 : Int32))])) _
                refine XS.goto X23.here hx rfl (pc0 := 71) (pc' := 75) rfl (hb hby at_71) (by decide) (by decide) ?_
                show Steps p.tables e below (T23.setTop (mkF m 75 #[.val (.int p0), .val (.int (1 : Int32)), .val (.int (1 : Int32)), .val (.int (0 : Int32))] [(.int (1 : Int32))])) _
                exact retN X23 hx (t := .boolean) Bd.returns (by simp) (hb hby at_75) hr
              · show Q_law Z p0 w_fl cl h0 n0 _ T23.heap _
                refine ⟨?_, N23, trivial⟩
                rw [F_law, if_pos hc6_4, if_pos hc21_6, if_neg hc34_8, if_pos hc49_18, if_pos hc58_21, if_pos hc67_24]
            · obtain ⟨fs, hr, hrun, hended, hW, hsame⟩ := X23.leave (v := some (.int (0 : Int32))) (fun h => by rw [Bd.returns] at h; cases h)
              refine ⟨_, _, pre25 _ ?_, hrun, hended, _, _, rfl, ?_, ⟨_, rfl⟩, hW, hsame.mono (by decide) (by decide)⟩
              · show Steps p.tables e below (T23.setTop (mkF m 67 #[.val (.int p0), .val (.int (1 : Int32)), .val (.int (1 : Int32)), .val (.int (0 : Int32))] [(.int (0 : Int32)), (.int (F_has p0 (1 : Int32)))])) _
                refine XS.icmpYes X23.here hx rfl (pc0 := 67) (pc' := 74) rfl (hb hby at_67) rfl (feq hc67_24).2 (by decide) (by decide) ?_
                show Steps p.tables e below (T23.setTop (mkF m 74 #[.val (.int p0), .val (.int (1 : Int32)), .val (.int (1 : Int32)), .val (.int (0 : Int32))] [])) _
                refine XS.iconst X23.here hx rfl (hb hby at_74) ?_
                show Steps p.tables e below (T23.setTop (mkF m 75 #[.val (.int p0), .val (.int (1 : Int32)), .val (.int (1 : Int32)), .val (.int (0 : Int32))] [(.int (0 : Int32))])) _
                exact retN X23 hx (t := .boolean) Bd.returns (by simp) (hb hby at_75) hr
              · show Q_law Z p0 w_fl cl h0 n0 _ T23.heap _
                refine ⟨?_, N23, trivial⟩
                rw [F_law, if_pos hc6_4, if_pos hc21_6, if_neg hc34_8, if_pos hc49_18, if_pos hc58_21, if_neg hc67_24]
          · obtain ⟨fs, hr, hrun, hended, hW, hsame⟩ := X20.leave (v := some (.int (0 : Int32))) (fun h => by rw [Bd.returns] at h; cases h)
            refine ⟨_, _, pre22 _ ?_, hrun, hended, _, _, rfl, ?_, ⟨_, rfl⟩, hW, hsame.mono (by decide) (by decide)⟩
            · show Steps p.tables e below (T20.setTop (mkF m 58 #[.val (.int p0), .val (.int (1 : Int32)), .val (.int (1 : Int32)), .val (.int (0 : Int32))] [(.int (1 : Int32)), (.int (F_has p0 (2 : Int32)))])) _
              refine XS.icmpYes X20.here hx rfl (pc0 := 58) (pc' := 74) rfl (hb hby at_58) rfl (feq hc58_21).2 (by decide) (by decide) ?_
              show Steps p.tables e below (T20.setTop (mkF m 74 #[.val (.int p0), .val (.int (1 : Int32)), .val (.int (1 : Int32)), .val (.int (0 : Int32))] [])) _
              refine XS.iconst X20.here hx rfl (hb hby at_74) ?_
              show Steps p.tables e below (T20.setTop (mkF m 75 #[.val (.int p0), .val (.int (1 : Int32)), .val (.int (1 : Int32)), .val (.int (0 : Int32))] [(.int (0 : Int32))])) _
              exact retN X20 hx (t := .boolean) Bd.returns (by simp) (hb hby at_75) hr
            · show Q_law Z p0 w_fl cl h0 n0 _ T20.heap _
              refine ⟨?_, N20, trivial⟩
              rw [F_law, if_pos hc6_4, if_pos hc21_6, if_neg hc34_8, if_pos hc49_18, if_neg hc58_21]
        · obtain ⟨fs, hr, hrun, hended, hW, hsame⟩ := X17.leave (v := some (.int (0 : Int32))) (fun h => by rw [Bd.returns] at h; cases h)
          refine ⟨_, _, pre19 _ ?_, hrun, hended, _, _, rfl, ?_, ⟨_, rfl⟩, hW, hsame.mono (by decide) (by decide)⟩
          · show Steps p.tables e below (T17.setTop (mkF m 49 #[.val (.int p0), .val (.int (1 : Int32)), .val (.int (1 : Int32)), .val (.int (0 : Int32))] [(.int (1 : Int32)), (.int (F_has p0 (4 : Int32)))])) _
            refine XS.icmpYes X17.here hx rfl (pc0 := 49) (pc' := 74) rfl (hb hby at_49) rfl (feq hc49_18).2 (by decide) (by decide) ?_
            show Steps p.tables e below (T17.setTop (mkF m 74 #[.val (.int p0), .val (.int (1 : Int32)), .val (.int (1 : Int32)), .val (.int (0 : Int32))] [])) _
            refine XS.iconst X17.here hx rfl (hb hby at_74) ?_
            show Steps p.tables e below (T17.setTop (mkF m 75 #[.val (.int p0), .val (.int (1 : Int32)), .val (.int (1 : Int32)), .val (.int (0 : Int32))] [(.int (0 : Int32))])) _
            exact retN X17 hx (t := .boolean) Bd.returns (by simp) (hb hby at_75) hr
          · show Q_law Z p0 w_fl cl h0 n0 _ T17.heap _
            refine ⟨?_, N17, trivial⟩
            rw [F_law, if_pos hc6_4, if_pos hc21_6, if_neg hc34_8, if_neg hc49_18]
    · have pre27 : ∀ t, Steps p.tables e below (s₁.setTop (mkF m 34 #[.val (.int p0), .val (.int (1 : Int32)), .val (.int (0 : Int32)), .unset] [(.int (1 : Int32)), (.int (p0 &&& (1 : Int32)))])) t → Steps p.tables e below (s₁.setTop (entryFrame m #[(.int p0)] maxLocals)) t := fun t k => pre7 t (by
        show Steps p.tables e below (s₁.setTop (mkF m 21 #[.val (.int p0), .val (.int (1 : Int32)), .unset, .unset] [(.int (1 : Int32)), (.int (((p0.toUInt32 >>> ((1 : Int32) &&& 31).toUInt32).toInt32) &&& (1 : Int32)))])) _
        refine XS.icmpYes X0.here hx rfl (pc0 := 21) (pc' := 28) rfl (hb hby at_21) rfl (feq hc21_6).2 (by decide) (by decide) ?_
        show Steps p.tables e below (s₁.setTop (mkF m 28 #[.val (.int p0), .val (.int (1 : Int32)), .unset, .unset] [])) _
        refine XS.iconst X0.here hx rfl (hb hby at_28) ?_
        show Steps p.tables e below (s₁.setTop (mkF m 29 #[.val (.int p0), .val (.int (1 : Int32)), .unset, .unset] [(.int (0 : Int32))])) _
        refine XS.istoreN X0.here hx rfl (hb hby at_29) rfl (l' := #[.val (.int p0), .val (.int (1 : Int32)), .val (.int (0 : Int32)), .unset]) rfl ?_
        show Steps p.tables e below (s₁.setTop (mkF m 30 #[.val (.int p0), .val (.int (1 : Int32)), .val (.int (0 : Int32)), .unset] [])) _
        refine XS.iloadN X0.here hx rfl (hb hby at_30) rfl ?_
        show Steps p.tables e below (s₁.setTop (mkF m 31 #[.val (.int p0), .val (.int (1 : Int32)), .val (.int (0 : Int32)), .unset] [(.int p0)])) _
        refine XS.iconst X0.here hx rfl (hb hby at_31) ?_
        show Steps p.tables e below (s₁.setTop (mkF m 32 #[.val (.int p0), .val (.int (1 : Int32)), .val (.int (0 : Int32)), .unset] [(.int (1 : Int32)), (.int p0)])) _
        refine XS.iand X0.here hx rfl (hb hby at_32) rfl ?_
        show Steps p.tables e below (s₁.setTop (mkF m 33 #[.val (.int p0), .val (.int (1 : Int32)), .val (.int (0 : Int32)), .unset] [(.int (p0 &&& (1 : Int32)))])) _
        refine XS.iconst X0.here hx rfl (hb hby at_33) ?_
        exact k)
      by_cases hc34_26 : (p0 &&& (1 : Int32)) = (1 : Int32)
      · obtain ⟨_, _, ⟨T28, L28, k28, n28⟩, -, X28, ⟨Lc28, hQ28, l28, y28, z28⟩, st28⟩ := Jvm.LawKit.callS X0 hx (y := (⟨"com/example/entry_to_apps/entrytoapps/IconCache", "hasExtension", "(II)Z"⟩ : MethodName)) hown (mvT hZ (hw _ (List.mem_of_getElem? (i := 0) rfl))) (mvT hZ (hw _ (List.mem_of_getElem? (i := 1) rfl))) (mvT hZ (hw _ (List.mem_of_getElem? (i := 2) rfl))) (mvT hZ (hw _ (List.mem_of_getElem? (i := 3) rfl))) (by decide) (backOf (W := 0) (rm_has l Z a0' hw [] p0 (0 : Int32) (4 : Int32) w_fl cl h0 n0 Z0 hin0 hat0 S_fl Ar_fl) hZ (hw _ (List.mem_of_getElem? (i := 3) rfl)) (hw _ (List.mem_of_getElem? (i := 2) rfl)) (by decide) (by decide)) (g := (mkF m 45 #[.val (.int p0), .val (.int (1 : Int32)), .val (.int (0 : Int32)), .val (.int (1 : Int32))] [(.int (0 : Int32)), (.int p0)])) rfl (by rw [hml]; rfl) (argsL := [(.int p0), (.int (0 : Int32))]) (rest := []) (lenOf own_pd0 rfl) rfl (by show 2 * 0 + _ ≤ _; exact Nat.le_of_eq rfl) (hb hby at_45) (fun _ _ => ⟨rfl, e0, (by decide : 0 + 0 ≤ _), (by decide : 0 + 0 ≤ _)⟩)
        dsimp only [Pt.U, Pt.locs, Pt.cells, Pt.slots] at X28 l28 y28 z28 st28 hQ28
        subst l28 y28 z28
        obtain ⟨rfl, N28q, e28⟩ := hQ28
        have N28 := Fr.app N0 N28q
        have pre30 : ∀ t, Steps p.tables e below (T28.setTop (mkF m 49 #[.val (.int p0), .val (.int (1 : Int32)), .val (.int (0 : Int32)), .val (.int (1 : Int32))] [(.int (1 : Int32)), (.int (F_has p0 (4 : Int32)))])) t → Steps p.tables e below (s₁.setTop (entryFrame m #[(.int p0)] maxLocals)) t := fun t k => pre27 t (by
          show Steps p.tables e below (s₁.setTop (mkF m 34 #[.val (.int p0), .val (.int (1 : Int32)), .val (.int (0 : Int32)), .unset] [(.int (1 : Int32)), (.int (p0 &&& (1 : Int32)))])) _
          refine XS.icmpNo X0.here hx rfl (hb hby at_34) rfl (teq hc34_26).2 ?_
          show Steps p.tables e below (s₁.setTop (mkF m 37 #[.val (.int p0), .val (.int (1 : Int32)), .val (.int (0 : Int32)), .unset] [])) _
          refine XS.iconst X0.here hx rfl (hb hby at_37) ?_
          show Steps p.tables e below (s₁.setTop (mkF m 38 #[.val (.int p0), .val (.int (1 : Int32)), .val (.int (0 : Int32)), .unset] [(.int (1 : Int32))])) _
          refine XS.goto X0.here hx rfl (pc0 := 38) (pc' := 42) rfl (hb hby at_38) (by decide) (by decide) ?_
          show Steps p.tables e below (s₁.setTop (mkF m 42 #[.val (.int p0), .val (.int (1 : Int32)), .val (.int (0 : Int32)), .unset] [(.int (1 : Int32))])) _
          refine XS.istoreN X0.here hx rfl (hb hby at_42) rfl (l' := #[.val (.int p0), .val (.int (1 : Int32)), .val (.int (0 : Int32)), .val (.int (1 : Int32))]) rfl ?_
          show Steps p.tables e below (s₁.setTop (mkF m 43 #[.val (.int p0), .val (.int (1 : Int32)), .val (.int (0 : Int32)), .val (.int (1 : Int32))] [])) _
          refine XS.iloadN X0.here hx rfl (hb hby at_43) rfl ?_
          show Steps p.tables e below (s₁.setTop (mkF m 44 #[.val (.int p0), .val (.int (1 : Int32)), .val (.int (0 : Int32)), .val (.int (1 : Int32))] [(.int p0)])) _
          refine XS.iconst X0.here hx rfl (hb hby at_44) ?_
          show Steps p.tables e below (s₁.setTop (mkF m 45 #[.val (.int p0), .val (.int (1 : Int32)), .val (.int (0 : Int32)), .val (.int (1 : Int32))] [(.int (0 : Int32)), (.int p0)])) _
          refine st28 _ ?_
          show Steps p.tables e below (T28.setTop (mkF m 48 #[.val (.int p0), .val (.int (1 : Int32)), .val (.int (0 : Int32)), .val (.int (1 : Int32))] [(.int (F_has p0 (4 : Int32)))])) _
          refine XS.iloadN X28.here hx rfl (hb hby at_48) rfl ?_
          exact k)
        by_cases hc49_29 : (F_has p0 (4 : Int32)) = (1 : Int32)
        · obtain ⟨_, _, ⟨T31, L31, k31, n31⟩, -, X31, ⟨Lc31, hQ31, l31, y31, z31⟩, st31⟩ := Jvm.LawKit.callS X28 hx (y := (⟨"com/example/entry_to_apps/entrytoapps/IconCache", "hasExtension", "(II)Z"⟩ : MethodName)) hown (mvT hZ (hw _ (List.mem_of_getElem? (i := 0) rfl))) (mvT hZ (hw _ (List.mem_of_getElem? (i := 1) rfl))) (mvT hZ (hw _ (List.mem_of_getElem? (i := 2) rfl))) (mvT hZ (hw _ (List.mem_of_getElem? (i := 3) rfl))) (by decide) (backOf (W := 0) (rm_has l Z a0' hw [] p0 (1 : Int32) (2 : Int32) w_fl cl h0 n0 Z0 hin1 hat1 S_fl Ar_fl) hZ (hw _ (List.mem_of_getElem? (i := 3) rfl)) (hw _ (List.mem_of_getElem? (i := 2) rfl)) (by decide) (by decide)) (g := (mkF m 54 #[.val (.int p0), .val (.int (1 : Int32)), .val (.int (0 : Int32)), .val (.int (1 : Int32))] [(.int (1 : Int32)), (.int p0)])) rfl (by rw [hml]; rfl) (argsL := [(.int p0), (.int (1 : Int32))]) (rest := []) (lenOf own_pd0 rfl) rfl (by show 2 * 0 + _ ≤ _; exact Nat.le_of_eq rfl) (hb hby at_54) (fun _ _ => ⟨rfl, e28, (by decide : 0 + 0 ≤ _), (by decide : 0 + 0 ≤ _)⟩)
          dsimp only [Pt.U, Pt.locs, Pt.cells, Pt.slots] at X31 l31 y31 z31 st31 hQ31
          subst l31 y31 z31
          obtain ⟨rfl, N31q, e31⟩ := hQ31
          have N31 := Fr.app N28 N31q
          have pre33 : ∀ t, Steps p.tables e below (T31.setTop (mkF m 58 #[.val (.int p0), .val (.int (1 : Int32)), .val (.int (0 : Int32)), .val (.int (1 : Int32))] [(.int (0 : Int32)), (.int (F_has p0 (2 : Int32)))])) t → Steps p.tables e below (s₁.setTop (entryFrame m #[(.int p0)] maxLocals)) t := fun t k => pre30 t (by
            show Steps p.tables e below (T28.setTop (mkF m 49 #[.val (.int p0), .val (.int (1 : Int32)), .val (.int (0 : Int32)), .val (.int (1 : Int32))] [(.int (1 : Int32)), (.int (F_has p0 (4 : Int32)))])) _
            refine XS.icmpNo X28.here hx rfl (hb hby at_49) rfl (teq hc49_29).2 ?_
            show Steps p.tables e below (T28.setTop (mkF m 52 #[.val (.int p0), .val (.int (1 : Int32)), .val (.int (0 : Int32)), .val (.int (1 : Int32))] [])) _
            refine XS.iloadN X28.here hx rfl (hb hby at_52) rfl ?_
            show Steps p.tables e below (T28.setTop (mkF m 53 #[.val (.int p0), .val (.int (1 : Int32)), .val (.int (0 : Int32)), .val (.int (1 : Int32))] [(.int p0)])) _
            refine XS.iconst X28.here hx rfl (hb hby at_53) ?_
            show Steps p.tables e below (T28.setTop (mkF m 54 #[.val (.int p0), .val (.int (1 : Int32)), .val (.int (0 : Int32)), .val (.int (1 : Int32))] [(.int (1 : Int32)), (.int p0)])) _
            refine st31 _ ?_
            show Steps p.tables e below (T31.setTop (mkF m 57 #[.val (.int p0), .val (.int (1 : Int32)), .val (.int (0 : Int32)), .val (.int (1 : Int32))] [(.int (F_has p0 (2 : Int32)))])) _
            refine XS.iloadN X31.here hx rfl (hb hby at_57) rfl ?_
            exact k)
          by_cases hc58_32 : (F_has p0 (2 : Int32)) = (0 : Int32)
          · obtain ⟨_, _, ⟨T34, L34, k34, n34⟩, -, X34, ⟨Lc34, hQ34, l34, y34, z34⟩, st34⟩ := Jvm.LawKit.callS X31 hx (y := (⟨"com/example/entry_to_apps/entrytoapps/IconCache", "hasExtension", "(II)Z"⟩ : MethodName)) hown (mvT hZ (hw _ (List.mem_of_getElem? (i := 0) rfl))) (mvT hZ (hw _ (List.mem_of_getElem? (i := 1) rfl))) (mvT hZ (hw _ (List.mem_of_getElem? (i := 2) rfl))) (mvT hZ (hw _ (List.mem_of_getElem? (i := 3) rfl))) (by decide) (backOf (W := 0) (rm_has l Z a0' hw [] p0 (2 : Int32) (1 : Int32) w_fl cl h0 n0 Z0 hin2 hat2 S_fl Ar_fl) hZ (hw _ (List.mem_of_getElem? (i := 3) rfl)) (hw _ (List.mem_of_getElem? (i := 2) rfl)) (by decide) (by decide)) (g := (mkF m 63 #[.val (.int p0), .val (.int (1 : Int32)), .val (.int (0 : Int32)), .val (.int (1 : Int32))] [(.int (2 : Int32)), (.int p0)])) rfl (by rw [hml]; rfl) (argsL := [(.int p0), (.int (2 : Int32))]) (rest := []) (lenOf own_pd0 rfl) rfl (by show 2 * 0 + _ ≤ _; exact Nat.le_of_eq rfl) (hb hby at_63) (fun _ _ => ⟨rfl, e31, (by decide : 0 + 0 ≤ _), (by decide : 0 + 0 ≤ _)⟩)
            dsimp only [Pt.U, Pt.locs, Pt.cells, Pt.slots] at X34 l34 y34 z34 st34 hQ34
            subst l34 y34 z34
            obtain ⟨rfl, N34q, e34⟩ := hQ34
            have N34 := Fr.app N31 N34q
            have q34 : (F_has p0 (1 : Int32)) = (1 : Int32) := by rw [F_has, if_neg (fun q => absurd (hc34_26.symm.trans q) (by decide))]
            rw [q34] at st34
            obtain ⟨fs, hr, hrun, hended, hW, hsame⟩ := X34.leave (v := some (.int (1 : Int32))) (fun h => by rw [Bd.returns] at h; cases h)
            refine ⟨_, _, pre33 _ ?_, hrun, hended, _, _, rfl, ?_, ⟨_, rfl⟩, hW, hsame.mono (by decide) (by decide)⟩
            · show Steps p.tables e below (T31.setTop (mkF m 58 #[.val (.int p0), .val (.int (1 : Int32)), .val (.int (0 : Int32)), .val (.int (1 : Int32))] [(.int (0 : Int32)), (.int (F_has p0 (2 : Int32)))])) _
              refine XS.icmpNo X31.here hx rfl (hb hby at_58) rfl (teq hc58_32).2 ?_
              show Steps p.tables e below (T31.setTop (mkF m 61 #[.val (.int p0), .val (.int (1 : Int32)), .val (.int (0 : Int32)), .val (.int (1 : Int32))] [])) _
              refine XS.iloadN X31.here hx rfl (hb hby at_61) rfl ?_
              show Steps p.tables e below (T31.setTop (mkF m 62 #[.val (.int p0), .val (.int (1 : Int32)), .val (.int (0 : Int32)), .val (.int (1 : Int32))] [(.int p0)])) _
              refine XS.iconst X31.here hx rfl (hb hby at_62) ?_
              show Steps p.tables e below (T31.setTop (mkF m 63 #[.val (.int p0), .val (.int (1 : Int32)), .val (.int (0 : Int32)), .val (.int (1 : Int32))] [(.int (2 : Int32)), (.int p0)])) _
              refine st34 _ ?_
              show Steps p.tables e below (T34.setTop (mkF m 66 #[.val (.int p0), .val (.int (1 : Int32)), .val (.int (0 : Int32)), .val (.int (1 : Int32))] [(.int (1 : Int32))])) _
              refine XS.iloadN X34.here hx rfl (hb hby at_66) rfl ?_
              show Steps p.tables e below (T34.setTop (mkF m 67 #[.val (.int p0), .val (.int (1 : Int32)), .val (.int (0 : Int32)), .val (.int (1 : Int32))] [(.int (1 : Int32)), (.int (1 : Int32))])) _
              refine XS.icmpNo X34.here hx rfl (hb hby at_67) rfl (teq (by decide : (1 : Int32) = (1 : Int32))).2 ?_
              show Steps p.tables e below (T34.setTop (mkF m 70 #[.val (.int p0), .val (.int (1 : Int32)), .val (.int (0 : Int32)), .val (.int (1 : Int32))] [])) _
              refine XS.iconst X34.here hx rfl (hb hby at_70) ?_
              show Steps p.tables e below (T34.setTop (mkF m 71 #[.val (.int p0), .val (.int (1 : Int32)), .val (.int (0 : Int32)), .val (.int (1 : Int32))] [(.int (1 : Int32))])) _
              refine XS.goto X34.here hx rfl (pc0 := 71) (pc' := 75) rfl (hb hby at_71) (by decide) (by decide) ?_
              show Steps p.tables e below (T34.setTop (mkF m 75 #[.val (.int p0), .val (.int (1 : Int32)), .val (.int (0 : Int32)), .val (.int (1 : Int32))] [(.int (1 : Int32))])) _
              exact retN X34 hx (t := .boolean) Bd.returns (by simp) (hb hby at_75) hr
            · show Q_law Z p0 w_fl cl h0 n0 _ T34.heap _
              refine ⟨?_, N34, trivial⟩
              rw [F_law, if_pos hc6_4, if_neg hc21_6, if_pos hc34_26, if_pos hc49_29, if_pos hc58_32]
          · obtain ⟨fs, hr, hrun, hended, hW, hsame⟩ := X31.leave (v := some (.int (0 : Int32))) (fun h => by rw [Bd.returns] at h; cases h)
            refine ⟨_, _, pre33 _ ?_, hrun, hended, _, _, rfl, ?_, ⟨_, rfl⟩, hW, hsame.mono (by decide) (by decide)⟩
            · show Steps p.tables e below (T31.setTop (mkF m 58 #[.val (.int p0), .val (.int (1 : Int32)), .val (.int (0 : Int32)), .val (.int (1 : Int32))] [(.int (0 : Int32)), (.int (F_has p0 (2 : Int32)))])) _
              refine XS.icmpYes X31.here hx rfl (pc0 := 58) (pc' := 74) rfl (hb hby at_58) rfl (feq hc58_32).2 (by decide) (by decide) ?_
              show Steps p.tables e below (T31.setTop (mkF m 74 #[.val (.int p0), .val (.int (1 : Int32)), .val (.int (0 : Int32)), .val (.int (1 : Int32))] [])) _
              refine XS.iconst X31.here hx rfl (hb hby at_74) ?_
              show Steps p.tables e below (T31.setTop (mkF m 75 #[.val (.int p0), .val (.int (1 : Int32)), .val (.int (0 : Int32)), .val (.int (1 : Int32))] [(.int (0 : Int32))])) _
              exact retN X31 hx (t := .boolean) Bd.returns (by simp) (hb hby at_75) hr
            · show Q_law Z p0 w_fl cl h0 n0 _ T31.heap _
              refine ⟨?_, N31, trivial⟩
              rw [F_law, if_pos hc6_4, if_neg hc21_6, if_pos hc34_26, if_pos hc49_29, if_neg hc58_32]
        · obtain ⟨fs, hr, hrun, hended, hW, hsame⟩ := X28.leave (v := some (.int (0 : Int32))) (fun h => by rw [Bd.returns] at h; cases h)
          refine ⟨_, _, pre30 _ ?_, hrun, hended, _, _, rfl, ?_, ⟨_, rfl⟩, hW, hsame.mono (by decide) (by decide)⟩
          · show Steps p.tables e below (T28.setTop (mkF m 49 #[.val (.int p0), .val (.int (1 : Int32)), .val (.int (0 : Int32)), .val (.int (1 : Int32))] [(.int (1 : Int32)), (.int (F_has p0 (4 : Int32)))])) _
            refine XS.icmpYes X28.here hx rfl (pc0 := 49) (pc' := 74) rfl (hb hby at_49) rfl (feq hc49_29).2 (by decide) (by decide) ?_
            show Steps p.tables e below (T28.setTop (mkF m 74 #[.val (.int p0), .val (.int (1 : Int32)), .val (.int (0 : Int32)), .val (.int (1 : Int32))] [])) _
            refine XS.iconst X28.here hx rfl (hb hby at_74) ?_
            show Steps p.tables e below (T28.setTop (mkF m 75 #[.val (.int p0), .val (.int (1 : Int32)), .val (.int (0 : Int32)), .val (.int (1 : Int32))] [(.int (0 : Int32))])) _
            exact retN X28 hx (t := .boolean) Bd.returns (by simp) (hb hby at_75) hr
          · show Q_law Z p0 w_fl cl h0 n0 _ T28.heap _
            refine ⟨?_, N28, trivial⟩
            rw [F_law, if_pos hc6_4, if_neg hc21_6, if_pos hc34_26, if_neg hc49_29]
      · obtain ⟨_, _, ⟨T35, L35, k35, n35⟩, -, X35, ⟨Lc35, hQ35, l35, y35, z35⟩, st35⟩ := Jvm.LawKit.callS X0 hx (y := (⟨"com/example/entry_to_apps/entrytoapps/IconCache", "hasExtension", "(II)Z"⟩ : MethodName)) hown (mvT hZ (hw _ (List.mem_of_getElem? (i := 0) rfl))) (mvT hZ (hw _ (List.mem_of_getElem? (i := 1) rfl))) (mvT hZ (hw _ (List.mem_of_getElem? (i := 2) rfl))) (mvT hZ (hw _ (List.mem_of_getElem? (i := 3) rfl))) (by decide) (backOf (W := 0) (rm_has l Z a0' hw [] p0 (0 : Int32) (4 : Int32) w_fl cl h0 n0 Z0 hin0 hat0 S_fl Ar_fl) hZ (hw _ (List.mem_of_getElem? (i := 3) rfl)) (hw _ (List.mem_of_getElem? (i := 2) rfl)) (by decide) (by decide)) (g := (mkF m 45 #[.val (.int p0), .val (.int (1 : Int32)), .val (.int (0 : Int32)), .val (.int (0 : Int32))] [(.int (0 : Int32)), (.int p0)])) rfl (by rw [hml]; rfl) (argsL := [(.int p0), (.int (0 : Int32))]) (rest := []) (lenOf own_pd0 rfl) rfl (by show 2 * 0 + _ ≤ _; exact Nat.le_of_eq rfl) (hb hby at_45) (fun _ _ => ⟨rfl, e0, (by decide : 0 + 0 ≤ _), (by decide : 0 + 0 ≤ _)⟩)
        dsimp only [Pt.U, Pt.locs, Pt.cells, Pt.slots] at X35 l35 y35 z35 st35 hQ35
        subst l35 y35 z35
        obtain ⟨rfl, N35q, e35⟩ := hQ35
        have N35 := Fr.app N0 N35q
        have pre37 : ∀ t, Steps p.tables e below (T35.setTop (mkF m 49 #[.val (.int p0), .val (.int (1 : Int32)), .val (.int (0 : Int32)), .val (.int (0 : Int32))] [(.int (1 : Int32)), (.int (F_has p0 (4 : Int32)))])) t → Steps p.tables e below (s₁.setTop (entryFrame m #[(.int p0)] maxLocals)) t := fun t k => pre27 t (by
          show Steps p.tables e below (s₁.setTop (mkF m 34 #[.val (.int p0), .val (.int (1 : Int32)), .val (.int (0 : Int32)), .unset] [(.int (1 : Int32)), (.int (p0 &&& (1 : Int32)))])) _
          refine XS.icmpYes X0.here hx rfl (pc0 := 34) (pc' := 41) rfl (hb hby at_34) rfl (feq hc34_26).2 (by decide) (by decide) ?_
          show Steps p.tables e below (s₁.setTop (mkF m 41 #[.val (.int p0), .val (.int (1 : Int32)), .val (.int (0 : Int32)), .unset] [])) _
          refine XS.iconst X0.here hx rfl (hb hby at_41) ?_
          show Steps p.tables e below (s₁.setTop (mkF m 42 #[.val (.int p0), .val (.int (1 : Int32)), .val (.int (0 : Int32)), .unset] [(.int (0 : Int32))])) _
          refine XS.istoreN X0.here hx rfl (hb hby at_42) rfl (l' := #[.val (.int p0), .val (.int (1 : Int32)), .val (.int (0 : Int32)), .val (.int (0 : Int32))]) rfl ?_
          show Steps p.tables e below (s₁.setTop (mkF m 43 #[.val (.int p0), .val (.int (1 : Int32)), .val (.int (0 : Int32)), .val (.int (0 : Int32))] [])) _
          refine XS.iloadN X0.here hx rfl (hb hby at_43) rfl ?_
          show Steps p.tables e below (s₁.setTop (mkF m 44 #[.val (.int p0), .val (.int (1 : Int32)), .val (.int (0 : Int32)), .val (.int (0 : Int32))] [(.int p0)])) _
          refine XS.iconst X0.here hx rfl (hb hby at_44) ?_
          show Steps p.tables e below (s₁.setTop (mkF m 45 #[.val (.int p0), .val (.int (1 : Int32)), .val (.int (0 : Int32)), .val (.int (0 : Int32))] [(.int (0 : Int32)), (.int p0)])) _
          refine st35 _ ?_
          show Steps p.tables e below (T35.setTop (mkF m 48 #[.val (.int p0), .val (.int (1 : Int32)), .val (.int (0 : Int32)), .val (.int (0 : Int32))] [(.int (F_has p0 (4 : Int32)))])) _
          refine XS.iloadN X35.here hx rfl (hb hby at_48) rfl ?_
          exact k)
        by_cases hc49_36 : (F_has p0 (4 : Int32)) = (1 : Int32)
        · obtain ⟨_, _, ⟨T38, L38, k38, n38⟩, -, X38, ⟨Lc38, hQ38, l38, y38, z38⟩, st38⟩ := Jvm.LawKit.callS X35 hx (y := (⟨"com/example/entry_to_apps/entrytoapps/IconCache", "hasExtension", "(II)Z"⟩ : MethodName)) hown (mvT hZ (hw _ (List.mem_of_getElem? (i := 0) rfl))) (mvT hZ (hw _ (List.mem_of_getElem? (i := 1) rfl))) (mvT hZ (hw _ (List.mem_of_getElem? (i := 2) rfl))) (mvT hZ (hw _ (List.mem_of_getElem? (i := 3) rfl))) (by decide) (backOf (W := 0) (rm_has l Z a0' hw [] p0 (1 : Int32) (2 : Int32) w_fl cl h0 n0 Z0 hin1 hat1 S_fl Ar_fl) hZ (hw _ (List.mem_of_getElem? (i := 3) rfl)) (hw _ (List.mem_of_getElem? (i := 2) rfl)) (by decide) (by decide)) (g := (mkF m 54 #[.val (.int p0), .val (.int (1 : Int32)), .val (.int (0 : Int32)), .val (.int (0 : Int32))] [(.int (1 : Int32)), (.int p0)])) rfl (by rw [hml]; rfl) (argsL := [(.int p0), (.int (1 : Int32))]) (rest := []) (lenOf own_pd0 rfl) rfl (by show 2 * 0 + _ ≤ _; exact Nat.le_of_eq rfl) (hb hby at_54) (fun _ _ => ⟨rfl, e35, (by decide : 0 + 0 ≤ _), (by decide : 0 + 0 ≤ _)⟩)
          dsimp only [Pt.U, Pt.locs, Pt.cells, Pt.slots] at X38 l38 y38 z38 st38 hQ38
          subst l38 y38 z38
          obtain ⟨rfl, N38q, e38⟩ := hQ38
          have N38 := Fr.app N35 N38q
          have pre40 : ∀ t, Steps p.tables e below (T38.setTop (mkF m 58 #[.val (.int p0), .val (.int (1 : Int32)), .val (.int (0 : Int32)), .val (.int (0 : Int32))] [(.int (0 : Int32)), (.int (F_has p0 (2 : Int32)))])) t → Steps p.tables e below (s₁.setTop (entryFrame m #[(.int p0)] maxLocals)) t := fun t k => pre37 t (by
            show Steps p.tables e below (T35.setTop (mkF m 49 #[.val (.int p0), .val (.int (1 : Int32)), .val (.int (0 : Int32)), .val (.int (0 : Int32))] [(.int (1 : Int32)), (.int (F_has p0 (4 : Int32)))])) _
            refine XS.icmpNo X35.here hx rfl (hb hby at_49) rfl (teq hc49_36).2 ?_
            show Steps p.tables e below (T35.setTop (mkF m 52 #[.val (.int p0), .val (.int (1 : Int32)), .val (.int (0 : Int32)), .val (.int (0 : Int32))] [])) _
            refine XS.iloadN X35.here hx rfl (hb hby at_52) rfl ?_
            show Steps p.tables e below (T35.setTop (mkF m 53 #[.val (.int p0), .val (.int (1 : Int32)), .val (.int (0 : Int32)), .val (.int (0 : Int32))] [(.int p0)])) _
            refine XS.iconst X35.here hx rfl (hb hby at_53) ?_
            show Steps p.tables e below (T35.setTop (mkF m 54 #[.val (.int p0), .val (.int (1 : Int32)), .val (.int (0 : Int32)), .val (.int (0 : Int32))] [(.int (1 : Int32)), (.int p0)])) _
            refine st38 _ ?_
            show Steps p.tables e below (T38.setTop (mkF m 57 #[.val (.int p0), .val (.int (1 : Int32)), .val (.int (0 : Int32)), .val (.int (0 : Int32))] [(.int (F_has p0 (2 : Int32)))])) _
            refine XS.iloadN X38.here hx rfl (hb hby at_57) rfl ?_
            exact k)
          by_cases hc58_39 : (F_has p0 (2 : Int32)) = (0 : Int32)
          · obtain ⟨_, _, ⟨T41, L41, k41, n41⟩, -, X41, ⟨Lc41, hQ41, l41, y41, z41⟩, st41⟩ := Jvm.LawKit.callS X38 hx (y := (⟨"com/example/entry_to_apps/entrytoapps/IconCache", "hasExtension", "(II)Z"⟩ : MethodName)) hown (mvT hZ (hw _ (List.mem_of_getElem? (i := 0) rfl))) (mvT hZ (hw _ (List.mem_of_getElem? (i := 1) rfl))) (mvT hZ (hw _ (List.mem_of_getElem? (i := 2) rfl))) (mvT hZ (hw _ (List.mem_of_getElem? (i := 3) rfl))) (by decide) (backOf (W := 0) (rm_has l Z a0' hw [] p0 (2 : Int32) (1 : Int32) w_fl cl h0 n0 Z0 hin2 hat2 S_fl Ar_fl) hZ (hw _ (List.mem_of_getElem? (i := 3) rfl)) (hw _ (List.mem_of_getElem? (i := 2) rfl)) (by decide) (by decide)) (g := (mkF m 63 #[.val (.int p0), .val (.int (1 : Int32)), .val (.int (0 : Int32)), .val (.int (0 : Int32))] [(.int (2 : Int32)), (.int p0)])) rfl (by rw [hml]; rfl) (argsL := [(.int p0), (.int (2 : Int32))]) (rest := []) (lenOf own_pd0 rfl) rfl (by show 2 * 0 + _ ≤ _; exact Nat.le_of_eq rfl) (hb hby at_63) (fun _ _ => ⟨rfl, e38, (by decide : 0 + 0 ≤ _), (by decide : 0 + 0 ≤ _)⟩)
            dsimp only [Pt.U, Pt.locs, Pt.cells, Pt.slots] at X41 l41 y41 z41 st41 hQ41
            subst l41 y41 z41
            obtain ⟨rfl, N41q, e41⟩ := hQ41
            have N41 := Fr.app N38 N41q
            have pre43 : ∀ t, Steps p.tables e below (T41.setTop (mkF m 67 #[.val (.int p0), .val (.int (1 : Int32)), .val (.int (0 : Int32)), .val (.int (0 : Int32))] [(.int (0 : Int32)), (.int (F_has p0 (1 : Int32)))])) t → Steps p.tables e below (s₁.setTop (entryFrame m #[(.int p0)] maxLocals)) t := fun t k => pre40 t (by
              show Steps p.tables e below (T38.setTop (mkF m 58 #[.val (.int p0), .val (.int (1 : Int32)), .val (.int (0 : Int32)), .val (.int (0 : Int32))] [(.int (0 : Int32)), (.int (F_has p0 (2 : Int32)))])) _
              refine XS.icmpNo X38.here hx rfl (hb hby at_58) rfl (teq hc58_39).2 ?_
              show Steps p.tables e below (T38.setTop (mkF m 61 #[.val (.int p0), .val (.int (1 : Int32)), .val (.int (0 : Int32)), .val (.int (0 : Int32))] [])) _
              refine XS.iloadN X38.here hx rfl (hb hby at_61) rfl ?_
              show Steps p.tables e below (T38.setTop (mkF m 62 #[.val (.int p0), .val (.int (1 : Int32)), .val (.int (0 : Int32)), .val (.int (0 : Int32))] [(.int p0)])) _
              refine XS.iconst X38.here hx rfl (hb hby at_62) ?_
              show Steps p.tables e below (T38.setTop (mkF m 63 #[.val (.int p0), .val (.int (1 : Int32)), .val (.int (0 : Int32)), .val (.int (0 : Int32))] [(.int (2 : Int32)), (.int p0)])) _
              refine st41 _ ?_
              show Steps p.tables e below (T41.setTop (mkF m 66 #[.val (.int p0), .val (.int (1 : Int32)), .val (.int (0 : Int32)), .val (.int (0 : Int32))] [(.int (F_has p0 (1 : Int32)))])) _
              refine XS.iloadN X41.here hx rfl (hb hby at_66) rfl ?_
              exact k)
            by_cases hc67_42 : (F_has p0 (1 : Int32)) = (0 : Int32)
            · obtain ⟨fs, hr, hrun, hended, hW, hsame⟩ := X41.leave (v := some (.int (1 : Int32))) (fun h => by rw [Bd.returns] at h; cases h)
              refine ⟨_, _, pre43 _ ?_, hrun, hended, _, _, rfl, ?_, ⟨_, rfl⟩, hW, hsame.mono (by decide) (by decide)⟩
              · show Steps p.tables e below (T41.setTop (mkF m 67 #[.val (.int p0), .val (.int (1 : Int32)), .val (.int (0 : Int32)), .val (.int (0 : Int32))] [(.int (0 : Int32)), (.int (F_has p0 (1 : Int32)))])) _
                refine XS.icmpNo X41.here hx rfl (hb hby at_67) rfl (teq hc67_42).2 ?_
                show Steps p.tables e below (T41.setTop (mkF m 70 #[.val (.int p0), .val (.int (1 : Int32)), .val (.int (0 : Int32)), .val (.int (0 : Int32))] [])) _
                refine XS.iconst X41.here hx rfl (hb hby at_70) ?_
                show Steps p.tables e below (T41.setTop (mkF m 71 #[.val (.int p0), .val (.int (1 : Int32)), .val (.int (0 : Int32)), .val (.int (0 : Int32))] [(.int (1 : Int32))])) _
                refine XS.goto X41.here hx rfl (pc0 := 71) (pc' := 75) rfl (hb hby at_71) (by decide) (by decide) ?_
                show Steps p.tables e below (T41.setTop (mkF m 75 #[.val (.int p0), .val (.int (1 : Int32)), .val (.int (0 : Int32)), .val (.int (0 : Int32))] [(.int (1 : Int32))])) _
                exact retN X41 hx (t := .boolean) Bd.returns (by simp) (hb hby at_75) hr
              · show Q_law Z p0 w_fl cl h0 n0 _ T41.heap _
                refine ⟨?_, N41, trivial⟩
                rw [F_law, if_pos hc6_4, if_neg hc21_6, if_neg hc34_26, if_pos hc49_36, if_pos hc58_39, if_pos hc67_42]
            · obtain ⟨fs, hr, hrun, hended, hW, hsame⟩ := X41.leave (v := some (.int (0 : Int32))) (fun h => by rw [Bd.returns] at h; cases h)
              refine ⟨_, _, pre43 _ ?_, hrun, hended, _, _, rfl, ?_, ⟨_, rfl⟩, hW, hsame.mono (by decide) (by decide)⟩
              · show Steps p.tables e below (T41.setTop (mkF m 67 #[.val (.int p0), .val (.int (1 : Int32)), .val (.int (0 : Int32)), .val (.int (0 : Int32))] [(.int (0 : Int32)), (.int (F_has p0 (1 : Int32)))])) _
                refine XS.icmpYes X41.here hx rfl (pc0 := 67) (pc' := 74) rfl (hb hby at_67) rfl (feq hc67_42).2 (by decide) (by decide) ?_
                show Steps p.tables e below (T41.setTop (mkF m 74 #[.val (.int p0), .val (.int (1 : Int32)), .val (.int (0 : Int32)), .val (.int (0 : Int32))] [])) _
                refine XS.iconst X41.here hx rfl (hb hby at_74) ?_
                show Steps p.tables e below (T41.setTop (mkF m 75 #[.val (.int p0), .val (.int (1 : Int32)), .val (.int (0 : Int32)), .val (.int (0 : Int32))] [(.int (0 : Int32))])) _
                exact retN X41 hx (t := .boolean) Bd.returns (by simp) (hb hby at_75) hr
              · show Q_law Z p0 w_fl cl h0 n0 _ T41.heap _
                refine ⟨?_, N41, trivial⟩
                rw [F_law, if_pos hc6_4, if_neg hc21_6, if_neg hc34_26, if_pos hc49_36, if_pos hc58_39, if_neg hc67_42]
          · obtain ⟨fs, hr, hrun, hended, hW, hsame⟩ := X38.leave (v := some (.int (0 : Int32))) (fun h => by rw [Bd.returns] at h; cases h)
            refine ⟨_, _, pre40 _ ?_, hrun, hended, _, _, rfl, ?_, ⟨_, rfl⟩, hW, hsame.mono (by decide) (by decide)⟩
            · show Steps p.tables e below (T38.setTop (mkF m 58 #[.val (.int p0), .val (.int (1 : Int32)), .val (.int (0 : Int32)), .val (.int (0 : Int32))] [(.int (0 : Int32)), (.int (F_has p0 (2 : Int32)))])) _
              refine XS.icmpYes X38.here hx rfl (pc0 := 58) (pc' := 74) rfl (hb hby at_58) rfl (feq hc58_39).2 (by decide) (by decide) ?_
              show Steps p.tables e below (T38.setTop (mkF m 74 #[.val (.int p0), .val (.int (1 : Int32)), .val (.int (0 : Int32)), .val (.int (0 : Int32))] [])) _
              refine XS.iconst X38.here hx rfl (hb hby at_74) ?_
              show Steps p.tables e below (T38.setTop (mkF m 75 #[.val (.int p0), .val (.int (1 : Int32)), .val (.int (0 : Int32)), .val (.int (0 : Int32))] [(.int (0 : Int32))])) _
              exact retN X38 hx (t := .boolean) Bd.returns (by simp) (hb hby at_75) hr
            · show Q_law Z p0 w_fl cl h0 n0 _ T38.heap _
              refine ⟨?_, N38, trivial⟩
              rw [F_law, if_pos hc6_4, if_neg hc21_6, if_neg hc34_26, if_pos hc49_36, if_neg hc58_39]
        · obtain ⟨fs, hr, hrun, hended, hW, hsame⟩ := X35.leave (v := some (.int (0 : Int32))) (fun h => by rw [Bd.returns] at h; cases h)
          refine ⟨_, _, pre37 _ ?_, hrun, hended, _, _, rfl, ?_, ⟨_, rfl⟩, hW, hsame.mono (by decide) (by decide)⟩
          · show Steps p.tables e below (T35.setTop (mkF m 49 #[.val (.int p0), .val (.int (1 : Int32)), .val (.int (0 : Int32)), .val (.int (0 : Int32))] [(.int (1 : Int32)), (.int (F_has p0 (4 : Int32)))])) _
            refine XS.icmpYes X35.here hx rfl (pc0 := 49) (pc' := 74) rfl (hb hby at_49) rfl (feq hc49_36).2 (by decide) (by decide) ?_
            show Steps p.tables e below (T35.setTop (mkF m 74 #[.val (.int p0), .val (.int (1 : Int32)), .val (.int (0 : Int32)), .val (.int (0 : Int32))] [])) _
            refine XS.iconst X35.here hx rfl (hb hby at_74) ?_
            show Steps p.tables e below (T35.setTop (mkF m 75 #[.val (.int p0), .val (.int (1 : Int32)), .val (.int (0 : Int32)), .val (.int (0 : Int32))] [(.int (0 : Int32))])) _
            exact retN X35 hx (t := .boolean) Bd.returns (by simp) (hb hby at_75) hr
          · show Q_law Z p0 w_fl cl h0 n0 _ T35.heap _
            refine ⟨?_, N35, trivial⟩
            rw [F_law, if_pos hc6_4, if_neg hc21_6, if_neg hc34_26, if_neg hc49_36]
  · have pre45 : ∀ t, Steps p.tables e below (s₁.setTop (mkF m 21 #[.val (.int p0), .val (.int (0 : Int32)), .unset, .unset] [(.int (1 : Int32)), (.int (((p0.toUInt32 >>> ((1 : Int32) &&& 31).toUInt32).toInt32) &&& (1 : Int32)))])) t → Steps p.tables e below (s₁.setTop (entryFrame m #[(.int p0)] maxLocals)) t := fun t k => pre5 t (by
      show Steps p.tables e below (s₁.setTop (mkF m 6 #[.val (.int p0), .unset, .unset, .unset] [(.int (1 : Int32)), (.int (((p0.toUInt32 >>> ((2 : Int32) &&& 31).toUInt32).toInt32) &&& (1 : Int32)))])) _
      refine XS.icmpYes X0.here hx rfl (pc0 := 6) (pc' := 13) rfl (hb hby at_6) rfl (feq hc6_4).2 (by decide) (by decide) ?_
      show Steps p.tables e below (s₁.setTop (mkF m 13 #[.val (.int p0), .unset, .unset, .unset] [])) _
      refine XS.iconst X0.here hx rfl (hb hby at_13) ?_
      show Steps p.tables e below (s₁.setTop (mkF m 14 #[.val (.int p0), .unset, .unset, .unset] [(.int (0 : Int32))])) _
      refine XS.istoreN X0.here hx rfl (hb hby at_14) rfl (l' := #[.val (.int p0), .val (.int (0 : Int32)), .unset, .unset]) rfl ?_
      show Steps p.tables e below (s₁.setTop (mkF m 15 #[.val (.int p0), .val (.int (0 : Int32)), .unset, .unset] [])) _
      refine XS.iloadN X0.here hx rfl (hb hby at_15) rfl ?_
      show Steps p.tables e below (s₁.setTop (mkF m 16 #[.val (.int p0), .val (.int (0 : Int32)), .unset, .unset] [(.int p0)])) _
      refine XS.iconst X0.here hx rfl (hb hby at_16) ?_
      show Steps p.tables e below (s₁.setTop (mkF m 17 #[.val (.int p0), .val (.int (0 : Int32)), .unset, .unset] [(.int (1 : Int32)), (.int p0)])) _
      refine XS.iushr X0.here hx rfl (hb hby at_17) rfl ?_
      show Steps p.tables e below (s₁.setTop (mkF m 18 #[.val (.int p0), .val (.int (0 : Int32)), .unset, .unset] [(.int ((p0.toUInt32 >>> ((1 : Int32) &&& 31).toUInt32).toInt32))])) _
      refine XS.iconst X0.here hx rfl (hb hby at_18) ?_
      show Steps p.tables e below (s₁.setTop (mkF m 19 #[.val (.int p0), .val (.int (0 : Int32)), .unset, .unset] [(.int (1 : Int32)), (.int ((p0.toUInt32 >>> ((1 : Int32) &&& 31).toUInt32).toInt32))])) _
      refine XS.iand X0.here hx rfl (hb hby at_19) rfl ?_
      show Steps p.tables e below (s₁.setTop (mkF m 20 #[.val (.int p0), .val (.int (0 : Int32)), .unset, .unset] [(.int (((p0.toUInt32 >>> ((1 : Int32) &&& 31).toUInt32).toInt32) &&& (1 : Int32)))])) _
      refine XS.iconst X0.here hx rfl (hb hby at_20) ?_
      exact k)
    by_cases hc21_44 : (((p0.toUInt32 >>> ((1 : Int32) &&& 31).toUInt32).toInt32) &&& (1 : Int32)) = (1 : Int32)
    · have pre47 : ∀ t, Steps p.tables e below (s₁.setTop (mkF m 34 #[.val (.int p0), .val (.int (0 : Int32)), .val (.int (1 : Int32)), .unset] [(.int (1 : Int32)), (.int (p0 &&& (1 : Int32)))])) t → Steps p.tables e below (s₁.setTop (entryFrame m #[(.int p0)] maxLocals)) t := fun t k => pre45 t (by
        show Steps p.tables e below (s₁.setTop (mkF m 21 #[.val (.int p0), .val (.int (0 : Int32)), .unset, .unset] [(.int (1 : Int32)), (.int (((p0.toUInt32 >>> ((1 : Int32) &&& 31).toUInt32).toInt32) &&& (1 : Int32)))])) _
        refine XS.icmpNo X0.here hx rfl (hb hby at_21) rfl (teq hc21_44).2 ?_
        show Steps p.tables e below (s₁.setTop (mkF m 24 #[.val (.int p0), .val (.int (0 : Int32)), .unset, .unset] [])) _
        refine XS.iconst X0.here hx rfl (hb hby at_24) ?_
        show Steps p.tables e below (s₁.setTop (mkF m 25 #[.val (.int p0), .val (.int (0 : Int32)), .unset, .unset] [(.int (1 : Int32))])) _
        refine XS.goto X0.here hx rfl (pc0 := 25) (pc' := 29) rfl (hb hby at_25) (by decide) (by decide) ?_
        show Steps p.tables e below (s₁.setTop (mkF m 29 #[.val (.int p0), .val (.int (0 : Int32)), .unset, .unset] [(.int (1 : Int32))])) _
        refine XS.istoreN X0.here hx rfl (hb hby at_29) rfl (l' := #[.val (.int p0), .val (.int (0 : Int32)), .val (.int (1 : Int32)), .unset]) rfl ?_
        show Steps p.tables e below (s₁.setTop (mkF m 30 #[.val (.int p0), .val (.int (0 : Int32)), .val (.int (1 : Int32)), .unset] [])) _
        refine XS.iloadN X0.here hx rfl (hb hby at_30) rfl ?_
        show Steps p.tables e below (s₁.setTop (mkF m 31 #[.val (.int p0), .val (.int (0 : Int32)), .val (.int (1 : Int32)), .unset] [(.int p0)])) _
        refine XS.iconst X0.here hx rfl (hb hby at_31) ?_
        show Steps p.tables e below (s₁.setTop (mkF m 32 #[.val (.int p0), .val (.int (0 : Int32)), .val (.int (1 : Int32)), .unset] [(.int (1 : Int32)), (.int p0)])) _
        refine XS.iand X0.here hx rfl (hb hby at_32) rfl ?_
        show Steps p.tables e below (s₁.setTop (mkF m 33 #[.val (.int p0), .val (.int (0 : Int32)), .val (.int (1 : Int32)), .unset] [(.int (p0 &&& (1 : Int32)))])) _
        refine XS.iconst X0.here hx rfl (hb hby at_33) ?_
        exact k)
      by_cases hc34_46 : (p0 &&& (1 : Int32)) = (1 : Int32)
      · obtain ⟨_, _, ⟨T48, L48, k48, n48⟩, -, X48, ⟨Lc48, hQ48, l48, y48, z48⟩, st48⟩ := Jvm.LawKit.callS X0 hx (y := (⟨"com/example/entry_to_apps/entrytoapps/IconCache", "hasExtension", "(II)Z"⟩ : MethodName)) hown (mvT hZ (hw _ (List.mem_of_getElem? (i := 0) rfl))) (mvT hZ (hw _ (List.mem_of_getElem? (i := 1) rfl))) (mvT hZ (hw _ (List.mem_of_getElem? (i := 2) rfl))) (mvT hZ (hw _ (List.mem_of_getElem? (i := 3) rfl))) (by decide) (backOf (W := 0) (rm_has l Z a0' hw [] p0 (0 : Int32) (4 : Int32) w_fl cl h0 n0 Z0 hin0 hat0 S_fl Ar_fl) hZ (hw _ (List.mem_of_getElem? (i := 3) rfl)) (hw _ (List.mem_of_getElem? (i := 2) rfl)) (by decide) (by decide)) (g := (mkF m 45 #[.val (.int p0), .val (.int (0 : Int32)), .val (.int (1 : Int32)), .val (.int (1 : Int32))] [(.int (0 : Int32)), (.int p0)])) rfl (by rw [hml]; rfl) (argsL := [(.int p0), (.int (0 : Int32))]) (rest := []) (lenOf own_pd0 rfl) rfl (by show 2 * 0 + _ ≤ _; exact Nat.le_of_eq rfl) (hb hby at_45) (fun _ _ => ⟨rfl, e0, (by decide : 0 + 0 ≤ _), (by decide : 0 + 0 ≤ _)⟩)
        dsimp only [Pt.U, Pt.locs, Pt.cells, Pt.slots] at X48 l48 y48 z48 st48 hQ48
        subst l48 y48 z48
        obtain ⟨rfl, N48q, e48⟩ := hQ48
        have N48 := Fr.app N0 N48q
        have pre50 : ∀ t, Steps p.tables e below (T48.setTop (mkF m 49 #[.val (.int p0), .val (.int (0 : Int32)), .val (.int (1 : Int32)), .val (.int (1 : Int32))] [(.int (0 : Int32)), (.int (F_has p0 (4 : Int32)))])) t → Steps p.tables e below (s₁.setTop (entryFrame m #[(.int p0)] maxLocals)) t := fun t k => pre47 t (by
          show Steps p.tables e below (s₁.setTop (mkF m 34 #[.val (.int p0), .val (.int (0 : Int32)), .val (.int (1 : Int32)), .unset] [(.int (1 : Int32)), (.int (p0 &&& (1 : Int32)))])) _
          refine XS.icmpNo X0.here hx rfl (hb hby at_34) rfl (teq hc34_46).2 ?_
          show Steps p.tables e below (s₁.setTop (mkF m 37 #[.val (.int p0), .val (.int (0 : Int32)), .val (.int (1 : Int32)), .unset] [])) _
          refine XS.iconst X0.here hx rfl (hb hby at_37) ?_
          show Steps p.tables e below (s₁.setTop (mkF m 38 #[.val (.int p0), .val (.int (0 : Int32)), .val (.int (1 : Int32)), .unset] [(.int (1 : Int32))])) _
          refine XS.goto X0.here hx rfl (pc0 := 38) (pc' := 42) rfl (hb hby at_38) (by decide) (by decide) ?_
          show Steps p.tables e below (s₁.setTop (mkF m 42 #[.val (.int p0), .val (.int (0 : Int32)), .val (.int (1 : Int32)), .unset] [(.int (1 : Int32))])) _
          refine XS.istoreN X0.here hx rfl (hb hby at_42) rfl (l' := #[.val (.int p0), .val (.int (0 : Int32)), .val (.int (1 : Int32)), .val (.int (1 : Int32))]) rfl ?_
          show Steps p.tables e below (s₁.setTop (mkF m 43 #[.val (.int p0), .val (.int (0 : Int32)), .val (.int (1 : Int32)), .val (.int (1 : Int32))] [])) _
          refine XS.iloadN X0.here hx rfl (hb hby at_43) rfl ?_
          show Steps p.tables e below (s₁.setTop (mkF m 44 #[.val (.int p0), .val (.int (0 : Int32)), .val (.int (1 : Int32)), .val (.int (1 : Int32))] [(.int p0)])) _
          refine XS.iconst X0.here hx rfl (hb hby at_44) ?_
          show Steps p.tables e below (s₁.setTop (mkF m 45 #[.val (.int p0), .val (.int (0 : Int32)), .val (.int (1 : Int32)), .val (.int (1 : Int32))] [(.int (0 : Int32)), (.int p0)])) _
          refine st48 _ ?_
          show Steps p.tables e below (T48.setTop (mkF m 48 #[.val (.int p0), .val (.int (0 : Int32)), .val (.int (1 : Int32)), .val (.int (1 : Int32))] [(.int (F_has p0 (4 : Int32)))])) _
          refine XS.iloadN X48.here hx rfl (hb hby at_48) rfl ?_
          exact k)
        by_cases hc49_49 : (F_has p0 (4 : Int32)) = (0 : Int32)
        · obtain ⟨_, _, ⟨T51, L51, k51, n51⟩, -, X51, ⟨Lc51, hQ51, l51, y51, z51⟩, st51⟩ := Jvm.LawKit.callS X48 hx (y := (⟨"com/example/entry_to_apps/entrytoapps/IconCache", "hasExtension", "(II)Z"⟩ : MethodName)) hown (mvT hZ (hw _ (List.mem_of_getElem? (i := 0) rfl))) (mvT hZ (hw _ (List.mem_of_getElem? (i := 1) rfl))) (mvT hZ (hw _ (List.mem_of_getElem? (i := 2) rfl))) (mvT hZ (hw _ (List.mem_of_getElem? (i := 3) rfl))) (by decide) (backOf (W := 0) (rm_has l Z a0' hw [] p0 (1 : Int32) (2 : Int32) w_fl cl h0 n0 Z0 hin1 hat1 S_fl Ar_fl) hZ (hw _ (List.mem_of_getElem? (i := 3) rfl)) (hw _ (List.mem_of_getElem? (i := 2) rfl)) (by decide) (by decide)) (g := (mkF m 54 #[.val (.int p0), .val (.int (0 : Int32)), .val (.int (1 : Int32)), .val (.int (1 : Int32))] [(.int (1 : Int32)), (.int p0)])) rfl (by rw [hml]; rfl) (argsL := [(.int p0), (.int (1 : Int32))]) (rest := []) (lenOf own_pd0 rfl) rfl (by show 2 * 0 + _ ≤ _; exact Nat.le_of_eq rfl) (hb hby at_54) (fun _ _ => ⟨rfl, e48, (by decide : 0 + 0 ≤ _), (by decide : 0 + 0 ≤ _)⟩)
          dsimp only [Pt.U, Pt.locs, Pt.cells, Pt.slots] at X51 l51 y51 z51 st51 hQ51
          subst l51 y51 z51
          obtain ⟨rfl, N51q, e51⟩ := hQ51
          have N51 := Fr.app N48 N51q
          have pre53 : ∀ t, Steps p.tables e below (T51.setTop (mkF m 58 #[.val (.int p0), .val (.int (0 : Int32)), .val (.int (1 : Int32)), .val (.int (1 : Int32))] [(.int (1 : Int32)), (.int (F_has p0 (2 : Int32)))])) t → Steps p.tables e below (s₁.setTop (entryFrame m #[(.int p0)] maxLocals)) t := fun t k => pre50 t (by
            show Steps p.tables e below (T48.setTop (mkF m 49 #[.val (.int p0), .val (.int (0 : Int32)), .val (.int (1 : Int32)), .val (.int (1 : Int32))] [(.int (0 : Int32)), (.int (F_has p0 (4 : Int32)))])) _
            refine XS.icmpNo X48.here hx rfl (hb hby at_49) rfl (teq hc49_49).2 ?_
            show Steps p.tables e below (T48.setTop (mkF m 52 #[.val (.int p0), .val (.int (0 : Int32)), .val (.int (1 : Int32)), .val (.int (1 : Int32))] [])) _
            refine XS.iloadN X48.here hx rfl (hb hby at_52) rfl ?_
            show Steps p.tables e below (T48.setTop (mkF m 53 #[.val (.int p0), .val (.int (0 : Int32)), .val (.int (1 : Int32)), .val (.int (1 : Int32))] [(.int p0)])) _
            refine XS.iconst X48.here hx rfl (hb hby at_53) ?_
            show Steps p.tables e below (T48.setTop (mkF m 54 #[.val (.int p0), .val (.int (0 : Int32)), .val (.int (1 : Int32)), .val (.int (1 : Int32))] [(.int (1 : Int32)), (.int p0)])) _
            refine st51 _ ?_
            show Steps p.tables e below (T51.setTop (mkF m 57 #[.val (.int p0), .val (.int (0 : Int32)), .val (.int (1 : Int32)), .val (.int (1 : Int32))] [(.int (F_has p0 (2 : Int32)))])) _
            refine XS.iloadN X51.here hx rfl (hb hby at_57) rfl ?_
            exact k)
          by_cases hc58_52 : (F_has p0 (2 : Int32)) = (1 : Int32)
          · obtain ⟨_, _, ⟨T54, L54, k54, n54⟩, -, X54, ⟨Lc54, hQ54, l54, y54, z54⟩, st54⟩ := Jvm.LawKit.callS X51 hx (y := (⟨"com/example/entry_to_apps/entrytoapps/IconCache", "hasExtension", "(II)Z"⟩ : MethodName)) hown (mvT hZ (hw _ (List.mem_of_getElem? (i := 0) rfl))) (mvT hZ (hw _ (List.mem_of_getElem? (i := 1) rfl))) (mvT hZ (hw _ (List.mem_of_getElem? (i := 2) rfl))) (mvT hZ (hw _ (List.mem_of_getElem? (i := 3) rfl))) (by decide) (backOf (W := 0) (rm_has l Z a0' hw [] p0 (2 : Int32) (1 : Int32) w_fl cl h0 n0 Z0 hin2 hat2 S_fl Ar_fl) hZ (hw _ (List.mem_of_getElem? (i := 3) rfl)) (hw _ (List.mem_of_getElem? (i := 2) rfl)) (by decide) (by decide)) (g := (mkF m 63 #[.val (.int p0), .val (.int (0 : Int32)), .val (.int (1 : Int32)), .val (.int (1 : Int32))] [(.int (2 : Int32)), (.int p0)])) rfl (by rw [hml]; rfl) (argsL := [(.int p0), (.int (2 : Int32))]) (rest := []) (lenOf own_pd0 rfl) rfl (by show 2 * 0 + _ ≤ _; exact Nat.le_of_eq rfl) (hb hby at_63) (fun _ _ => ⟨rfl, e51, (by decide : 0 + 0 ≤ _), (by decide : 0 + 0 ≤ _)⟩)
            dsimp only [Pt.U, Pt.locs, Pt.cells, Pt.slots] at X54 l54 y54 z54 st54 hQ54
            subst l54 y54 z54
            obtain ⟨rfl, N54q, e54⟩ := hQ54
            have N54 := Fr.app N51 N54q
            have q54 : (F_has p0 (1 : Int32)) = (1 : Int32) := by rw [F_has, if_neg (fun q => absurd (hc34_46.symm.trans q) (by decide))]
            rw [q54] at st54
            obtain ⟨fs, hr, hrun, hended, hW, hsame⟩ := X54.leave (v := some (.int (1 : Int32))) (fun h => by rw [Bd.returns] at h; cases h)
            refine ⟨_, _, pre53 _ ?_, hrun, hended, _, _, rfl, ?_, ⟨_, rfl⟩, hW, hsame.mono (by decide) (by decide)⟩
            · show Steps p.tables e below (T51.setTop (mkF m 58 #[.val (.int p0), .val (.int (0 : Int32)), .val (.int (1 : Int32)), .val (.int (1 : Int32))] [(.int (1 : Int32)), (.int (F_has p0 (2 : Int32)))])) _
              refine XS.icmpNo X51.here hx rfl (hb hby at_58) rfl (teq hc58_52).2 ?_
              show Steps p.tables e below (T51.setTop (mkF m 61 #[.val (.int p0), .val (.int (0 : Int32)), .val (.int (1 : Int32)), .val (.int (1 : Int32))] [])) _
              refine XS.iloadN X51.here hx rfl (hb hby at_61) rfl ?_
              show Steps p.tables e below (T51.setTop (mkF m 62 #[.val (.int p0), .val (.int (0 : Int32)), .val (.int (1 : Int32)), .val (.int (1 : Int32))] [(.int p0)])) _
              refine XS.iconst X51.here hx rfl (hb hby at_62) ?_
              show Steps p.tables e below (T51.setTop (mkF m 63 #[.val (.int p0), .val (.int (0 : Int32)), .val (.int (1 : Int32)), .val (.int (1 : Int32))] [(.int (2 : Int32)), (.int p0)])) _
              refine st54 _ ?_
              show Steps p.tables e below (T54.setTop (mkF m 66 #[.val (.int p0), .val (.int (0 : Int32)), .val (.int (1 : Int32)), .val (.int (1 : Int32))] [(.int (1 : Int32))])) _
              refine XS.iloadN X54.here hx rfl (hb hby at_66) rfl ?_
              show Steps p.tables e below (T54.setTop (mkF m 67 #[.val (.int p0), .val (.int (0 : Int32)), .val (.int (1 : Int32)), .val (.int (1 : Int32))] [(.int (1 : Int32)), (.int (1 : Int32))])) _
              refine XS.icmpNo X54.here hx rfl (hb hby at_67) rfl (teq (by decide : (1 : Int32) = (1 : Int32))).2 ?_
              show Steps p.tables e below (T54.setTop (mkF m 70 #[.val (.int p0), .val (.int (0 : Int32)), .val (.int (1 : Int32)), .val (.int (1 : Int32))] [])) _
              refine XS.iconst X54.here hx rfl (hb hby at_70) ?_
              show Steps p.tables e below (T54.setTop (mkF m 71 #[.val (.int p0), .val (.int (0 : Int32)), .val (.int (1 : Int32)), .val (.int (1 : Int32))] [(.int (1 : Int32))])) _
              refine XS.goto X54.here hx rfl (pc0 := 71) (pc' := 75) rfl (hb hby at_71) (by decide) (by decide) ?_
              show Steps p.tables e below (T54.setTop (mkF m 75 #[.val (.int p0), .val (.int (0 : Int32)), .val (.int (1 : Int32)), .val (.int (1 : Int32))] [(.int (1 : Int32))])) _
              exact retN X54 hx (t := .boolean) Bd.returns (by simp) (hb hby at_75) hr
            · show Q_law Z p0 w_fl cl h0 n0 _ T54.heap _
              refine ⟨?_, N54, trivial⟩
              rw [F_law, if_neg hc6_4, if_pos hc21_44, if_pos hc34_46, if_pos hc49_49, if_pos hc58_52]
          · obtain ⟨fs, hr, hrun, hended, hW, hsame⟩ := X51.leave (v := some (.int (0 : Int32))) (fun h => by rw [Bd.returns] at h; cases h)
            refine ⟨_, _, pre53 _ ?_, hrun, hended, _, _, rfl, ?_, ⟨_, rfl⟩, hW, hsame.mono (by decide) (by decide)⟩
            · show Steps p.tables e below (T51.setTop (mkF m 58 #[.val (.int p0), .val (.int (0 : Int32)), .val (.int (1 : Int32)), .val (.int (1 : Int32))] [(.int (1 : Int32)), (.int (F_has p0 (2 : Int32)))])) _
              refine XS.icmpYes X51.here hx rfl (pc0 := 58) (pc' := 74) rfl (hb hby at_58) rfl (feq hc58_52).2 (by decide) (by decide) ?_
              show Steps p.tables e below (T51.setTop (mkF m 74 #[.val (.int p0), .val (.int (0 : Int32)), .val (.int (1 : Int32)), .val (.int (1 : Int32))] [])) _
              refine XS.iconst X51.here hx rfl (hb hby at_74) ?_
              show Steps p.tables e below (T51.setTop (mkF m 75 #[.val (.int p0), .val (.int (0 : Int32)), .val (.int (1 : Int32)), .val (.int (1 : Int32))] [(.int (0 : Int32))])) _
              exact retN X51 hx (t := .boolean) Bd.returns (by simp) (hb hby at_75) hr
            · show Q_law Z p0 w_fl cl h0 n0 _ T51.heap _
              refine ⟨?_, N51, trivial⟩
              rw [F_law, if_neg hc6_4, if_pos hc21_44, if_pos hc34_46, if_pos hc49_49, if_neg hc58_52]
        · obtain ⟨fs, hr, hrun, hended, hW, hsame⟩ := X48.leave (v := some (.int (0 : Int32))) (fun h => by rw [Bd.returns] at h; cases h)
          refine ⟨_, _, pre50 _ ?_, hrun, hended, _, _, rfl, ?_, ⟨_, rfl⟩, hW, hsame.mono (by decide) (by decide)⟩
          · show Steps p.tables e below (T48.setTop (mkF m 49 #[.val (.int p0), .val (.int (0 : Int32)), .val (.int (1 : Int32)), .val (.int (1 : Int32))] [(.int (0 : Int32)), (.int (F_has p0 (4 : Int32)))])) _
            refine XS.icmpYes X48.here hx rfl (pc0 := 49) (pc' := 74) rfl (hb hby at_49) rfl (feq hc49_49).2 (by decide) (by decide) ?_
            show Steps p.tables e below (T48.setTop (mkF m 74 #[.val (.int p0), .val (.int (0 : Int32)), .val (.int (1 : Int32)), .val (.int (1 : Int32))] [])) _
            refine XS.iconst X48.here hx rfl (hb hby at_74) ?_
            show Steps p.tables e below (T48.setTop (mkF m 75 #[.val (.int p0), .val (.int (0 : Int32)), .val (.int (1 : Int32)), .val (.int (1 : Int32))] [(.int (0 : Int32))])) _
            exact retN X48 hx (t := .boolean) Bd.returns (by simp) (hb hby at_75) hr
          · show Q_law Z p0 w_fl cl h0 n0 _ T48.heap _
            refine ⟨?_, N48, trivial⟩
            rw [F_law, if_neg hc6_4, if_pos hc21_44, if_pos hc34_46, if_neg hc49_49]
      · obtain ⟨_, _, ⟨T55, L55, k55, n55⟩, -, X55, ⟨Lc55, hQ55, l55, y55, z55⟩, st55⟩ := Jvm.LawKit.callS X0 hx (y := (⟨"com/example/entry_to_apps/entrytoapps/IconCache", "hasExtension", "(II)Z"⟩ : MethodName)) hown (mvT hZ (hw _ (List.mem_of_getElem? (i := 0) rfl))) (mvT hZ (hw _ (List.mem_of_getElem? (i := 1) rfl))) (mvT hZ (hw _ (List.mem_of_getElem? (i := 2) rfl))) (mvT hZ (hw _ (List.mem_of_getElem? (i := 3) rfl))) (by decide) (backOf (W := 0) (rm_has l Z a0' hw [] p0 (0 : Int32) (4 : Int32) w_fl cl h0 n0 Z0 hin0 hat0 S_fl Ar_fl) hZ (hw _ (List.mem_of_getElem? (i := 3) rfl)) (hw _ (List.mem_of_getElem? (i := 2) rfl)) (by decide) (by decide)) (g := (mkF m 45 #[.val (.int p0), .val (.int (0 : Int32)), .val (.int (1 : Int32)), .val (.int (0 : Int32))] [(.int (0 : Int32)), (.int p0)])) rfl (by rw [hml]; rfl) (argsL := [(.int p0), (.int (0 : Int32))]) (rest := []) (lenOf own_pd0 rfl) rfl (by show 2 * 0 + _ ≤ _; exact Nat.le_of_eq rfl) (hb hby at_45) (fun _ _ => ⟨rfl, e0, (by decide : 0 + 0 ≤ _), (by decide : 0 + 0 ≤ _)⟩)
        dsimp only [Pt.U, Pt.locs, Pt.cells, Pt.slots] at X55 l55 y55 z55 st55 hQ55
        subst l55 y55 z55
        obtain ⟨rfl, N55q, e55⟩ := hQ55
        have N55 := Fr.app N0 N55q
        have pre57 : ∀ t, Steps p.tables e below (T55.setTop (mkF m 49 #[.val (.int p0), .val (.int (0 : Int32)), .val (.int (1 : Int32)), .val (.int (0 : Int32))] [(.int (0 : Int32)), (.int (F_has p0 (4 : Int32)))])) t → Steps p.tables e below (s₁.setTop (entryFrame m #[(.int p0)] maxLocals)) t := fun t k => pre47 t (by
          show Steps p.tables e below (s₁.setTop (mkF m 34 #[.val (.int p0), .val (.int (0 : Int32)), .val (.int (1 : Int32)), .unset] [(.int (1 : Int32)), (.int (p0 &&& (1 : Int32)))])) _
          refine XS.icmpYes X0.here hx rfl (pc0 := 34) (pc' := 41) rfl (hb hby at_34) rfl (feq hc34_46).2 (by decide) (by decide) ?_
          show Steps p.tables e below (s₁.setTop (mkF m 41 #[.val (.int p0), .val (.int (0 : Int32)), .val (.int (1 : Int32)), .unset] [])) _
          refine XS.iconst X0.here hx rfl (hb hby at_41) ?_
          show Steps p.tables e below (s₁.setTop (mkF m 42 #[.val (.int p0), .val (.int (0 : Int32)), .val (.int (1 : Int32)), .unset] [(.int (0 : Int32))])) _
          refine XS.istoreN X0.here hx rfl (hb hby at_42) rfl (l' := #[.val (.int p0), .val (.int (0 : Int32)), .val (.int (1 : Int32)), .val (.int (0 : Int32))]) rfl ?_
          show Steps p.tables e below (s₁.setTop (mkF m 43 #[.val (.int p0), .val (.int (0 : Int32)), .val (.int (1 : Int32)), .val (.int (0 : Int32))] [])) _
          refine XS.iloadN X0.here hx rfl (hb hby at_43) rfl ?_
          show Steps p.tables e below (s₁.setTop (mkF m 44 #[.val (.int p0), .val (.int (0 : Int32)), .val (.int (1 : Int32)), .val (.int (0 : Int32))] [(.int p0)])) _
          refine XS.iconst X0.here hx rfl (hb hby at_44) ?_
          show Steps p.tables e below (s₁.setTop (mkF m 45 #[.val (.int p0), .val (.int (0 : Int32)), .val (.int (1 : Int32)), .val (.int (0 : Int32))] [(.int (0 : Int32)), (.int p0)])) _
          refine st55 _ ?_
          show Steps p.tables e below (T55.setTop (mkF m 48 #[.val (.int p0), .val (.int (0 : Int32)), .val (.int (1 : Int32)), .val (.int (0 : Int32))] [(.int (F_has p0 (4 : Int32)))])) _
          refine XS.iloadN X55.here hx rfl (hb hby at_48) rfl ?_
          exact k)
        by_cases hc49_56 : (F_has p0 (4 : Int32)) = (0 : Int32)
        · obtain ⟨_, _, ⟨T58, L58, k58, n58⟩, -, X58, ⟨Lc58, hQ58, l58, y58, z58⟩, st58⟩ := Jvm.LawKit.callS X55 hx (y := (⟨"com/example/entry_to_apps/entrytoapps/IconCache", "hasExtension", "(II)Z"⟩ : MethodName)) hown (mvT hZ (hw _ (List.mem_of_getElem? (i := 0) rfl))) (mvT hZ (hw _ (List.mem_of_getElem? (i := 1) rfl))) (mvT hZ (hw _ (List.mem_of_getElem? (i := 2) rfl))) (mvT hZ (hw _ (List.mem_of_getElem? (i := 3) rfl))) (by decide) (backOf (W := 0) (rm_has l Z a0' hw [] p0 (1 : Int32) (2 : Int32) w_fl cl h0 n0 Z0 hin1 hat1 S_fl Ar_fl) hZ (hw _ (List.mem_of_getElem? (i := 3) rfl)) (hw _ (List.mem_of_getElem? (i := 2) rfl)) (by decide) (by decide)) (g := (mkF m 54 #[.val (.int p0), .val (.int (0 : Int32)), .val (.int (1 : Int32)), .val (.int (0 : Int32))] [(.int (1 : Int32)), (.int p0)])) rfl (by rw [hml]; rfl) (argsL := [(.int p0), (.int (1 : Int32))]) (rest := []) (lenOf own_pd0 rfl) rfl (by show 2 * 0 + _ ≤ _; exact Nat.le_of_eq rfl) (hb hby at_54) (fun _ _ => ⟨rfl, e55, (by decide : 0 + 0 ≤ _), (by decide : 0 + 0 ≤ _)⟩)
          dsimp only [Pt.U, Pt.locs, Pt.cells, Pt.slots] at X58 l58 y58 z58 st58 hQ58
          subst l58 y58 z58
          obtain ⟨rfl, N58q, e58⟩ := hQ58
          have N58 := Fr.app N55 N58q
          have pre60 : ∀ t, Steps p.tables e below (T58.setTop (mkF m 58 #[.val (.int p0), .val (.int (0 : Int32)), .val (.int (1 : Int32)), .val (.int (0 : Int32))] [(.int (1 : Int32)), (.int (F_has p0 (2 : Int32)))])) t → Steps p.tables e below (s₁.setTop (entryFrame m #[(.int p0)] maxLocals)) t := fun t k => pre57 t (by
            show Steps p.tables e below (T55.setTop (mkF m 49 #[.val (.int p0), .val (.int (0 : Int32)), .val (.int (1 : Int32)), .val (.int (0 : Int32))] [(.int (0 : Int32)), (.int (F_has p0 (4 : Int32)))])) _
            refine XS.icmpNo X55.here hx rfl (hb hby at_49) rfl (teq hc49_56).2 ?_
            show Steps p.tables e below (T55.setTop (mkF m 52 #[.val (.int p0), .val (.int (0 : Int32)), .val (.int (1 : Int32)), .val (.int (0 : Int32))] [])) _
            refine XS.iloadN X55.here hx rfl (hb hby at_52) rfl ?_
            show Steps p.tables e below (T55.setTop (mkF m 53 #[.val (.int p0), .val (.int (0 : Int32)), .val (.int (1 : Int32)), .val (.int (0 : Int32))] [(.int p0)])) _
            refine XS.iconst X55.here hx rfl (hb hby at_53) ?_
            show Steps p.tables e below (T55.setTop (mkF m 54 #[.val (.int p0), .val (.int (0 : Int32)), .val (.int (1 : Int32)), .val (.int (0 : Int32))] [(.int (1 : Int32)), (.int p0)])) _
            refine st58 _ ?_
            show Steps p.tables e below (T58.setTop (mkF m 57 #[.val (.int p0), .val (.int (0 : Int32)), .val (.int (1 : Int32)), .val (.int (0 : Int32))] [(.int (F_has p0 (2 : Int32)))])) _
            refine XS.iloadN X58.here hx rfl (hb hby at_57) rfl ?_
            exact k)
          by_cases hc58_59 : (F_has p0 (2 : Int32)) = (1 : Int32)
          · obtain ⟨_, _, ⟨T61, L61, k61, n61⟩, -, X61, ⟨Lc61, hQ61, l61, y61, z61⟩, st61⟩ := Jvm.LawKit.callS X58 hx (y := (⟨"com/example/entry_to_apps/entrytoapps/IconCache", "hasExtension", "(II)Z"⟩ : MethodName)) hown (mvT hZ (hw _ (List.mem_of_getElem? (i := 0) rfl))) (mvT hZ (hw _ (List.mem_of_getElem? (i := 1) rfl))) (mvT hZ (hw _ (List.mem_of_getElem? (i := 2) rfl))) (mvT hZ (hw _ (List.mem_of_getElem? (i := 3) rfl))) (by decide) (backOf (W := 0) (rm_has l Z a0' hw [] p0 (2 : Int32) (1 : Int32) w_fl cl h0 n0 Z0 hin2 hat2 S_fl Ar_fl) hZ (hw _ (List.mem_of_getElem? (i := 3) rfl)) (hw _ (List.mem_of_getElem? (i := 2) rfl)) (by decide) (by decide)) (g := (mkF m 63 #[.val (.int p0), .val (.int (0 : Int32)), .val (.int (1 : Int32)), .val (.int (0 : Int32))] [(.int (2 : Int32)), (.int p0)])) rfl (by rw [hml]; rfl) (argsL := [(.int p0), (.int (2 : Int32))]) (rest := []) (lenOf own_pd0 rfl) rfl (by show 2 * 0 + _ ≤ _; exact Nat.le_of_eq rfl) (hb hby at_63) (fun _ _ => ⟨rfl, e58, (by decide : 0 + 0 ≤ _), (by decide : 0 + 0 ≤ _)⟩)
            dsimp only [Pt.U, Pt.locs, Pt.cells, Pt.slots] at X61 l61 y61 z61 st61 hQ61
            subst l61 y61 z61
            obtain ⟨rfl, N61q, e61⟩ := hQ61
            have N61 := Fr.app N58 N61q
            have pre63 : ∀ t, Steps p.tables e below (T61.setTop (mkF m 67 #[.val (.int p0), .val (.int (0 : Int32)), .val (.int (1 : Int32)), .val (.int (0 : Int32))] [(.int (0 : Int32)), (.int (F_has p0 (1 : Int32)))])) t → Steps p.tables e below (s₁.setTop (entryFrame m #[(.int p0)] maxLocals)) t := fun t k => pre60 t (by
              show Steps p.tables e below (T58.setTop (mkF m 58 #[.val (.int p0), .val (.int (0 : Int32)), .val (.int (1 : Int32)), .val (.int (0 : Int32))] [(.int (1 : Int32)), (.int (F_has p0 (2 : Int32)))])) _
              refine XS.icmpNo X58.here hx rfl (hb hby at_58) rfl (teq hc58_59).2 ?_
              show Steps p.tables e below (T58.setTop (mkF m 61 #[.val (.int p0), .val (.int (0 : Int32)), .val (.int (1 : Int32)), .val (.int (0 : Int32))] [])) _
              refine XS.iloadN X58.here hx rfl (hb hby at_61) rfl ?_
              show Steps p.tables e below (T58.setTop (mkF m 62 #[.val (.int p0), .val (.int (0 : Int32)), .val (.int (1 : Int32)), .val (.int (0 : Int32))] [(.int p0)])) _
              refine XS.iconst X58.here hx rfl (hb hby at_62) ?_
              show Steps p.tables e below (T58.setTop (mkF m 63 #[.val (.int p0), .val (.int (0 : Int32)), .val (.int (1 : Int32)), .val (.int (0 : Int32))] [(.int (2 : Int32)), (.int p0)])) _
              refine st61 _ ?_
              show Steps p.tables e below (T61.setTop (mkF m 66 #[.val (.int p0), .val (.int (0 : Int32)), .val (.int (1 : Int32)), .val (.int (0 : Int32))] [(.int (F_has p0 (1 : Int32)))])) _
              refine XS.iloadN X61.here hx rfl (hb hby at_66) rfl ?_
              exact k)
            by_cases hc67_62 : (F_has p0 (1 : Int32)) = (0 : Int32)
            · obtain ⟨fs, hr, hrun, hended, hW, hsame⟩ := X61.leave (v := some (.int (1 : Int32))) (fun h => by rw [Bd.returns] at h; cases h)
              refine ⟨_, _, pre63 _ ?_, hrun, hended, _, _, rfl, ?_, ⟨_, rfl⟩, hW, hsame.mono (by decide) (by decide)⟩
              · show Steps p.tables e below (T61.setTop (mkF m 67 #[.val (.int p0), .val (.int (0 : Int32)), .val (.int (1 : Int32)), .val (.int (0 : Int32))] [(.int (0 : Int32)), (.int (F_has p0 (1 : Int32)))])) _
                refine XS.icmpNo X61.here hx rfl (hb hby at_67) rfl (teq hc67_62).2 ?_
                show Steps p.tables e below (T61.setTop (mkF m 70 #[.val (.int p0), .val (.int (0 : Int32)), .val (.int (1 : Int32)), .val (.int (0 : Int32))] [])) _
                refine XS.iconst X61.here hx rfl (hb hby at_70) ?_
                show Steps p.tables e below (T61.setTop (mkF m 71 #[.val (.int p0), .val (.int (0 : Int32)), .val (.int (1 : Int32)), .val (.int (0 : Int32))] [(.int (1 : Int32))])) _
                refine XS.goto X61.here hx rfl (pc0 := 71) (pc' := 75) rfl (hb hby at_71) (by decide) (by decide) ?_
                show Steps p.tables e below (T61.setTop (mkF m 75 #[.val (.int p0), .val (.int (0 : Int32)), .val (.int (1 : Int32)), .val (.int (0 : Int32))] [(.int (1 : Int32))])) _
                exact retN X61 hx (t := .boolean) Bd.returns (by simp) (hb hby at_75) hr
              · show Q_law Z p0 w_fl cl h0 n0 _ T61.heap _
                refine ⟨?_, N61, trivial⟩
                rw [F_law, if_neg hc6_4, if_pos hc21_44, if_neg hc34_46, if_pos hc49_56, if_pos hc58_59, if_pos hc67_62]
            · obtain ⟨fs, hr, hrun, hended, hW, hsame⟩ := X61.leave (v := some (.int (0 : Int32))) (fun h => by rw [Bd.returns] at h; cases h)
              refine ⟨_, _, pre63 _ ?_, hrun, hended, _, _, rfl, ?_, ⟨_, rfl⟩, hW, hsame.mono (by decide) (by decide)⟩
              · show Steps p.tables e below (T61.setTop (mkF m 67 #[.val (.int p0), .val (.int (0 : Int32)), .val (.int (1 : Int32)), .val (.int (0 : Int32))] [(.int (0 : Int32)), (.int (F_has p0 (1 : Int32)))])) _
                refine XS.icmpYes X61.here hx rfl (pc0 := 67) (pc' := 74) rfl (hb hby at_67) rfl (feq hc67_62).2 (by decide) (by decide) ?_
                show Steps p.tables e below (T61.setTop (mkF m 74 #[.val (.int p0), .val (.int (0 : Int32)), .val (.int (1 : Int32)), .val (.int (0 : Int32))] [])) _
                refine XS.iconst X61.here hx rfl (hb hby at_74) ?_
                show Steps p.tables e below (T61.setTop (mkF m 75 #[.val (.int p0), .val (.int (0 : Int32)), .val (.int (1 : Int32)), .val (.int (0 : Int32))] [(.int (0 : Int32))])) _
                exact retN X61 hx (t := .boolean) Bd.returns (by simp) (hb hby at_75) hr
              · show Q_law Z p0 w_fl cl h0 n0 _ T61.heap _
                refine ⟨?_, N61, trivial⟩
                rw [F_law, if_neg hc6_4, if_pos hc21_44, if_neg hc34_46, if_pos hc49_56, if_pos hc58_59, if_neg hc67_62]
          · obtain ⟨fs, hr, hrun, hended, hW, hsame⟩ := X58.leave (v := some (.int (0 : Int32))) (fun h => by rw [Bd.returns] at h; cases h)
            refine ⟨_, _, pre60 _ ?_, hrun, hended, _, _, rfl, ?_, ⟨_, rfl⟩, hW, hsame.mono (by decide) (by decide)⟩
            · show Steps p.tables e below (T58.setTop (mkF m 58 #[.val (.int p0), .val (.int (0 : Int32)), .val (.int (1 : Int32)), .val (.int (0 : Int32))] [(.int (1 : Int32)), (.int (F_has p0 (2 : Int32)))])) _
              refine XS.icmpYes X58.here hx rfl (pc0 := 58) (pc' := 74) rfl (hb hby at_58) rfl (feq hc58_59).2 (by decide) (by decide) ?_
              show Steps p.tables e below (T58.setTop (mkF m 74 #[.val (.int p0), .val (.int (0 : Int32)), .val (.int (1 : Int32)), .val (.int (0 : Int32))] [])) _
              refine XS.iconst X58.here hx rfl (hb hby at_74) ?_
              show Steps p.tables e below (T58.setTop (mkF m 75 #[.val (.int p0), .val (.int (0 : Int32)), .val (.int (1 : Int32)), .val (.int (0 : Int32))] [(.int (0 : Int32))])) _
              exact retN X58 hx (t := .boolean) Bd.returns (by simp) (hb hby at_75) hr
            · show Q_law Z p0 w_fl cl h0 n0 _ T58.heap _
              refine ⟨?_, N58, trivial⟩
              rw [F_law, if_neg hc6_4, if_pos hc21_44, if_neg hc34_46, if_pos hc49_56, if_neg hc58_59]
        · obtain ⟨fs, hr, hrun, hended, hW, hsame⟩ := X55.leave (v := some (.int (0 : Int32))) (fun h => by rw [Bd.returns] at h; cases h)
          refine ⟨_, _, pre57 _ ?_, hrun, hended, _, _, rfl, ?_, ⟨_, rfl⟩, hW, hsame.mono (by decide) (by decide)⟩
          · show Steps p.tables e below (T55.setTop (mkF m 49 #[.val (.int p0), .val (.int (0 : Int32)), .val (.int (1 : Int32)), .val (.int (0 : Int32))] [(.int (0 : Int32)), (.int (F_has p0 (4 : Int32)))])) _
            refine XS.icmpYes X55.here hx rfl (pc0 := 49) (pc' := 74) rfl (hb hby at_49) rfl (feq hc49_56).2 (by decide) (by decide) ?_
            show Steps p.tables e below (T55.setTop (mkF m 74 #[.val (.int p0), .val (.int (0 : Int32)), .val (.int (1 : Int32)), .val (.int (0 : Int32))] [])) _
            refine XS.iconst X55.here hx rfl (hb hby at_74) ?_
            show Steps p.tables e below (T55.setTop (mkF m 75 #[.val (.int p0), .val (.int (0 : Int32)), .val (.int (1 : Int32)), .val (.int (0 : Int32))] [(.int (0 : Int32))])) _
            exact retN X55 hx (t := .boolean) Bd.returns (by simp) (hb hby at_75) hr
          · show Q_law Z p0 w_fl cl h0 n0 _ T55.heap _
            refine ⟨?_, N55, trivial⟩
            rw [F_law, if_neg hc6_4, if_pos hc21_44, if_neg hc34_46, if_neg hc49_56]
    · have pre65 : ∀ t, Steps p.tables e below (s₁.setTop (mkF m 34 #[.val (.int p0), .val (.int (0 : Int32)), .val (.int (0 : Int32)), .unset] [(.int (1 : Int32)), (.int (p0 &&& (1 : Int32)))])) t → Steps p.tables e below (s₁.setTop (entryFrame m #[(.int p0)] maxLocals)) t := fun t k => pre45 t (by
        show Steps p.tables e below (s₁.setTop (mkF m 21 #[.val (.int p0), .val (.int (0 : Int32)), .unset, .unset] [(.int (1 : Int32)), (.int (((p0.toUInt32 >>> ((1 : Int32) &&& 31).toUInt32).toInt32) &&& (1 : Int32)))])) _
        refine XS.icmpYes X0.here hx rfl (pc0 := 21) (pc' := 28) rfl (hb hby at_21) rfl (feq hc21_44).2 (by decide) (by decide) ?_
        show Steps p.tables e below (s₁.setTop (mkF m 28 #[.val (.int p0), .val (.int (0 : Int32)), .unset, .unset] [])) _
        refine XS.iconst X0.here hx rfl (hb hby at_28) ?_
        show Steps p.tables e below (s₁.setTop (mkF m 29 #[.val (.int p0), .val (.int (0 : Int32)), .unset, .unset] [(.int (0 : Int32))])) _
        refine XS.istoreN X0.here hx rfl (hb hby at_29) rfl (l' := #[.val (.int p0), .val (.int (0 : Int32)), .val (.int (0 : Int32)), .unset]) rfl ?_
        show Steps p.tables e below (s₁.setTop (mkF m 30 #[.val (.int p0), .val (.int (0 : Int32)), .val (.int (0 : Int32)), .unset] [])) _
        refine XS.iloadN X0.here hx rfl (hb hby at_30) rfl ?_
        show Steps p.tables e below (s₁.setTop (mkF m 31 #[.val (.int p0), .val (.int (0 : Int32)), .val (.int (0 : Int32)), .unset] [(.int p0)])) _
        refine XS.iconst X0.here hx rfl (hb hby at_31) ?_
        show Steps p.tables e below (s₁.setTop (mkF m 32 #[.val (.int p0), .val (.int (0 : Int32)), .val (.int (0 : Int32)), .unset] [(.int (1 : Int32)), (.int p0)])) _
        refine XS.iand X0.here hx rfl (hb hby at_32) rfl ?_
        show Steps p.tables e below (s₁.setTop (mkF m 33 #[.val (.int p0), .val (.int (0 : Int32)), .val (.int (0 : Int32)), .unset] [(.int (p0 &&& (1 : Int32)))])) _
        refine XS.iconst X0.here hx rfl (hb hby at_33) ?_
        exact k)
      by_cases hc34_64 : (p0 &&& (1 : Int32)) = (1 : Int32)
      · obtain ⟨_, _, ⟨T66, L66, k66, n66⟩, -, X66, ⟨Lc66, hQ66, l66, y66, z66⟩, st66⟩ := Jvm.LawKit.callS X0 hx (y := (⟨"com/example/entry_to_apps/entrytoapps/IconCache", "hasExtension", "(II)Z"⟩ : MethodName)) hown (mvT hZ (hw _ (List.mem_of_getElem? (i := 0) rfl))) (mvT hZ (hw _ (List.mem_of_getElem? (i := 1) rfl))) (mvT hZ (hw _ (List.mem_of_getElem? (i := 2) rfl))) (mvT hZ (hw _ (List.mem_of_getElem? (i := 3) rfl))) (by decide) (backOf (W := 0) (rm_has l Z a0' hw [] p0 (0 : Int32) (4 : Int32) w_fl cl h0 n0 Z0 hin0 hat0 S_fl Ar_fl) hZ (hw _ (List.mem_of_getElem? (i := 3) rfl)) (hw _ (List.mem_of_getElem? (i := 2) rfl)) (by decide) (by decide)) (g := (mkF m 45 #[.val (.int p0), .val (.int (0 : Int32)), .val (.int (0 : Int32)), .val (.int (1 : Int32))] [(.int (0 : Int32)), (.int p0)])) rfl (by rw [hml]; rfl) (argsL := [(.int p0), (.int (0 : Int32))]) (rest := []) (lenOf own_pd0 rfl) rfl (by show 2 * 0 + _ ≤ _; exact Nat.le_of_eq rfl) (hb hby at_45) (fun _ _ => ⟨rfl, e0, (by decide : 0 + 0 ≤ _), (by decide : 0 + 0 ≤ _)⟩)
        dsimp only [Pt.U, Pt.locs, Pt.cells, Pt.slots] at X66 l66 y66 z66 st66 hQ66
        subst l66 y66 z66
        obtain ⟨rfl, N66q, e66⟩ := hQ66
        have N66 := Fr.app N0 N66q
        have pre68 : ∀ t, Steps p.tables e below (T66.setTop (mkF m 49 #[.val (.int p0), .val (.int (0 : Int32)), .val (.int (0 : Int32)), .val (.int (1 : Int32))] [(.int (0 : Int32)), (.int (F_has p0 (4 : Int32)))])) t → Steps p.tables e below (s₁.setTop (entryFrame m #[(.int p0)] maxLocals)) t := fun t k => pre65 t (by
          show Steps p.tables e below (s₁.setTop (mkF m 34 #[.val (.int p0), .val (.int (0 : Int32)), .val (.int (0 : Int32)), .unset] [(.int (1 : Int32)), (.int (p0 &&& (1 : Int32)))])) _
          refine XS.icmpNo X0.here hx rfl (hb hby at_34) rfl (teq hc34_64).2 ?_
          show Steps p.tables e below (s₁.setTop (mkF m 37 #[.val (.int p0), .val (.int (0 : Int32)), .val (.int (0 : Int32)), .unset] [])) _
          refine XS.iconst X0.here hx rfl (hb hby at_37) ?_
          show Steps p.tables e below (s₁.setTop (mkF m 38 #[.val (.int p0), .val (.int (0 : Int32)), .val (.int (0 : Int32)), .unset] [(.int (1 : Int32))])) _
          refine XS.goto X0.here hx rfl (pc0 := 38) (pc' := 42) rfl (hb hby at_38) (by decide) (by decide) ?_
          show Steps p.tables e below (s₁.setTop (mkF m 42 #[.val (.int p0), .val (.int (0 : Int32)), .val (.int (0 : Int32)), .unset] [(.int (1 : Int32))])) _
          refine XS.istoreN X0.here hx rfl (hb hby at_42) rfl (l' := #[.val (.int p0), .val (.int (0 : Int32)), .val (.int (0 : Int32)), .val (.int (1 : Int32))]) rfl ?_
          show Steps p.tables e below (s₁.setTop (mkF m 43 #[.val (.int p0), .val (.int (0 : Int32)), .val (.int (0 : Int32)), .val (.int (1 : Int32))] [])) _
          refine XS.iloadN X0.here hx rfl (hb hby at_43) rfl ?_
          show Steps p.tables e below (s₁.setTop (mkF m 44 #[.val (.int p0), .val (.int (0 : Int32)), .val (.int (0 : Int32)), .val (.int (1 : Int32))] [(.int p0)])) _
          refine XS.iconst X0.here hx rfl (hb hby at_44) ?_
          show Steps p.tables e below (s₁.setTop (mkF m 45 #[.val (.int p0), .val (.int (0 : Int32)), .val (.int (0 : Int32)), .val (.int (1 : Int32))] [(.int (0 : Int32)), (.int p0)])) _
          refine st66 _ ?_
          show Steps p.tables e below (T66.setTop (mkF m 48 #[.val (.int p0), .val (.int (0 : Int32)), .val (.int (0 : Int32)), .val (.int (1 : Int32))] [(.int (F_has p0 (4 : Int32)))])) _
          refine XS.iloadN X66.here hx rfl (hb hby at_48) rfl ?_
          exact k)
        by_cases hc49_67 : (F_has p0 (4 : Int32)) = (0 : Int32)
        · obtain ⟨_, _, ⟨T69, L69, k69, n69⟩, -, X69, ⟨Lc69, hQ69, l69, y69, z69⟩, st69⟩ := Jvm.LawKit.callS X66 hx (y := (⟨"com/example/entry_to_apps/entrytoapps/IconCache", "hasExtension", "(II)Z"⟩ : MethodName)) hown (mvT hZ (hw _ (List.mem_of_getElem? (i := 0) rfl))) (mvT hZ (hw _ (List.mem_of_getElem? (i := 1) rfl))) (mvT hZ (hw _ (List.mem_of_getElem? (i := 2) rfl))) (mvT hZ (hw _ (List.mem_of_getElem? (i := 3) rfl))) (by decide) (backOf (W := 0) (rm_has l Z a0' hw [] p0 (1 : Int32) (2 : Int32) w_fl cl h0 n0 Z0 hin1 hat1 S_fl Ar_fl) hZ (hw _ (List.mem_of_getElem? (i := 3) rfl)) (hw _ (List.mem_of_getElem? (i := 2) rfl)) (by decide) (by decide)) (g := (mkF m 54 #[.val (.int p0), .val (.int (0 : Int32)), .val (.int (0 : Int32)), .val (.int (1 : Int32))] [(.int (1 : Int32)), (.int p0)])) rfl (by rw [hml]; rfl) (argsL := [(.int p0), (.int (1 : Int32))]) (rest := []) (lenOf own_pd0 rfl) rfl (by show 2 * 0 + _ ≤ _; exact Nat.le_of_eq rfl) (hb hby at_54) (fun _ _ => ⟨rfl, e66, (by decide : 0 + 0 ≤ _), (by decide : 0 + 0 ≤ _)⟩)
          dsimp only [Pt.U, Pt.locs, Pt.cells, Pt.slots] at X69 l69 y69 z69 st69 hQ69
          subst l69 y69 z69
          obtain ⟨rfl, N69q, e69⟩ := hQ69
          have N69 := Fr.app N66 N69q
          have pre71 : ∀ t, Steps p.tables e below (T69.setTop (mkF m 58 #[.val (.int p0), .val (.int (0 : Int32)), .val (.int (0 : Int32)), .val (.int (1 : Int32))] [(.int (0 : Int32)), (.int (F_has p0 (2 : Int32)))])) t → Steps p.tables e below (s₁.setTop (entryFrame m #[(.int p0)] maxLocals)) t := fun t k => pre68 t (by
            show Steps p.tables e below (T66.setTop (mkF m 49 #[.val (.int p0), .val (.int (0 : Int32)), .val (.int (0 : Int32)), .val (.int (1 : Int32))] [(.int (0 : Int32)), (.int (F_has p0 (4 : Int32)))])) _
            refine XS.icmpNo X66.here hx rfl (hb hby at_49) rfl (teq hc49_67).2 ?_
            show Steps p.tables e below (T66.setTop (mkF m 52 #[.val (.int p0), .val (.int (0 : Int32)), .val (.int (0 : Int32)), .val (.int (1 : Int32))] [])) _
            refine XS.iloadN X66.here hx rfl (hb hby at_52) rfl ?_
            show Steps p.tables e below (T66.setTop (mkF m 53 #[.val (.int p0), .val (.int (0 : Int32)), .val (.int (0 : Int32)), .val (.int (1 : Int32))] [(.int p0)])) _
            refine XS.iconst X66.here hx rfl (hb hby at_53) ?_
            show Steps p.tables e below (T66.setTop (mkF m 54 #[.val (.int p0), .val (.int (0 : Int32)), .val (.int (0 : Int32)), .val (.int (1 : Int32))] [(.int (1 : Int32)), (.int p0)])) _
            refine st69 _ ?_
            show Steps p.tables e below (T69.setTop (mkF m 57 #[.val (.int p0), .val (.int (0 : Int32)), .val (.int (0 : Int32)), .val (.int (1 : Int32))] [(.int (F_has p0 (2 : Int32)))])) _
            refine XS.iloadN X69.here hx rfl (hb hby at_57) rfl ?_
            exact k)
          by_cases hc58_70 : (F_has p0 (2 : Int32)) = (0 : Int32)
          · obtain ⟨_, _, ⟨T72, L72, k72, n72⟩, -, X72, ⟨Lc72, hQ72, l72, y72, z72⟩, st72⟩ := Jvm.LawKit.callS X69 hx (y := (⟨"com/example/entry_to_apps/entrytoapps/IconCache", "hasExtension", "(II)Z"⟩ : MethodName)) hown (mvT hZ (hw _ (List.mem_of_getElem? (i := 0) rfl))) (mvT hZ (hw _ (List.mem_of_getElem? (i := 1) rfl))) (mvT hZ (hw _ (List.mem_of_getElem? (i := 2) rfl))) (mvT hZ (hw _ (List.mem_of_getElem? (i := 3) rfl))) (by decide) (backOf (W := 0) (rm_has l Z a0' hw [] p0 (2 : Int32) (1 : Int32) w_fl cl h0 n0 Z0 hin2 hat2 S_fl Ar_fl) hZ (hw _ (List.mem_of_getElem? (i := 3) rfl)) (hw _ (List.mem_of_getElem? (i := 2) rfl)) (by decide) (by decide)) (g := (mkF m 63 #[.val (.int p0), .val (.int (0 : Int32)), .val (.int (0 : Int32)), .val (.int (1 : Int32))] [(.int (2 : Int32)), (.int p0)])) rfl (by rw [hml]; rfl) (argsL := [(.int p0), (.int (2 : Int32))]) (rest := []) (lenOf own_pd0 rfl) rfl (by show 2 * 0 + _ ≤ _; exact Nat.le_of_eq rfl) (hb hby at_63) (fun _ _ => ⟨rfl, e69, (by decide : 0 + 0 ≤ _), (by decide : 0 + 0 ≤ _)⟩)
            dsimp only [Pt.U, Pt.locs, Pt.cells, Pt.slots] at X72 l72 y72 z72 st72 hQ72
            subst l72 y72 z72
            obtain ⟨rfl, N72q, e72⟩ := hQ72
            have N72 := Fr.app N69 N72q
            have q72 : (F_has p0 (1 : Int32)) = (1 : Int32) := by rw [F_has, if_neg (fun q => absurd (hc34_64.symm.trans q) (by decide))]
            rw [q72] at st72
            obtain ⟨fs, hr, hrun, hended, hW, hsame⟩ := X72.leave (v := some (.int (1 : Int32))) (fun h => by rw [Bd.returns] at h; cases h)
            refine ⟨_, _, pre71 _ ?_, hrun, hended, _, _, rfl, ?_, ⟨_, rfl⟩, hW, hsame.mono (by decide) (by decide)⟩
            · show Steps p.tables e below (T69.setTop (mkF m 58 #[.val (.int p0), .val (.int (0 : Int32)), .val (.int (0 : Int32)), .val (.int (1 : Int32))] [(.int (0 : Int32)), (.int (F_has p0 (2 : Int32)))])) _
              refine XS.icmpNo X69.here hx rfl (hb hby at_58) rfl (teq hc58_70).2 ?_
              show Steps p.tables e below (T69.setTop (mkF m 61 #[.val (.int p0), .val (.int (0 : Int32)), .val (.int (0 : Int32)), .val (.int (1 : Int32))] [])) _
              refine XS.iloadN X69.here hx rfl (hb hby at_61) rfl ?_
              show Steps p.tables e below (T69.setTop (mkF m 62 #[.val (.int p0), .val (.int (0 : Int32)), .val (.int (0 : Int32)), .val (.int (1 : Int32))] [(.int p0)])) _
              refine XS.iconst X69.here hx rfl (hb hby at_62) ?_
              show Steps p.tables e below (T69.setTop (mkF m 63 #[.val (.int p0), .val (.int (0 : Int32)), .val (.int (0 : Int32)), .val (.int (1 : Int32))] [(.int (2 : Int32)), (.int p0)])) _
              refine st72 _ ?_
              show Steps p.tables e below (T72.setTop (mkF m 66 #[.val (.int p0), .val (.int (0 : Int32)), .val (.int (0 : Int32)), .val (.int (1 : Int32))] [(.int (1 : Int32))])) _
              refine XS.iloadN X72.here hx rfl (hb hby at_66) rfl ?_
              show Steps p.tables e below (T72.setTop (mkF m 67 #[.val (.int p0), .val (.int (0 : Int32)), .val (.int (0 : Int32)), .val (.int (1 : Int32))] [(.int (1 : Int32)), (.int (1 : Int32))])) _
              refine XS.icmpNo X72.here hx rfl (hb hby at_67) rfl (teq (by decide : (1 : Int32) = (1 : Int32))).2 ?_
              show Steps p.tables e below (T72.setTop (mkF m 70 #[.val (.int p0), .val (.int (0 : Int32)), .val (.int (0 : Int32)), .val (.int (1 : Int32))] [])) _
              refine XS.iconst X72.here hx rfl (hb hby at_70) ?_
              show Steps p.tables e below (T72.setTop (mkF m 71 #[.val (.int p0), .val (.int (0 : Int32)), .val (.int (0 : Int32)), .val (.int (1 : Int32))] [(.int (1 : Int32))])) _
              refine XS.goto X72.here hx rfl (pc0 := 71) (pc' := 75) rfl (hb hby at_71) (by decide) (by decide) ?_
              show Steps p.tables e below (T72.setTop (mkF m 75 #[.val (.int p0), .val (.int (0 : Int32)), .val (.int (0 : Int32)), .val (.int (1 : Int32))] [(.int (1 : Int32))])) _
              exact retN X72 hx (t := .boolean) Bd.returns (by simp) (hb hby at_75) hr
            · show Q_law Z p0 w_fl cl h0 n0 _ T72.heap _
              refine ⟨?_, N72, trivial⟩
              rw [F_law, if_neg hc6_4, if_neg hc21_44, if_pos hc34_64, if_pos hc49_67, if_pos hc58_70]
          · obtain ⟨fs, hr, hrun, hended, hW, hsame⟩ := X69.leave (v := some (.int (0 : Int32))) (fun h => by rw [Bd.returns] at h; cases h)
            refine ⟨_, _, pre71 _ ?_, hrun, hended, _, _, rfl, ?_, ⟨_, rfl⟩, hW, hsame.mono (by decide) (by decide)⟩
            · show Steps p.tables e below (T69.setTop (mkF m 58 #[.val (.int p0), .val (.int (0 : Int32)), .val (.int (0 : Int32)), .val (.int (1 : Int32))] [(.int (0 : Int32)), (.int (F_has p0 (2 : Int32)))])) _
              refine XS.icmpYes X69.here hx rfl (pc0 := 58) (pc' := 74) rfl (hb hby at_58) rfl (feq hc58_70).2 (by decide) (by decide) ?_
              show Steps p.tables e below (T69.setTop (mkF m 74 #[.val (.int p0), .val (.int (0 : Int32)), .val (.int (0 : Int32)), .val (.int (1 : Int32))] [])) _
              refine XS.iconst X69.here hx rfl (hb hby at_74) ?_
              show Steps p.tables e below (T69.setTop (mkF m 75 #[.val (.int p0), .val (.int (0 : Int32)), .val (.int (0 : Int32)), .val (.int (1 : Int32))] [(.int (0 : Int32))])) _
              exact retN X69 hx (t := .boolean) Bd.returns (by simp) (hb hby at_75) hr
            · show Q_law Z p0 w_fl cl h0 n0 _ T69.heap _
              refine ⟨?_, N69, trivial⟩
              rw [F_law, if_neg hc6_4, if_neg hc21_44, if_pos hc34_64, if_pos hc49_67, if_neg hc58_70]
        · obtain ⟨fs, hr, hrun, hended, hW, hsame⟩ := X66.leave (v := some (.int (0 : Int32))) (fun h => by rw [Bd.returns] at h; cases h)
          refine ⟨_, _, pre68 _ ?_, hrun, hended, _, _, rfl, ?_, ⟨_, rfl⟩, hW, hsame.mono (by decide) (by decide)⟩
          · show Steps p.tables e below (T66.setTop (mkF m 49 #[.val (.int p0), .val (.int (0 : Int32)), .val (.int (0 : Int32)), .val (.int (1 : Int32))] [(.int (0 : Int32)), (.int (F_has p0 (4 : Int32)))])) _
            refine XS.icmpYes X66.here hx rfl (pc0 := 49) (pc' := 74) rfl (hb hby at_49) rfl (feq hc49_67).2 (by decide) (by decide) ?_
            show Steps p.tables e below (T66.setTop (mkF m 74 #[.val (.int p0), .val (.int (0 : Int32)), .val (.int (0 : Int32)), .val (.int (1 : Int32))] [])) _
            refine XS.iconst X66.here hx rfl (hb hby at_74) ?_
            show Steps p.tables e below (T66.setTop (mkF m 75 #[.val (.int p0), .val (.int (0 : Int32)), .val (.int (0 : Int32)), .val (.int (1 : Int32))] [(.int (0 : Int32))])) _
            exact retN X66 hx (t := .boolean) Bd.returns (by simp) (hb hby at_75) hr
          · show Q_law Z p0 w_fl cl h0 n0 _ T66.heap _
            refine ⟨?_, N66, trivial⟩
            rw [F_law, if_neg hc6_4, if_neg hc21_44, if_pos hc34_64, if_neg hc49_67]
      · obtain ⟨_, _, ⟨T73, L73, k73, n73⟩, -, X73, ⟨Lc73, hQ73, l73, y73, z73⟩, st73⟩ := Jvm.LawKit.callS X0 hx (y := (⟨"com/example/entry_to_apps/entrytoapps/IconCache", "hasExtension", "(II)Z"⟩ : MethodName)) hown (mvT hZ (hw _ (List.mem_of_getElem? (i := 0) rfl))) (mvT hZ (hw _ (List.mem_of_getElem? (i := 1) rfl))) (mvT hZ (hw _ (List.mem_of_getElem? (i := 2) rfl))) (mvT hZ (hw _ (List.mem_of_getElem? (i := 3) rfl))) (by decide) (backOf (W := 0) (rm_has l Z a0' hw [] p0 (0 : Int32) (4 : Int32) w_fl cl h0 n0 Z0 hin0 hat0 S_fl Ar_fl) hZ (hw _ (List.mem_of_getElem? (i := 3) rfl)) (hw _ (List.mem_of_getElem? (i := 2) rfl)) (by decide) (by decide)) (g := (mkF m 45 #[.val (.int p0), .val (.int (0 : Int32)), .val (.int (0 : Int32)), .val (.int (0 : Int32))] [(.int (0 : Int32)), (.int p0)])) rfl (by rw [hml]; rfl) (argsL := [(.int p0), (.int (0 : Int32))]) (rest := []) (lenOf own_pd0 rfl) rfl (by show 2 * 0 + _ ≤ _; exact Nat.le_of_eq rfl) (hb hby at_45) (fun _ _ => ⟨rfl, e0, (by decide : 0 + 0 ≤ _), (by decide : 0 + 0 ≤ _)⟩)
        dsimp only [Pt.U, Pt.locs, Pt.cells, Pt.slots] at X73 l73 y73 z73 st73 hQ73
        subst l73 y73 z73
        obtain ⟨rfl, N73q, e73⟩ := hQ73
        have N73 := Fr.app N0 N73q
        have pre75 : ∀ t, Steps p.tables e below (T73.setTop (mkF m 49 #[.val (.int p0), .val (.int (0 : Int32)), .val (.int (0 : Int32)), .val (.int (0 : Int32))] [(.int (0 : Int32)), (.int (F_has p0 (4 : Int32)))])) t → Steps p.tables e below (s₁.setTop (entryFrame m #[(.int p0)] maxLocals)) t := fun t k => pre65 t (by
          show Steps p.tables e below (s₁.setTop (mkF m 34 #[.val (.int p0), .val (.int (0 : Int32)), .val (.int (0 : Int32)), .unset] [(.int (1 : Int32)), (.int (p0 &&& (1 : Int32)))])) _
          refine XS.icmpYes X0.here hx rfl (pc0 := 34) (pc' := 41) rfl (hb hby at_34) rfl (feq hc34_64).2 (by decide) (by decide) ?_
          show Steps p.tables e below (s₁.setTop (mkF m 41 #[.val (.int p0), .val (.int (0 : Int32)), .val (.int (0 : Int32)), .unset] [])) _
          refine XS.iconst X0.here hx rfl (hb hby at_41) ?_
          show Steps p.tables e below (s₁.setTop (mkF m 42 #[.val (.int p0), .val (.int (0 : Int32)), .val (.int (0 : Int32)), .unset] [(.int (0 : Int32))])) _
          refine XS.istoreN X0.here hx rfl (hb hby at_42) rfl (l' := #[.val (.int p0), .val (.int (0 : Int32)), .val (.int (0 : Int32)), .val (.int (0 : Int32))]) rfl ?_
          show Steps p.tables e below (s₁.setTop (mkF m 43 #[.val (.int p0), .val (.int (0 : Int32)), .val (.int (0 : Int32)), .val (.int (0 : Int32))] [])) _
          refine XS.iloadN X0.here hx rfl (hb hby at_43) rfl ?_
          show Steps p.tables e below (s₁.setTop (mkF m 44 #[.val (.int p0), .val (.int (0 : Int32)), .val (.int (0 : Int32)), .val (.int (0 : Int32))] [(.int p0)])) _
          refine XS.iconst X0.here hx rfl (hb hby at_44) ?_
          show Steps p.tables e below (s₁.setTop (mkF m 45 #[.val (.int p0), .val (.int (0 : Int32)), .val (.int (0 : Int32)), .val (.int (0 : Int32))] [(.int (0 : Int32)), (.int p0)])) _
          refine st73 _ ?_
          show Steps p.tables e below (T73.setTop (mkF m 48 #[.val (.int p0), .val (.int (0 : Int32)), .val (.int (0 : Int32)), .val (.int (0 : Int32))] [(.int (F_has p0 (4 : Int32)))])) _
          refine XS.iloadN X73.here hx rfl (hb hby at_48) rfl ?_
          exact k)
        by_cases hc49_74 : (F_has p0 (4 : Int32)) = (0 : Int32)
        · obtain ⟨_, _, ⟨T76, L76, k76, n76⟩, -, X76, ⟨Lc76, hQ76, l76, y76, z76⟩, st76⟩ := Jvm.LawKit.callS X73 hx (y := (⟨"com/example/entry_to_apps/entrytoapps/IconCache", "hasExtension", "(II)Z"⟩ : MethodName)) hown (mvT hZ (hw _ (List.mem_of_getElem? (i := 0) rfl))) (mvT hZ (hw _ (List.mem_of_getElem? (i := 1) rfl))) (mvT hZ (hw _ (List.mem_of_getElem? (i := 2) rfl))) (mvT hZ (hw _ (List.mem_of_getElem? (i := 3) rfl))) (by decide) (backOf (W := 0) (rm_has l Z a0' hw [] p0 (1 : Int32) (2 : Int32) w_fl cl h0 n0 Z0 hin1 hat1 S_fl Ar_fl) hZ (hw _ (List.mem_of_getElem? (i := 3) rfl)) (hw _ (List.mem_of_getElem? (i := 2) rfl)) (by decide) (by decide)) (g := (mkF m 54 #[.val (.int p0), .val (.int (0 : Int32)), .val (.int (0 : Int32)), .val (.int (0 : Int32))] [(.int (1 : Int32)), (.int p0)])) rfl (by rw [hml]; rfl) (argsL := [(.int p0), (.int (1 : Int32))]) (rest := []) (lenOf own_pd0 rfl) rfl (by show 2 * 0 + _ ≤ _; exact Nat.le_of_eq rfl) (hb hby at_54) (fun _ _ => ⟨rfl, e73, (by decide : 0 + 0 ≤ _), (by decide : 0 + 0 ≤ _)⟩)
          dsimp only [Pt.U, Pt.locs, Pt.cells, Pt.slots] at X76 l76 y76 z76 st76 hQ76
          subst l76 y76 z76
          obtain ⟨rfl, N76q, e76⟩ := hQ76
          have N76 := Fr.app N73 N76q
          have pre78 : ∀ t, Steps p.tables e below (T76.setTop (mkF m 58 #[.val (.int p0), .val (.int (0 : Int32)), .val (.int (0 : Int32)), .val (.int (0 : Int32))] [(.int (0 : Int32)), (.int (F_has p0 (2 : Int32)))])) t → Steps p.tables e below (s₁.setTop (entryFrame m #[(.int p0)] maxLocals)) t := fun t k => pre75 t (by
            show Steps p.tables e below (T73.setTop (mkF m 49 #[.val (.int p0), .val (.int (0 : Int32)), .val (.int (0 : Int32)), .val (.int (0 : Int32))] [(.int (0 : Int32)), (.int (F_has p0 (4 : Int32)))])) _
            refine XS.icmpNo X73.here hx rfl (hb hby at_49) rfl (teq hc49_74).2 ?_
            show Steps p.tables e below (T73.setTop (mkF m 52 #[.val (.int p0), .val (.int (0 : Int32)), .val (.int (0 : Int32)), .val (.int (0 : Int32))] [])) _
            refine XS.iloadN X73.here hx rfl (hb hby at_52) rfl ?_
            show Steps p.tables e below (T73.setTop (mkF m 53 #[.val (.int p0), .val (.int (0 : Int32)), .val (.int (0 : Int32)), .val (.int (0 : Int32))] [(.int p0)])) _
            refine XS.iconst X73.here hx rfl (hb hby at_53) ?_
            show Steps p.tables e below (T73.setTop (mkF m 54 #[.val (.int p0), .val (.int (0 : Int32)), .val (.int (0 : Int32)), .val (.int (0 : Int32))] [(.int (1 : Int32)), (.int p0)])) _
            refine st76 _ ?_
            show Steps p.tables e below (T76.setTop (mkF m 57 #[.val (.int p0), .val (.int (0 : Int32)), .val (.int (0 : Int32)), .val (.int (0 : Int32))] [(.int (F_has p0 (2 : Int32)))])) _
            refine XS.iloadN X76.here hx rfl (hb hby at_57) rfl ?_
            exact k)
          by_cases hc58_77 : (F_has p0 (2 : Int32)) = (0 : Int32)
          · obtain ⟨_, _, ⟨T79, L79, k79, n79⟩, -, X79, ⟨Lc79, hQ79, l79, y79, z79⟩, st79⟩ := Jvm.LawKit.callS X76 hx (y := (⟨"com/example/entry_to_apps/entrytoapps/IconCache", "hasExtension", "(II)Z"⟩ : MethodName)) hown (mvT hZ (hw _ (List.mem_of_getElem? (i := 0) rfl))) (mvT hZ (hw _ (List.mem_of_getElem? (i := 1) rfl))) (mvT hZ (hw _ (List.mem_of_getElem? (i := 2) rfl))) (mvT hZ (hw _ (List.mem_of_getElem? (i := 3) rfl))) (by decide) (backOf (W := 0) (rm_has l Z a0' hw [] p0 (2 : Int32) (1 : Int32) w_fl cl h0 n0 Z0 hin2 hat2 S_fl Ar_fl) hZ (hw _ (List.mem_of_getElem? (i := 3) rfl)) (hw _ (List.mem_of_getElem? (i := 2) rfl)) (by decide) (by decide)) (g := (mkF m 63 #[.val (.int p0), .val (.int (0 : Int32)), .val (.int (0 : Int32)), .val (.int (0 : Int32))] [(.int (2 : Int32)), (.int p0)])) rfl (by rw [hml]; rfl) (argsL := [(.int p0), (.int (2 : Int32))]) (rest := []) (lenOf own_pd0 rfl) rfl (by show 2 * 0 + _ ≤ _; exact Nat.le_of_eq rfl) (hb hby at_63) (fun _ _ => ⟨rfl, e76, (by decide : 0 + 0 ≤ _), (by decide : 0 + 0 ≤ _)⟩)
            dsimp only [Pt.U, Pt.locs, Pt.cells, Pt.slots] at X79 l79 y79 z79 st79 hQ79
            subst l79 y79 z79
            obtain ⟨rfl, N79q, e79⟩ := hQ79
            have N79 := Fr.app N76 N79q
            have pre81 : ∀ t, Steps p.tables e below (T79.setTop (mkF m 67 #[.val (.int p0), .val (.int (0 : Int32)), .val (.int (0 : Int32)), .val (.int (0 : Int32))] [(.int (0 : Int32)), (.int (F_has p0 (1 : Int32)))])) t → Steps p.tables e below (s₁.setTop (entryFrame m #[(.int p0)] maxLocals)) t := fun t k => pre78 t (by
              show Steps p.tables e below (T76.setTop (mkF m 58 #[.val (.int p0), .val (.int (0 : Int32)), .val (.int (0 : Int32)), .val (.int (0 : Int32))] [(.int (0 : Int32)), (.int (F_has p0 (2 : Int32)))])) _
              refine XS.icmpNo X76.here hx rfl (hb hby at_58) rfl (teq hc58_77).2 ?_
              show Steps p.tables e below (T76.setTop (mkF m 61 #[.val (.int p0), .val (.int (0 : Int32)), .val (.int (0 : Int32)), .val (.int (0 : Int32))] [])) _
              refine XS.iloadN X76.here hx rfl (hb hby at_61) rfl ?_
              show Steps p.tables e below (T76.setTop (mkF m 62 #[.val (.int p0), .val (.int (0 : Int32)), .val (.int (0 : Int32)), .val (.int (0 : Int32))] [(.int p0)])) _
              refine XS.iconst X76.here hx rfl (hb hby at_62) ?_
              show Steps p.tables e below (T76.setTop (mkF m 63 #[.val (.int p0), .val (.int (0 : Int32)), .val (.int (0 : Int32)), .val (.int (0 : Int32))] [(.int (2 : Int32)), (.int p0)])) _
              refine st79 _ ?_
              show Steps p.tables e below (T79.setTop (mkF m 66 #[.val (.int p0), .val (.int (0 : Int32)), .val (.int (0 : Int32)), .val (.int (0 : Int32))] [(.int (F_has p0 (1 : Int32)))])) _
              refine XS.iloadN X79.here hx rfl (hb hby at_66) rfl ?_
              exact k)
            by_cases hc67_80 : (F_has p0 (1 : Int32)) = (0 : Int32)
            · obtain ⟨fs, hr, hrun, hended, hW, hsame⟩ := X79.leave (v := some (.int (1 : Int32))) (fun h => by rw [Bd.returns] at h; cases h)
              refine ⟨_, _, pre81 _ ?_, hrun, hended, _, _, rfl, ?_, ⟨_, rfl⟩, hW, hsame.mono (by decide) (by decide)⟩
              · show Steps p.tables e below (T79.setTop (mkF m 67 #[.val (.int p0), .val (.int (0 : Int32)), .val (.int (0 : Int32)), .val (.int (0 : Int32))] [(.int (0 : Int32)), (.int (F_has p0 (1 : Int32)))])) _
                refine XS.icmpNo X79.here hx rfl (hb hby at_67) rfl (teq hc67_80).2 ?_
                show Steps p.tables e below (T79.setTop (mkF m 70 #[.val (.int p0), .val (.int (0 : Int32)), .val (.int (0 : Int32)), .val (.int (0 : Int32))] [])) _
                refine XS.iconst X79.here hx rfl (hb hby at_70) ?_
                show Steps p.tables e below (T79.setTop (mkF m 71 #[.val (.int p0), .val (.int (0 : Int32)), .val (.int (0 : Int32)), .val (.int (0 : Int32))] [(.int (1 : Int32))])) _
                refine XS.goto X79.here hx rfl (pc0 := 71) (pc' := 75) rfl (hb hby at_71) (by decide) (by decide) ?_
                show Steps p.tables e below (T79.setTop (mkF m 75 #[.val (.int p0), .val (.int (0 : Int32)), .val (.int (0 : Int32)), .val (.int (0 : Int32))] [(.int (1 : Int32))])) _
                exact retN X79 hx (t := .boolean) Bd.returns (by simp) (hb hby at_75) hr
              · show Q_law Z p0 w_fl cl h0 n0 _ T79.heap _
                refine ⟨?_, N79, trivial⟩
                rw [F_law, if_neg hc6_4, if_neg hc21_44, if_neg hc34_64, if_pos hc49_74, if_pos hc58_77, if_pos hc67_80]
            · obtain ⟨fs, hr, hrun, hended, hW, hsame⟩ := X79.leave (v := some (.int (0 : Int32))) (fun h => by rw [Bd.returns] at h; cases h)
              refine ⟨_, _, pre81 _ ?_, hrun, hended, _, _, rfl, ?_, ⟨_, rfl⟩, hW, hsame.mono (by decide) (by decide)⟩
              · show Steps p.tables e below (T79.setTop (mkF m 67 #[.val (.int p0), .val (.int (0 : Int32)), .val (.int (0 : Int32)), .val (.int (0 : Int32))] [(.int (0 : Int32)), (.int (F_has p0 (1 : Int32)))])) _
                refine XS.icmpYes X79.here hx rfl (pc0 := 67) (pc' := 74) rfl (hb hby at_67) rfl (feq hc67_80).2 (by decide) (by decide) ?_
                show Steps p.tables e below (T79.setTop (mkF m 74 #[.val (.int p0), .val (.int (0 : Int32)), .val (.int (0 : Int32)), .val (.int (0 : Int32))] [])) _
                refine XS.iconst X79.here hx rfl (hb hby at_74) ?_
                show Steps p.tables e below (T79.setTop (mkF m 75 #[.val (.int p0), .val (.int (0 : Int32)), .val (.int (0 : Int32)), .val (.int (0 : Int32))] [(.int (0 : Int32))])) _
                exact retN X79 hx (t := .boolean) Bd.returns (by simp) (hb hby at_75) hr
              · show Q_law Z p0 w_fl cl h0 n0 _ T79.heap _
                refine ⟨?_, N79, trivial⟩
                rw [F_law, if_neg hc6_4, if_neg hc21_44, if_neg hc34_64, if_pos hc49_74, if_pos hc58_77, if_neg hc67_80]
          · obtain ⟨fs, hr, hrun, hended, hW, hsame⟩ := X76.leave (v := some (.int (0 : Int32))) (fun h => by rw [Bd.returns] at h; cases h)
            refine ⟨_, _, pre78 _ ?_, hrun, hended, _, _, rfl, ?_, ⟨_, rfl⟩, hW, hsame.mono (by decide) (by decide)⟩
            · show Steps p.tables e below (T76.setTop (mkF m 58 #[.val (.int p0), .val (.int (0 : Int32)), .val (.int (0 : Int32)), .val (.int (0 : Int32))] [(.int (0 : Int32)), (.int (F_has p0 (2 : Int32)))])) _
              refine XS.icmpYes X76.here hx rfl (pc0 := 58) (pc' := 74) rfl (hb hby at_58) rfl (feq hc58_77).2 (by decide) (by decide) ?_
              show Steps p.tables e below (T76.setTop (mkF m 74 #[.val (.int p0), .val (.int (0 : Int32)), .val (.int (0 : Int32)), .val (.int (0 : Int32))] [])) _
              refine XS.iconst X76.here hx rfl (hb hby at_74) ?_
              show Steps p.tables e below (T76.setTop (mkF m 75 #[.val (.int p0), .val (.int (0 : Int32)), .val (.int (0 : Int32)), .val (.int (0 : Int32))] [(.int (0 : Int32))])) _
              exact retN X76 hx (t := .boolean) Bd.returns (by simp) (hb hby at_75) hr
            · show Q_law Z p0 w_fl cl h0 n0 _ T76.heap _
              refine ⟨?_, N76, trivial⟩
              rw [F_law, if_neg hc6_4, if_neg hc21_44, if_neg hc34_64, if_pos hc49_74, if_neg hc58_77]
        · obtain ⟨fs, hr, hrun, hended, hW, hsame⟩ := X73.leave (v := some (.int (0 : Int32))) (fun h => by rw [Bd.returns] at h; cases h)
          refine ⟨_, _, pre75 _ ?_, hrun, hended, _, _, rfl, ?_, ⟨_, rfl⟩, hW, hsame.mono (by decide) (by decide)⟩
          · show Steps p.tables e below (T73.setTop (mkF m 49 #[.val (.int p0), .val (.int (0 : Int32)), .val (.int (0 : Int32)), .val (.int (0 : Int32))] [(.int (0 : Int32)), (.int (F_has p0 (4 : Int32)))])) _
            refine XS.icmpYes X73.here hx rfl (pc0 := 49) (pc' := 74) rfl (hb hby at_49) rfl (feq hc49_74).2 (by decide) (by decide) ?_
            show Steps p.tables e below (T73.setTop (mkF m 74 #[.val (.int p0), .val (.int (0 : Int32)), .val (.int (0 : Int32)), .val (.int (0 : Int32))] [])) _
            refine XS.iconst X73.here hx rfl (hb hby at_74) ?_
            show Steps p.tables e below (T73.setTop (mkF m 75 #[.val (.int p0), .val (.int (0 : Int32)), .val (.int (0 : Int32)), .val (.int (0 : Int32))] [(.int (0 : Int32))])) _
            exact retN X73 hx (t := .boolean) Bd.returns (by simp) (hb hby at_75) hr
          · show Q_law Z p0 w_fl cl h0 n0 _ T73.heap _
            refine ⟨?_, N73, trivial⟩
            rw [F_law, if_neg hc6_4, if_neg hc21_44, if_neg hc34_64, if_neg hc49_74]
theorem own_b (b : BitVec 32) (i : Nat) (hi : i < 32) : (b &&& BitVec.twoPow 32 i = 0#32 ↔ b.getLsbD i = false) := by
  rw [BitVec.and_twoPow]
  cases h : b.getLsbD i
  · simp
  · simp only [if_true]
    constructor
    · intro q
      have q2 := congrArg (fun z => z.getLsbD i) q
      simp [hi] at q2
    · intro q; cases q
theorem own_s (b : BitVec 32) (i : Nat) : ((b >>> i) &&& 1#32 = 1#32 ↔ b.getLsbD i = true) := by
  have e : (1#32) = BitVec.twoPow 32 0 := rfl
  rw [e, BitVec.and_twoPow, BitVec.getLsbD_ushiftRight]
  cases h : b.getLsbD i
  · simp [h]; decide
  · simp [h]
theorem own_bit (x : Int32) (i : Nat) (hi : i < 32) {m : Int32} (hm : m.toBitVec = BitVec.twoPow 32 i) {n : UInt32} (hn : n.toBitVec % 32 = BitVec.ofNat 32 i) : (x &&& m = 0) ↔ ¬ (((x.toUInt32 >>> n).toInt32 &&& 1) = 1) := by
  have h1 : (x &&& m = 0) ↔ (x.toBitVec &&& BitVec.twoPow 32 i = 0#32) := by
    rw [← Int32.toBitVec_inj, Int32.toBitVec_and, hm]; rfl
  have h2 : (((x.toUInt32 >>> n).toInt32 &&& 1) = 1) ↔ ((x.toBitVec >>> i) &&& 1#32 = 1#32) := by
    rw [← Int32.toBitVec_inj, Int32.toBitVec_and]
    have e : ((x.toUInt32 >>> n).toInt32).toBitVec = x.toBitVec >>> i := by
      show (x.toUInt32 >>> n).toBitVec = _
      rw [UInt32.toBitVec_shiftRight, hn]
      show x.toBitVec >>> (BitVec.ofNat 32 i) = _
      rw [BitVec.ushiftRight_eq', BitVec.toNat_ofNat, Nat.mod_eq_of_lt (by omega)]
    rw [e]; rfl
  rw [h1, h2, own_b _ _ hi, own_s]
  cases x.toBitVec.getLsbD i <;> simp

theorem own_law (p0 : Int32) : F_law p0 = 1 := by
  have e2 := own_bit p0 2 (by decide) (m := 4) (by decide) (n := ((2 : Int32) &&& 31).toUInt32) (by decide)
  have e1 := own_bit p0 1 (by decide) (m := 2) (by decide) (n := ((1 : Int32) &&& 31).toUInt32) (by decide)
  have e0 := own_bit p0 0 (by decide) (m := 1) (by decide) (n := ((0 : Int32) &&& 31).toUInt32) (by decide)
  have e0' : (p0.toUInt32 >>> ((0 : Int32) &&& 31).toUInt32).toInt32 = p0 := by
    show (p0.toUInt32 >>> (0 : UInt32)).toInt32 = p0
    simp
  rw [e0'] at e0
  unfold F_law F_has
  by_cases h2 : ((p0.toUInt32 >>> ((2 : Int32) &&& 31).toUInt32).toInt32 &&& 1) = 1 <;> by_cases h1 : ((p0.toUInt32 >>> ((1 : Int32) &&& 31).toUInt32).toInt32 &&& 1) = 1 <;> by_cases h0 : (p0 &&& 1) = 1 <;> simp only [h2, h1, h0, e2, e1, e0, if_true, if_false, not_true_eq_false, not_false_eq_true] <;> rfl
set_option maxRecDepth 65536 in
set_option maxHeartbeats 40000000 in
theorem own_comes {Post : Tables → Env → Array Value → State → Outcome → State → Prop} (hpost : ∀ tb e args s v u, (limb_1_1.after args s (.returned v) u = true ∧ limb_1_2.after args s (.returned v) u = true ∧ True) → FrameEnd s (.returned v) u (Jvm.fieldLocs frame_1_writes args s ++ Jvm.arrayLocs frame_1_arrays args s ++ Jvm.staticLocs frame_1_statics s) 0 0 → Post tb e args s (.returned v) u) :
    ArmFor flags0 classFile x code maxLocals ret World_1 tables_1 room_1 Calls_1 rest_1 Pre_1 Post := by
  intro l hfl _ _ p e ha hc hk s m args below hf hA hF happ hP
  obtain ⟨hcalls, hrest, hpre⟩ := hP
  obtain ⟨-, -, -, hnamed, -, -, -, hat⟩ := (Spec.applies_iff hf).mp happ
  obtain ⟨hg, hn⟩ := and_e (Cond.before_iff.mp (show (Jvm.Cond.and given_1 narrow_1).before args s = true from hpre))
  obtain ⟨g1, g1'⟩ := and_e hg
  obtain ⟨g2, g2'⟩ := and_e hn
  obtain ⟨g3, g3'⟩ := and_e g2'
  obtain ⟨g4, g4'⟩ := and_e g3'
  obtain ⟨g5, g5'⟩ := and_e g4'
  obtain ⟨u0, rfl⟩ : ∃ u0 : Value, args = #[u0] := by
    have hs : args.size = 1 := by simpa [Cond.value, given_1] using g1
    obtain ⟨L⟩ := args
    match L, hs with
    | [u0], _ => exact ⟨u0, rfl⟩
  have hw := fun d (hd : d ∈ tables_1) => atoms_spec (ws := Jvm.Cond.code x code maxLocals ret :: tables_1) hat d (List.mem_cons_of_mem _ hd)
  obtain ⟨i0, ei0⟩ := is_v g1'
  obtain rfl : u0 = (.int i0) := Option.some.inj ei0
  obtain ⟨w_fl, ev⟩ := arr_v g2
  obtain ⟨cl, Ar_fl⟩ := Arr.start ev g2
  have S_fl := Sta.start ev (Or.inr ⟨(hw _ (List.mem_of_getElem? (i := 2) rfl)), (hw _ (List.mem_of_getElem? (i := 5) rfl))⟩)
  have hlen := own_eqk g3
  obtain ⟨hin0, hat0⟩ := elem_in (own_eqk g4) ev (Term.int_eval _) Ar_fl.1
  obtain ⟨hin1, hat1⟩ := elem_in (own_eqk g5) ev (Term.int_eval _) Ar_fl.1
  obtain ⟨hin2, hat2⟩ := elem_in (own_eqk g5') ev (Term.int_eval _) Ar_fl.1
  have hlaw := own_law i0
  obtain ⟨n, o, h1, h2, h3, v, L, rfl, ⟨hv, N, -⟩, hq⟩ := rm_law l s _ hw tables_1 i0 w_fl cl s.heap s.heap.size (Nat.le_refl _) S_fl Ar_fl hin0 hat0 hin1 hat1 hin2 hat2 p e ha hc hk s m _ below hf ((Spec.applies_iff_loose hf).mp happ).1 ⟨rfl, State.Warmed39.refl s, rfl⟩ trivial
  rw [hlaw] at hv
  subst hv
  refine ⟨n, _, h1, h2, h3, hpost _ _ _ _ _ _ ⟨Cond.after_iff.mpr rfl, Cond.after_iff.mpr (eq_i res_at (Term.int_eval (1)) rfl), trivial⟩ ⟨hq.1, hq.2.1, (hq.2.2.sift fun y hy => Or.inr (N y hy)).mono (by decide) (by decide)⟩⟩
theorem main_1_1 : Claimed_1_1 := own_comes fun _ _ _ _ _ _ h hF => ⟨h.1, hF⟩
theorem main_1_2 : Claimed_1_2 := own_comes fun _ _ _ _ _ _ h hF => ⟨h.2.1, hF⟩
end Jvm.Pilot.@@N@@
namespace Jvm.Pilot.@@N@@
open Jvm Jvm.ClassFile Sem Op Lib Jvm.Free Jvm.Stand Jvm.Pilot.@@N@@.Jvm.D
/-! MADE BY PROGRAM (witnessworld.py) out of the Statement's table words and the real class files: 9 classes; the members and pool entries that the words name. The judged class is class 1, her method 1. -/
namespace start1
open Jvm.ClassFile
def u (s : String) : CpInfo := .utf8 (stringToUtf16 s)
/-- a pool by its gaps: so many unusable entries, then the entry; so many at the end -/
def gap : Nat → List CpInfo → List CpInfo
  | 0, r => r
  | n + 1, r => .unusable :: gap n r
def poolList (es : List (Nat × CpInfo)) (last : Nat) : List CpInfo := es.foldr (fun e r => gap e.1 (e.2 :: r)) (gap last [])
def pool (es : List (Nat × CpInfo)) (last : Nat) : Array CpInfo := ⟨poolList es last⟩
def fileOf (pool : Array CpInfo) (this : Nat) (attrs : Array Attribute := #[]) (ms : Array MethodInfo := #[]) (fl : Nat := 33) (sup : Nat := 0) (ifs : Array Nat := #[]) (fds : Array FieldInfo := #[]) : ClassFile where
  minorVersion := 0
  majorVersion := 65
  constantPool := pool
  accessFlags := fl
  thisClass := this
  superClass := sup
  interfaces := ifs
  fields := fds
  methods := ms
  attributes := attrs
def plain (name : String) (sup : Option ClassId) : Class where
  name := name
  kind := .ordinary
  loader := none
  accessFlags := 33
  super := sup
  interfaces := #[]
  cf := none
  fields := #[]
  methods := #[]
  instanceTypes := #[]
  staticTypes := #[]
  resolved := #[]
  callSites := []
  init := .initialized
  statics := none
  mirror := none

def pool0 : Array CpInfo := pool [(5, u "<init>"), (0, u "()V"), (1, .class_ 10), (1, u "java/lang/Object")] 113

def k0m0 : Method := { name := "<init>", desc := "()V", sig := { parameters := [], returnType := none }, accessFlags := 1, code := none }
/-- java/lang/Object -/
def k0 : Class := { plain "java/lang/Object" none with
  accessFlags := 33
  interfaces := #[]
  cf := some (fileOf pool0 8 #[] #[{ accessFlags := 1, nameIndex := 5, descriptorIndex := 6, attributes := #[] }] 33 0 #[] #[])
  fields := #[]
  methods := #[k0m0]
  instanceTypes := #[]
  staticTypes := #[]
  resolved := Array.replicate 124 none
  statics := none }

def pool1 : Array CpInfo := pool [(2, .class_ 4), (1, u "java/lang/Object"), (0, u "<init>"), (0, u "()V"), (0, .methodref 8 9), (0, .class_ 10), (0, .nameAndType 11 12), (0, u "com/example/entry_to_apps/entrytoapps/IconCache"), (0, u "hasExtension"), (0, u "(II)Z"), (0, .class_ 14), (0, u "com/example/entry_to_apps/entrytoapps/IconCacheHasExtensionPinLaw"), (2, u "law"), (0, u "(I)Z")] 3

def k1m0 : Method := { name := "<init>", desc := "()V", sig := { parameters := [], returnType := none }, accessFlags := 2, code := none }
def k1c1 : Code := { maxStack := 2, maxLocals := 4, code := code, exceptionTable := #[], attributes := #[] }
def k1m1 : Method := { name := "law", desc := "(I)Z", sig := { parameters := [.int], returnType := some .boolean }, accessFlags := 9, code := some k1c1 }
/-- com/example/entry_to_apps/entrytoapps/IconCacheHasExtensionPinLaw -/
def k1 : Class := { plain "com/example/entry_to_apps/entrytoapps/IconCacheHasExtensionPinLaw" (some 0) with
  accessFlags := 49
  interfaces := #[]
  cf := some (fileOf pool1 13 #[] #[{ accessFlags := 2, nameIndex := 5, descriptorIndex := 6, attributes := #[] }, { accessFlags := 9, nameIndex := 17, descriptorIndex := 18, attributes := #[] }] 49 2 #[] #[])
  fields := #[]
  methods := #[k1m0, k1m1]
  instanceTypes := #[]
  staticTypes := #[]
  resolved := Array.replicate 22 none
  statics := none }

def pool2 : Array CpInfo := pool [(2, .class_ 4), (1, u "java/lang/Object"), (3, .class_ 10), (1, u "com/example/entry_to_apps/entrytoapps/IconCache"), (0, u "bytes"), (0, u "[B"), (2, u "hashOffset"), (0, u "J"), (2, u "buckets"), (2, u "directories"), (0, u "Ljava/util/Map;"), (91, u "NO_IMAGES"), (0, u "[I"), (20, .fieldref 8 138), (0, .nameAndType 139 116), (0, u "EXTENSION_FLAGS"), (0, u "FILE_NAME"), (0, u "Ljava/lang/String;"), (3, u "MAX_MIB"), (0, u "I"), (1, u "NOWHERE"), (0, u "ICON_BYTES"), (1, u "IMAGE_BYTES"), (1, u "MAX_DIRECTORIES"), (0, u "MAX_NAME_BYTES"), (16, u "hasExtension"), (0, u "(II)Z")] 3

def k2c0 : Code := { maxStack := 3, maxLocals := 2, code := prog_28_method_7_code, exceptionTable := #[], attributes := #[] }
def k2m0 : Method := { name := "hasExtension", desc := "(II)Z", sig := { parameters := [.int, .int], returnType := some .boolean }, accessFlags := 8, code := some k2c0 }
/-- com/example/entry_to_apps/entrytoapps/IconCache -/
def k2 : Class := { plain "com/example/entry_to_apps/entrytoapps/IconCache" (some 0) with
  accessFlags := 48
  interfaces := #[]
  cf := some (fileOf pool2 8 #[] #[{ accessFlags := 8, nameIndex := 171, descriptorIndex := 172, attributes := #[] }] 48 2 #[] #[{ accessFlags := 24, nameIndex := 140, descriptorIndex := 141, attributes := #[] }, { accessFlags := 26, nameIndex := 145, descriptorIndex := 146, attributes := #[] }, { accessFlags := 26, nameIndex := 148, descriptorIndex := 16, attributes := #[] }, { accessFlags := 26, nameIndex := 149, descriptorIndex := 146, attributes := #[] }, { accessFlags := 26, nameIndex := 151, descriptorIndex := 146, attributes := #[] }, { accessFlags := 26, nameIndex := 139, descriptorIndex := 116, attributes := #[] }, { accessFlags := 26, nameIndex := 115, descriptorIndex := 116, attributes := #[] }, { accessFlags := 26, nameIndex := 153, descriptorIndex := 16, attributes := #[] }, { accessFlags := 26, nameIndex := 154, descriptorIndex := 16, attributes := #[] }, { accessFlags := 18, nameIndex := 11, descriptorIndex := 12, attributes := #[] }, { accessFlags := 18, nameIndex := 15, descriptorIndex := 16, attributes := #[] }, { accessFlags := 18, nameIndex := 19, descriptorIndex := 16, attributes := #[] }, { accessFlags := 18, nameIndex := 22, descriptorIndex := 23, attributes := #[] }])
  fields := #[{ name := "FILE_NAME", type := (.object "java/lang/String"), accessFlags := 24, slot := 0, constantValue := 0 }, { name := "MAX_MIB", type := .int, accessFlags := 26, slot := 1, constantValue := 0 }, { name := "NOWHERE", type := .long, accessFlags := 26, slot := 2, constantValue := 0 }, { name := "ICON_BYTES", type := .int, accessFlags := 26, slot := 3, constantValue := 0 }, { name := "IMAGE_BYTES", type := .int, accessFlags := 26, slot := 4, constantValue := 0 }, { name := "EXTENSION_FLAGS", type := (.array .int), accessFlags := 26, slot := 5, constantValue := 0 }, { name := "NO_IMAGES", type := (.array .int), accessFlags := 26, slot := 6, constantValue := 0 }, { name := "MAX_DIRECTORIES", type := .long, accessFlags := 26, slot := 7, constantValue := 0 }, { name := "MAX_NAME_BYTES", type := .long, accessFlags := 26, slot := 8, constantValue := 0 }, { name := "bytes", type := (.array .byte), accessFlags := 18, slot := 0, constantValue := 0 }, { name := "hashOffset", type := .long, accessFlags := 18, slot := 1, constantValue := 0 }, { name := "buckets", type := .long, accessFlags := 18, slot := 2, constantValue := 0 }, { name := "directories", type := (.object "java/util/Map"), accessFlags := 18, slot := 3, constantValue := 0 }]
  methods := #[k2m0]
  instanceTypes := #[(.array .byte), .long, .long, (.object "java/util/Map")]
  staticTypes := #[(.object "java/lang/String"), .int, .long, .int, .int, (.array .int), (.array .int), .long, .long]
  resolved := Array.replicate 176 none
  statics := some 0 }

def pool3 : Array CpInfo := pool [(1, u "java/lang/Cloneable"), (0, .class_ 1), (0, u "java/lang/Object"), (0, .class_ 3)] 3

/-- java/lang/Cloneable -/
def k3 : Class := { plain "java/lang/Cloneable" (some 0) with
  accessFlags := 1537
  interfaces := #[]
  cf := some (fileOf pool3 2 #[] #[] 1537 4 #[] #[])
  fields := #[]
  methods := #[]
  instanceTypes := #[]
  staticTypes := #[]
  resolved := Array.replicate 8 none
  statics := none }

def pool4 : Array CpInfo := pool [(1, u "java/io/Serializable"), (0, .class_ 1), (0, u "java/lang/Object"), (0, .class_ 3)] 3

/-- java/io/Serializable -/
def k4 : Class := { plain "java/io/Serializable" (some 0) with
  accessFlags := 1537
  interfaces := #[]
  cf := some (fileOf pool4 2 #[] #[] 1537 4 #[] #[])
  fields := #[]
  methods := #[]
  instanceTypes := #[]
  staticTypes := #[]
  resolved := Array.replicate 8 none
  statics := none }

/-- the primitive byte -/
def k5 : Class := { plain "byte" none with kind := .primitive 'B', accessFlags := 0x411 }
/-- [B -/
def k6 : Class := { plain "[B" (some 0) with kind := .array 5 .byte, interfaces := #[3, 4], accessFlags := 1041 }

/-- the primitive int -/
def k7 : Class := { plain "int" none with kind := .primitive 'I', accessFlags := 0x411 }
/-- [I -/
def k8 : Class := { plain "[I" (some 0) with kind := .array 7 .int, interfaces := #[3, 4], accessFlags := 1041 }

def heap : Heap := #[{ cls := 2, slots := #[.null, .int 0, .long 0, .int 0, .int 0, .ref 1, .null, .long 0, .long 0], vm := .statics 2 },
  { cls := 8, slots := #[.int 4, .int 2, .int 1], vm := .none }]
def classes : Array Class := #[k0, k1, k2, k3, k4, k5, k6, k7, k8]
def interned : List (Array UInt16 × Addr) := []
def slotsUsed : Nat := 12
def theMethod : MethodId := ⟨1, 1⟩
def args0 : Array Value := #[.int 5]
def aboutOver (below : List Frame) : State where
  vm := { classes := classes, interned := interned.toArray }
  heap := heap
  slotsUsed := slotsUsed
  threads := #[{ frames := .invoking theMethod args0 :: below }]
def below0 : List Frame := [.native { method := ⟨0, 0⟩, args := #[] }]
def about1 : State := aboutOver below0
def p0 : Program := .bare "" "" ""
def e0 : Env := launch0.env 0 0 0
theorem w_frames : about1.frames = Frame.invoking theMethod args0 :: below0 := rfl
set_option maxRecDepth 65536 in
theorem w_args : argsFit about1.vm theMethod args0 = true := by decide +kernel
set_option maxRecDepth 65536 in
theorem w_heap : heapFits about1 = true := by decide +kernel
set_option maxRecDepth 65536 in
theorem w_runnable : about1.curStatus? = some .runnable := by decide +kernel
set_option maxRecDepth 65536 in
theorem w_alone : about1.alone = true := by decide +kernel
set_option maxRecDepth 65536 in
theorem w_named : about1.methodNamed? x = some theMethod := by decide +kernel
set_option maxRecDepth 65536 in
theorem w_hears : about1.hears theMethod below0 = true := by decide +kernel
set_option maxRecDepth 65536 in
theorem w_ripe : about1.ripe theMethod args0 below0 = true := by decide +kernel
theorem w_running : about1.status = .running := rfl
set_option maxRecDepth 65536 in
theorem w_room : about1.hasRoom e0.platform room_1 = true :=
  launch0.hasRoom_least _ room_1 (by decide +kernel) (by decide +kernel) (by decide +kernel) (by decide +kernel) (by decide +kernel) (by decide +kernel)
theorem allAtoms_all (ts : List Jvm.Cond) (a : Array Jvm.Value) (st : Jvm.State) : (allAtoms ts).before a st = ts.all (fun c => c.before a st) := by
  induction ts with
  | nil => rfl
  | cons c t ih =>
    show (Jvm.Cond.and c (allAtoms t)).before a st = _
    rw [Jvm.Cond.before_and, ih, List.all_cons]
def words1 : List Jvm.Cond := Jvm.Cond.code x code maxLocals ret :: tables_1
/-- a 'code' word, met by the world's own term for the bytes: nothing is compared byte by byte -/
theorem code_word {y : MethodName} {bytes : ByteArray} {mx : Nat} {rt : Option FieldType} {a : Array Value} {s : State} {m : MethodId} {meth : Method} {c : Code} (h1 : s.methodNamed? y = some m) (h2 : s.vm.method? m = some meth) (h3 : meth.code = some c) (h4 : c.code = bytes)
    (h5 : (c.maxLocals == mx && c.exceptionTable.isEmpty && decide (c.maxStack ≤ mostOperands) && decide (meth.sig.returnType = rt) && !meth.locks && decide (parseMethodDescriptor y.desc = some meth.sig)) = true) : (Jvm.Cond.code y bytes mx rt).before a s = true := by
  simp only [Bool.and_eq_true, beq_iff_eq, Bool.not_eq_true', decide_eq_true_eq] at h5
  obtain ⟨⟨⟨⟨⟨g1, g2⟩, g3⟩, g4⟩, g5⟩, g6⟩ := h5
  simp [Cond.before, Cond.holds, Cond.value, h1, h2, h3, h4, g1, g2, g3, g4, g5, g6]
def isCode : Jvm.Cond → Bool
  | .code _ _ _ _ => true
  | _ => false
theorem all_split {L : List Jvm.Cond} {P : Jvm.Cond → Bool} (h1 : L.all (fun c => isCode c || P c) = true) (h2 : ∀ c ∈ L.filter isCode, P c = true) : L.all P = true := by
  refine List.all_eq_true.mpr fun c hc => ?_
  have h := List.all_eq_true.mp h1 c hc
  rcases Bool.eq_false_or_eq_true (isCode c) with hi | hi
  · exact h2 c (List.mem_filter.mpr ⟨hc, hi⟩)
  · simpa [hi] using h
set_option maxRecDepth 65536 in
theorem w_c0 : (Jvm.Cond.code x code maxLocals ret).before args0 about1 = true := code_word (m := ⟨1, 1⟩) (meth := k1m1) (c := k1c1) (by decide +kernel) rfl rfl rfl (by decide +kernel)
set_option maxRecDepth 65536 in
theorem w_c1 : (Jvm.Cond.code ({ cls := "com/example/entry_to_apps/entrytoapps/IconCache", name := "hasExtension", desc := "(II)Z" } : Jvm.MethodName) prog_28_method_7_code (2 : Nat) (Option.some Jvm.ClassFile.FieldType.boolean)).before args0 about1 = true := code_word (m := ⟨2, 0⟩) (meth := k2m0) (c := k2c0) (by decide +kernel) rfl rfl rfl (by decide +kernel)
def codes1 : List Jvm.Cond := [Jvm.Cond.code x code maxLocals ret, Jvm.Cond.code ({ cls := "com/example/entry_to_apps/entrytoapps/IconCache", name := "hasExtension", desc := "(II)Z" } : Jvm.MethodName) prog_28_method_7_code (2 : Nat) (Option.some Jvm.ClassFile.FieldType.boolean)]
set_option maxRecDepth 65536 in
theorem codes_eq : words1.filter isCode = codes1 := rfl
theorem w_codes : ∀ c ∈ words1.filter isCode, c.before args0 about1 = true := by
  rw [codes_eq]
  intro c hc
  simp only [codes1, List.mem_cons, List.not_mem_nil, or_false] at hc
  rcases hc with rfl | rfl
  · exact w_c0
  · exact w_c1
set_option maxRecDepth 65536 in
theorem w_t1 : words1.all (fun c => isCode c || c.before args0 about1) = true := by decide +kernel
theorem w_tables : (allAtoms (Jvm.Cond.code x code maxLocals ret :: tables_1)).before args0 about1 = true := by
  rw [allAtoms_all]
  show words1.all (fun c => c.before args0 about1) = true
  refine all_split ?_ w_codes
  rw [w_t1]
set_option maxRecDepth 65536 in
theorem w_case : (Jvm.Cond.and given_1 narrow_1).before args0 about1 = true := by decide +kernel
theorem w_applies : (headSpec (Jvm.Cond.code x code maxLocals ret :: tables_1) room_1).applies x e0.platform about1 = true :=
  (Spec.applies_iff w_frames).mpr ⟨w_running, w_runnable, w_alone, w_named, w_hears, w_ripe, w_room, w_tables⟩
theorem atStart : AtStart classFile x code maxLocals ret World_1 tables_1 room_1 Calls_1 rest_1 Pre_1 launch0 p0 e0 about1 theMethod args0 below0 :=
  ⟨lists_1, trivial, launch0.admits_env _ _ _, launch0.least_env, fairChoices_fair.cas, fairChoices_fair.clock, w_frames, w_args, w_heap, w_applies, trivial, trivial, w_case⟩
end start1
theorem witness_1 : WitnessClaimed_1 := ⟨start1.p0, start1.e0, start1.about1, start1.theMethod, start1.args0, start1.below0, start1.atStart⟩
end Jvm.Pilot.@@N@@
