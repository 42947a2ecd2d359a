import JvmDerived
import JvmDerived.Pilot.@@N@@Statement
import JvmDerived.Pilot.@@N@@Code
set_option linter.unusedVariables false
set_option linter.unusedSimpArgs false
@@BLOCK:NumsL.lean.txt@@
namespace Jvm.Pilot.@@N@@
open Jvm Jvm.ClassFile Sem Op Lib Jvm.Free Jvm.Stand Jvm.LawKit Jvm.RoadKit Bundle Jvm.Pilot.@@N@@.Jvm.D
theorem own_retI {p : Program} {l : Launch} {e : Env} {R : Room} {s : State} {m : MethodId} {args : Array Value} {below : List Frame} {meth : Method} {c : Code} {T : State} {locs : List Loc} {cells slots : Nat} (X : Stand p l e R s m args below meth c T locs cells slots) (hx : p.tables.exec = Jvm.exec) {pc : Nat} {Ls : Array Slot} {z : Int32} {rest : List Value} (hret : meth.sig.returnType = some .int) (hd : decode c.code pc = .ok (.ireturn, 1)) {fs : List Frame}
    (hl : ∀ (f : JFrame) (acts : List Action), f.method = m → f.locked = none → f.entered = [] → (doReturn e (T.setTop f) acts (some (.int z))).1 = T.setFrames fs) : Steps p.tables e below (T.setTop (mkF m pc Ls (.int z :: rest))) (T.setFrames fs) :=
  retOut X hx hret rfl (Or.inl ⟨rfl, Or.inl rfl, z, rfl⟩) hd hl
theorem own_retA {p : Program} {l : Launch} {e : Env} {R : Room} {s : State} {m : MethodId} {args : Array Value} {below : List Frame} {meth : Method} {c : Code} {T : State} {locs : List Loc} {cells slots : Nat} (X : Stand p l e R s m args below meth c T locs cells slots) (hx : p.tables.exec = Jvm.exec) {pc : Nat} {Ls : Array Slot} {w : Value} {t : FieldType} {rest : List Value} (hret : meth.sig.returnType = some t) (ht : t.isReference = true) (hw : w.isRef = true) (hn : narrow t w = w) (hd : decode c.code pc = .ok (.areturn, 1)) {fs : List Frame}
    (hl : ∀ (f : JFrame) (acts : List Action), f.method = m → f.locked = none → f.entered = [] → (doReturn e (T.setTop f) acts (some w)).1 = T.setFrames fs) : Steps p.tables e below (T.setTop (mkF m pc Ls (w :: rest))) (T.setFrames fs) :=
  retOut X hx hret hn (Or.inr (Or.inr (Or.inr (Or.inr ⟨rfl, ht, hw⟩)))) hd hl
theorem own_retJ {p : Program} {l : Launch} {e : Env} {R : Room} {s : State} {m : MethodId} {args : Array Value} {below : List Frame} {meth : Method} {c : Code} {T : State} {locs : List Loc} {cells slots : Nat} (X : Stand p l e R s m args below meth c T locs cells slots) (hx : p.tables.exec = Jvm.exec) {pc : Nat} {Ls : Array Slot} {z : Int64} {rest : List Value} (hret : meth.sig.returnType = some .long) (hd : decode c.code pc = .ok (.lreturn, 1)) {fs : List Frame}
    (hl : ∀ (f : JFrame) (acts : List Action), f.method = m → f.locked = none → f.entered = [] → (doReturn e (T.setTop f) acts (some (.long z))).1 = T.setFrames fs) : Steps p.tables e below (T.setTop (mkF m pc Ls (.long z :: rest))) (T.setFrames fs) :=
  retOut X hx hret rfl (Or.inr (Or.inl ⟨rfl, rfl, z, rfl⟩)) hd hl
theorem own_exttr {h0 h h' : Heap} (E : Ext h0 h) (E' : Ext h h') : Ext h0 h' := ⟨Nat.le_trans E.1 E'.1, fun a c q => E'.2 _ _ (E.2 _ _ q)⟩
theorem own_extwr {h0 h h' : Heap} {a : Addr} {sl : Nat} {v : Value} (E : Ext h0 h) (W : Wr h h' a sl v) (q : h0.size ≤ a) : Ext h0 h' := by
  refine ⟨Nat.le_trans E.1 (Nat.le_of_eq W.size.symm), fun x c hc => ?_⟩
  obtain ⟨c', e1, -, -, -, e5, -⟩ := wr_at W (E.2 x c hc)
  have hx : x < h0.size := (Array.getElem?_eq_some_iff.mp hc).1
  rw [e5 (Nat.ne_of_lt (Nat.lt_of_lt_of_le hx q))] at e1
  exact e1
theorem own_wmono {s t : State} {o : Outcome} {L : List Loc} {k n k' n' : Nat} (h : ReturnedEndW s o t L k n) (hk : k ≤ k') (hn : n ≤ n') : ReturnedEndW s o t L k' n' := ⟨h.1, h.2.1, h.2.2.1, h.2.2.2.mono hk hn⟩
theorem own_strAtoms {Z : State} {a0 : Array Value} (w1 : (Jvm.Cond.initialized "java/lang/String").before a0 Z = true) (w2 : (Jvm.Cond.instantiable "java/lang/String" 4).before a0 Z = true) (w3 : (Jvm.Cond.arrayClass .byte).before a0 Z = true) (w4 : (Jvm.Cond.laysFinal "java/lang/String" "java/lang/String" "value" "[B").before a0 Z = true) (w5 : (Jvm.Cond.laysFinal "java/lang/String" "java/lang/String" "coder" "B").before a0 Z = true) (w6 : (Jvm.Cond.soleField "java/lang/String" "value").before a0 Z = true) (w7 : (Jvm.Cond.soleField "java/lang/String" "coder").before a0 Z = true) : ∀ a ∈ Bundle.stringAtoms, a.before a0 Z = true := by
  intro a ha
  simp only [Bundle.stringAtoms, List.mem_cons, List.not_mem_nil, or_false] at ha
  rcases ha with rfl | rfl | rfl | rfl | rfl | rfl | rfl <;> assumption
theorem own_extkeep {h0 h h' : Heap} {a : Addr} (E : Ext h0 h) (K : Keep h h' [a]) (q : h0.size ≤ a) : Ext h0 h' := ⟨Nat.le_trans E.1 K.1, fun x c hc => K.2.1 x c (E.2 x c hc) (fun hm => absurd (List.mem_singleton.mp hm) (Nat.ne_of_lt (Nat.lt_of_lt_of_le (Array.getElem?_eq_some_iff.mp hc).1 q)))⟩
theorem own_fld2 {Z : State} {h : Heap} {a : Addr} {C O n d O1 n1 d1 : String} {v1 : Value} {a0 : Array Value} {k : Nat} (E : Exa Z h a C) (F : Fld Z h a O1 n1 d1 v1) (L : Laid Z a0 C O n d) (wi : (Jvm.Cond.instantiable C k).before a0 Z = true) : ∃ v, Fld Z h a O n d v := by
  obtain ⟨cell, kc, h1, h2, h3, h4, h5⟩ := E
  obtain ⟨cell', cf', k', i', f', g1, -, -, g4, g5, -, -⟩ := F
  cases h1.symm.trans g1
  obtain ⟨c, k2, cf, kf, i, f, a1, a2, a3, a4, a5, a6, -⟩ := L.spec
  cases h2.symm.trans a1
  cases h3.symm.trans a2
  obtain ⟨c2, k3, i1, i2, i3, -⟩ := Cond.instantiable_spec wi
  cases h2.symm.trans i1
  cases h3.symm.trans i2
  have hs := h5 i3
  have hlt : f.slot < cell.slots.size := by rw [hs]; exact (Array.getElem?_eq_some_iff.mp a6).1
  exact ⟨cell.slots[f.slot], cell, cf, kf, i, f, h1, a3, a4, g4, g5, a5, Array.getElem?_eq_getElem hlt⟩
theorem own_retD {p : Program} {l : Launch} {e : Env} {R : Room} {s : State} {m : MethodId} {args : Array Value} {below : List Frame} {meth : Method} {c : Code} {T : State} {locs : List Loc} {cells slots : Nat} (X : Stand p l e R s m args below meth c T locs cells slots) (hx : p.tables.exec = Jvm.exec) {pc : Nat} {Ls : Array Slot} {z : UInt64} {rest : List Value} (hret : meth.sig.returnType = some .double) (hd : decode c.code pc = .ok (.dreturn, 1)) {fs : List Frame}
    (hl : ∀ (f : JFrame) (acts : List Action), f.method = m → f.locked = none → f.entered = [] → (doReturn e (T.setTop f) acts (some (.double z))).1 = T.setFrames fs) : Steps p.tables e below (T.setTop (mkF m pc Ls (.double z :: rest))) (T.setFrames fs) :=
  retOut X hx hret rfl (Or.inr (Or.inr (Or.inl ⟨rfl, rfl, z, rfl⟩))) hd hl
theorem own_eqk {args : Array Value} {first s : State} {o : Option Outcome} {idx : List Nat} {t : Term} {k : Int32} (h : (Jvm.Cond.eq t (.int k)).value args first o s idx = some true) : t.eval args first o idx s = some (.int k) := by
  have hk : (Term.int k).eval args first o idx s = some (.int k) := Term.int_eval k
  cases ht : t.eval args first o idx s with
  | none => simp [Cond.value, ht] at h
  | some x => cases x <;> simp [Cond.value, ht, hk] at h ⊢ <;> exact h
theorem own_pn0 : plainName "com/example/gard/gard/core/TruthAndPinLaw" = true := by first | (simp [plainName, overriddenIn]; done) | decide +kernel
theorem own_d_pick_0 : decode method_2_code 0 = .ok (.iload_n 0, 1) := by decide +kernel
theorem own_d_pick_1 : decode method_2_code 1 = .ok (.ldc 7, 2) := by decide +kernel
theorem own_d_pick_3 : decode method_2_code 3 = .ok (.iand, 1) := by decide +kernel
theorem own_d_pick_4 : decode method_2_code 4 = .ok (.iconst 3, 1) := by decide +kernel
theorem own_d_pick_5 : decode method_2_code 5 = .ok (.irem, 1) := by decide +kernel
theorem own_d_pick_6 : decode method_2_code 6 = .ok (.istore_n 1, 1) := by decide +kernel
theorem own_d_pick_7 : decode method_2_code 7 = .ok (.iload_n 1, 1) := by decide +kernel
theorem own_d_pick_8 : decode method_2_code 8 = .ok (.ifCond .ne 7, 3) := by decide +kernel
theorem own_d_pick_11 : decode method_2_code 11 = .ok (.getstatic 8, 3) := by decide +kernel
theorem own_d_pick_14 : decode method_2_code 14 = .ok (.areturn, 1) := by decide +kernel
theorem own_d_pick_15 : decode method_2_code 15 = .ok (.iload_n 1, 1) := by decide +kernel
theorem own_d_pick_16 : decode method_2_code 16 = .ok (.iconst 1, 1) := by decide +kernel
theorem own_d_pick_17 : decode method_2_code 17 = .ok (.if_icmp .ne 7, 3) := by decide +kernel
theorem own_d_pick_20 : decode method_2_code 20 = .ok (.getstatic 14, 3) := by decide +kernel
theorem own_d_pick_23 : decode method_2_code 23 = .ok (.areturn, 1) := by decide +kernel
theorem own_d_pick_24 : decode method_2_code 24 = .ok (.getstatic 17, 3) := by decide +kernel
theorem own_d_pick_27 : decode method_2_code 27 = .ok (.areturn, 1) := by decide +kernel
def F_pick (p0 : Int32) (w_TRUE : Addr) (w_FALSE : Addr) (w_UNKNOWN : Addr) : Addr := (if ((p0 &&& (2147483647 : Int32)) % (3 : Int32)) = (0 : Int32) then w_TRUE else (if ((p0 &&& (2147483647 : Int32)) % (3 : Int32)) = (1 : Int32) then w_FALSE else w_UNKNOWN))
theorem own_ef_pick (m : MethodId) (p0 : Int32) : entryFrame m #[(.int p0)] 2 = mkF m 0 #[.val (.int p0), .unset] [] := by first | (simp [entryFrame, mkF, argsToLocals, Value.category]; done) | rfl
def Q_pick (Z : State) (p0 : Int32) (w_TRUE : Addr) (w_FALSE : Addr) (w_UNKNOWN : Addr) (h0 : Heap) (n0 : Nat) (v : Option Value) (h : Heap) (L : List Loc) : Prop := v = some (.ref (F_pick p0 w_TRUE w_FALSE w_UNKNOWN)) ∧ Fr n0 L ∧ h = h0
set_option maxRecDepth 65536 in
set_option maxHeartbeats 40000000 in
theorem rm_pick (l : Launch) (Z : State) (a0' : Array Value) (hw : ∀ d ∈ tables_1, d.before a0' Z = true) (ws : List Jvm.Cond) (p0 : Int32) (w_TRUE : Addr) (w_FALSE : Addr) (w_UNKNOWN : Addr) (h0 : Heap) (n0 : Nat) (Z0 : n0 ≤ h0.size) (S_TRUE : Sta Z h0 "com/example/gard/gard/core/Truth" "TRUE" "Lcom/example/gard/gard/core/Truth;" (.ref w_TRUE)) (S_FALSE : Sta Z h0 "com/example/gard/gard/core/Truth" "FALSE" "Lcom/example/gard/gard/core/Truth;" (.ref w_FALSE)) (S_UNKNOWN : Sta Z h0 "com/example/gard/gard/core/Truth" "UNKNOWN" "Lcom/example/gard/gard/core/Truth;" (.ref w_UNKNOWN)) :
    MetFree l (⟨"com/example/gard/gard/core/TruthAndPinLaw", "pick", "(I)Lcom/example/gard/gard/core/Truth;"⟩ : MethodName) (head1 (Jvm.Cond.code (⟨"com/example/gard/gard/core/TruthAndPinLaw", "pick", "(I)Lcom/example/gard/gard/core/Truth;"⟩ : MethodName) method_2_code 2 (some (.object "com/example/gard/gard/core/Truth")) :: ws) ({ frames := 0, cells := 0, slots := 0, locals := 0 } : Room)) (fun a U => a = #[(.int p0)] ∧ Z.Warmed39 U.vm ∧ U.heap = h0) (fun _ _ _ _ _ => True) (fun _ U o U' => ∃ v L, o = .returned v ∧ Q_pick Z p0 w_TRUE w_FALSE w_UNKNOWN h0 n0 v U'.heap L ∧ FrameEnd U o U' L ({ frames := 0, cells := 0, slots := 0, locals := 0 } : Room).cells ({ frames := 0, cells := 0, slots := 0, locals := 0 } : Room).slots) := by
  refine MetFree.of_bodySF (plainFor_of_name own_pn0) hisR ?_
  intro p e s m args below meth c s₁ Bd hml0 hP hK
  obtain ⟨rfl, hZ, hh⟩ := hP
  have hx := Bd.exec
  have hby := Bd.bytes
  have hml : c.maxLocals = 2 := hml0
  have hown : s.vm.findClass "com/example/gard/gard/core/TruthAndPinLaw" = some m.cls := findClass_of_methodNamed Bd.named
  have hnm := (name_of_methodNamed Bd.named Bd.method).1
  have X0 : Stand p l e ({ frames := 0, cells := 0, slots := 0, locals := 0 } : Room) s m #[(.int p0)] below meth c s₁ [] 0 0 := Stand.of_body Bd
  have e0 : s₁.heap = h0 := by rw [← hh, Bd.state]; rfl
  have N0 := Fr.nil n0
  have pre0 : ∀ t, Steps p.tables e below (s₁.setTop (mkF m 0 #[.val (.int p0), .unset] [])) t → Steps p.tables e below (s₁.setTop (entryFrame m #[(.int p0)] 2)) t := fun t k => castTop (own_ef_pick m p0) k
  have pre2 : ∀ t, Steps p.tables e below (s₁.setTop (mkF m 8 #[.val (.int p0), .val (.int ((p0 &&& (2147483647 : Int32)) % (3 : Int32)))] [(.int ((p0 &&& (2147483647 : Int32)) % (3 : Int32)))])) t → Steps p.tables e below (s₁.setTop (entryFrame m #[(.int p0)] 2)) t := fun t k => pre0 t (by
    show Steps p.tables e below (s₁.setTop (mkF m 0 #[.val (.int p0), .unset] [])) _
    refine XS.iloadN X0.here hx rfl (hb hby own_d_pick_0) rfl ?_
    show Steps p.tables e below (s₁.setTop (mkF m 1 #[.val (.int p0), .unset] [(.int p0)])) _
    refine X0.ldcInt hx hown (mvT hZ (hw _ (List.mem_of_getElem? (i := 4) rfl))) (g := (mkF m 1 #[.val (.int p0), .unset] [(.int p0)])) rfl (hb hby own_d_pick_1) _ ?_
    show Steps p.tables e below (s₁.setTop (mkF m 3 #[.val (.int p0), .unset] [(.int (2147483647 : Int32)), (.int p0)])) _
    refine XS.iand X0.here hx rfl (hb hby own_d_pick_3) rfl ?_
    show Steps p.tables e below (s₁.setTop (mkF m 4 #[.val (.int p0), .unset] [(.int (p0 &&& (2147483647 : Int32)))])) _
    refine XS.iconst X0.here hx rfl (hb hby own_d_pick_4) ?_
    show Steps p.tables e below (s₁.setTop (mkF m 5 #[.val (.int p0), .unset] [(.int (3 : Int32)), (.int (p0 &&& (2147483647 : Int32)))])) _
    refine iremM X0 hx rfl (hb hby own_d_pick_5) rfl (by decide) ?_
    show Steps p.tables e below (s₁.setTop (mkF m 6 #[.val (.int p0), .unset] [(.int ((p0 &&& (2147483647 : Int32)) % (3 : Int32)))])) _
    refine XS.istoreN X0.here hx rfl (hb hby own_d_pick_6) rfl (l' := #[.val (.int p0), .val (.int ((p0 &&& (2147483647 : Int32)) % (3 : Int32)))]) rfl ?_
    show Steps p.tables e below (s₁.setTop (mkF m 7 #[.val (.int p0), .val (.int ((p0 &&& (2147483647 : Int32)) % (3 : Int32)))] [])) _
    refine XS.iloadN X0.here hx rfl (hb hby own_d_pick_7) rfl ?_
    exact k)
  by_cases hc8_1 : ((p0 &&& (2147483647 : Int32)) % (3 : Int32)) = (0 : Int32)
  · obtain ⟨T3, X3, e3, st3⟩ := getS2 X0 hx hZ hown (host := "") (Or.inl (hw _ (List.mem_of_getElem? (i := 5) rfl))) Via.refl e0 S_TRUE (g := (mkF m 11 #[.val (.int p0), .val (.int ((p0 &&& (2147483647 : Int32)) % (3 : Int32)))] [])) rfl (hb hby own_d_pick_11)
    obtain ⟨fs, hr, hrun, hended, hW, hsame⟩ := X3.leave (v := some (.ref w_TRUE)) (fun h => by rw [Bd.returns] at h; cases h)
    refine ⟨_, _, pre2 _ ?_, hrun, hended, _, _, rfl, ?_, ⟨_, rfl⟩, hW, hsame.mono (by decide) (by decide)⟩
    · show Steps p.tables e below (s₁.setTop (mkF m 8 #[.val (.int p0), .val (.int ((p0 &&& (2147483647 : Int32)) % (3 : Int32)))] [(.int ((p0 &&& (2147483647 : Int32)) % (3 : Int32)))])) _
      refine XS.ifNo X0.here hx rfl (hb hby own_d_pick_8) rfl ((if0 _ _).trans (teq hc8_1).2) ?_
      show Steps p.tables e below (s₁.setTop (mkF m 11 #[.val (.int p0), .val (.int ((p0 &&& (2147483647 : Int32)) % (3 : Int32)))] [])) _
      refine st3 _ ?_
      show Steps p.tables e below (T3.setTop (mkF m 14 #[.val (.int p0), .val (.int ((p0 &&& (2147483647 : Int32)) % (3 : Int32)))] [(.ref w_TRUE)])) _
      exact own_retA X3 hx Bd.returns rfl rfl rfl (hb hby own_d_pick_14) hr
    · show Q_pick Z p0 w_TRUE w_FALSE w_UNKNOWN h0 n0 _ T3.heap _
      refine ⟨?_, N0, e3⟩
      rw [F_pick, if_pos hc8_1]
  · have pre5 : ∀ t, Steps p.tables e below (s₁.setTop (mkF m 17 #[.val (.int p0), .val (.int ((p0 &&& (2147483647 : Int32)) % (3 : Int32)))] [(.int (1 : Int32)), (.int ((p0 &&& (2147483647 : Int32)) % (3 : Int32)))])) t → Steps p.tables e below (s₁.setTop (entryFrame m #[(.int p0)] 2)) t := fun t k => pre2 t (by
      show Steps p.tables e below (s₁.setTop (mkF m 8 #[.val (.int p0), .val (.int ((p0 &&& (2147483647 : Int32)) % (3 : Int32)))] [(.int ((p0 &&& (2147483647 : Int32)) % (3 : Int32)))])) _
      refine XS.ifYes X0.here hx rfl (pc0 := 8) (pc' := 15) rfl (hb hby own_d_pick_8) rfl ((if0 _ _).trans (feq hc8_1).2) (by decide) (by decide) ?_
      show Steps p.tables e below (s₁.setTop (mkF m 15 #[.val (.int p0), .val (.int ((p0 &&& (2147483647 : Int32)) % (3 : Int32)))] [])) _
      refine XS.iloadN X0.here hx rfl (hb hby own_d_pick_15) rfl ?_
      show Steps p.tables e below (s₁.setTop (mkF m 16 #[.val (.int p0), .val (.int ((p0 &&& (2147483647 : Int32)) % (3 : Int32)))] [(.int ((p0 &&& (2147483647 : Int32)) % (3 : Int32)))])) _
      refine XS.iconst X0.here hx rfl (hb hby own_d_pick_16) ?_
      exact k)
    by_cases hc17_4 : ((p0 &&& (2147483647 : Int32)) % (3 : Int32)) = (1 : Int32)
    · obtain ⟨T6, X6, e6, st6⟩ := getS2 X0 hx hZ hown (host := "") (Or.inl (hw _ (List.mem_of_getElem? (i := 25) rfl))) Via.refl e0 S_FALSE (g := (mkF m 20 #[.val (.int p0), .val (.int ((p0 &&& (2147483647 : Int32)) % (3 : Int32)))] [])) rfl (hb hby own_d_pick_20)
      obtain ⟨fs, hr, hrun, hended, hW, hsame⟩ := X6.leave (v := some (.ref w_FALSE)) (fun h => by rw [Bd.returns] at h; cases h)
      refine ⟨_, _, pre5 _ ?_, hrun, hended, _, _, rfl, ?_, ⟨_, rfl⟩, hW, hsame.mono (by decide) (by decide)⟩
      · show Steps p.tables e below (s₁.setTop (mkF m 17 #[.val (.int p0), .val (.int ((p0 &&& (2147483647 : Int32)) % (3 : Int32)))] [(.int (1 : Int32)), (.int ((p0 &&& (2147483647 : Int32)) % (3 : Int32)))])) _
        refine XS.icmpNo X0.here hx rfl (hb hby own_d_pick_17) rfl (teq hc17_4).2 ?_
        show Steps p.tables e below (s₁.setTop (mkF m 20 #[.val (.int p0), .val (.int ((p0 &&& (2147483647 : Int32)) % (3 : Int32)))] [])) _
        refine st6 _ ?_
        show Steps p.tables e below (T6.setTop (mkF m 23 #[.val (.int p0), .val (.int ((p0 &&& (2147483647 : Int32)) % (3 : Int32)))] [(.ref w_FALSE)])) _
        exact own_retA X6 hx Bd.returns rfl rfl rfl (hb hby own_d_pick_23) hr
      · show Q_pick Z p0 w_TRUE w_FALSE w_UNKNOWN h0 n0 _ T6.heap _
        refine ⟨?_, N0, e6⟩
        rw [F_pick, if_neg hc8_1, if_pos hc17_4]
    · obtain ⟨T7, X7, e7, st7⟩ := getS2 X0 hx hZ hown (host := "") (Or.inl (hw _ (List.mem_of_getElem? (i := 23) rfl))) Via.refl e0 S_UNKNOWN (g := (mkF m 24 #[.val (.int p0), .val (.int ((p0 &&& (2147483647 : Int32)) % (3 : Int32)))] [])) rfl (hb hby own_d_pick_24)
      obtain ⟨fs, hr, hrun, hended, hW, hsame⟩ := X7.leave (v := some (.ref w_UNKNOWN)) (fun h => by rw [Bd.returns] at h; cases h)
      refine ⟨_, _, pre5 _ ?_, hrun, hended, _, _, rfl, ?_, ⟨_, rfl⟩, hW, hsame.mono (by decide) (by decide)⟩
      · show Steps p.tables e below (s₁.setTop (mkF m 17 #[.val (.int p0), .val (.int ((p0 &&& (2147483647 : Int32)) % (3 : Int32)))] [(.int (1 : Int32)), (.int ((p0 &&& (2147483647 : Int32)) % (3 : Int32)))])) _
        refine XS.icmpYes X0.here hx rfl (pc0 := 17) (pc' := 24) rfl (hb hby own_d_pick_17) rfl (feq hc17_4).2 (by decide) (by decide) ?_
        show Steps p.tables e below (s₁.setTop (mkF m 24 #[.val (.int p0), .val (.int ((p0 &&& (2147483647 : Int32)) % (3 : Int32)))] [])) _
        refine st7 _ ?_
        show Steps p.tables e below (T7.setTop (mkF m 27 #[.val (.int p0), .val (.int ((p0 &&& (2147483647 : Int32)) % (3 : Int32)))] [(.ref w_UNKNOWN)])) _
        exact own_retA X7 hx Bd.returns rfl rfl rfl (hb hby own_d_pick_27) hr
      · show Q_pick Z p0 w_TRUE w_FALSE w_UNKNOWN h0 n0 _ T7.heap _
        refine ⟨?_, N0, e7⟩
        rw [F_pick, if_neg hc8_1, if_neg hc17_4]
theorem own_pn1 : plainName "com/example/gard/gard/core/Truth" = true := by first | (simp [plainName, overriddenIn]; done) | decide +kernel
theorem own_d_conj_0 : decode prog_57_method_6_code 0 = .ok (.aload_n 0, 1) := by decide +kernel
theorem own_d_conj_1 : decode prog_57_method_6_code 1 = .ok (.getstatic 7, 3) := by decide +kernel
theorem own_d_conj_4 : decode prog_57_method_6_code 4 = .ok (.if_acmp .eq 10, 3) := by decide +kernel
theorem own_d_conj_14 : decode prog_57_method_6_code 14 = .ok (.getstatic 7, 3) := by decide +kernel
theorem own_d_conj_17 : decode prog_57_method_6_code 17 = .ok (.astore_n 2, 1) := by decide +kernel
theorem own_d_conj_18 : decode prog_57_method_6_code 18 = .ok (.goto 27, 3) := by decide +kernel
theorem own_d_conj_45 : decode prog_57_method_6_code 45 = .ok (.aload_n 2, 1) := by decide +kernel
theorem own_d_conj_46 : decode prog_57_method_6_code 46 = .ok (.areturn, 1) := by decide +kernel
theorem own_d_conj_7 : decode prog_57_method_6_code 7 = .ok (.aload_n 1, 1) := by decide +kernel
theorem own_d_conj_8 : decode prog_57_method_6_code 8 = .ok (.getstatic 7, 3) := by decide +kernel
theorem own_d_conj_11 : decode prog_57_method_6_code 11 = .ok (.if_acmp .ne 10, 3) := by decide +kernel
theorem own_d_conj_21 : decode prog_57_method_6_code 21 = .ok (.aload_n 0, 1) := by decide +kernel
theorem own_d_conj_22 : decode prog_57_method_6_code 22 = .ok (.getstatic 3, 3) := by decide +kernel
theorem own_d_conj_25 : decode prog_57_method_6_code 25 = .ok (.if_acmp .ne 16, 3) := by decide +kernel
theorem own_d_conj_28 : decode prog_57_method_6_code 28 = .ok (.aload_n 1, 1) := by decide +kernel
theorem own_d_conj_29 : decode prog_57_method_6_code 29 = .ok (.getstatic 3, 3) := by decide +kernel
theorem own_d_conj_32 : decode prog_57_method_6_code 32 = .ok (.if_acmp .ne 9, 3) := by decide +kernel
theorem own_d_conj_35 : decode prog_57_method_6_code 35 = .ok (.getstatic 3, 3) := by decide +kernel
theorem own_d_conj_38 : decode prog_57_method_6_code 38 = .ok (.goto 6, 3) := by decide +kernel
theorem own_d_conj_44 : decode prog_57_method_6_code 44 = .ok (.astore_n 2, 1) := by decide +kernel
theorem own_d_conj_41 : decode prog_57_method_6_code 41 = .ok (.getstatic 10, 3) := by decide +kernel
def F_conj (a0 : Addr) (a1 : Addr) (w_TRUE : Addr) (w_FALSE : Addr) (w_UNKNOWN : Addr) : Addr := (if a0 = w_FALSE then w_FALSE else (if a1 = w_FALSE then w_FALSE else (if a0 = w_TRUE then (if a1 = w_TRUE then w_TRUE else w_UNKNOWN) else w_UNKNOWN)))
theorem own_ef_conj (m : MethodId) (a0 : Addr) (a1 : Addr) : entryFrame m #[(.ref a0), (.ref a1)] 3 = mkF m 0 #[.val (.ref a0), .val (.ref a1), .unset] [] := by first | (simp [entryFrame, mkF, argsToLocals, Value.category]; done) | rfl
def Q_conj (Z : State) (a0 : Addr) (a1 : Addr) (w_TRUE : Addr) (w_FALSE : Addr) (w_UNKNOWN : Addr) (h0 : Heap) (n0 : Nat) (v : Option Value) (h : Heap) (L : List Loc) : Prop := v = some (.ref (F_conj a0 a1 w_TRUE w_FALSE w_UNKNOWN)) ∧ Fr n0 L ∧ h = h0
set_option maxRecDepth 65536 in
set_option maxHeartbeats 40000000 in
theorem rm_conj (l : Launch) (Z : State) (a0' : Array Value) (hw : ∀ d ∈ tables_1, d.before a0' Z = true) (ws : List Jvm.Cond) (a0 : Addr) (a1 : Addr) (w_TRUE : Addr) (w_FALSE : Addr) (w_UNKNOWN : Addr) (h0 : Heap) (n0 : Nat) (Z0 : n0 ≤ h0.size) (S_TRUE : Sta Z h0 "com/example/gard/gard/core/Truth" "TRUE" "Lcom/example/gard/gard/core/Truth;" (.ref w_TRUE)) (S_FALSE : Sta Z h0 "com/example/gard/gard/core/Truth" "FALSE" "Lcom/example/gard/gard/core/Truth;" (.ref w_FALSE)) (S_UNKNOWN : Sta Z h0 "com/example/gard/gard/core/Truth" "UNKNOWN" "Lcom/example/gard/gard/core/Truth;" (.ref w_UNKNOWN)) :
    MetFree l (⟨"com/example/gard/gard/core/Truth", "and", "(Lcom/example/gard/gard/core/Truth;)Lcom/example/gard/gard/core/Truth;"⟩ : MethodName) (head1 (Jvm.Cond.code (⟨"com/example/gard/gard/core/Truth", "and", "(Lcom/example/gard/gard/core/Truth;)Lcom/example/gard/gard/core/Truth;"⟩ : MethodName) prog_57_method_6_code 3 (some (.object "com/example/gard/gard/core/Truth")) :: ws) ({ frames := 0, cells := 0, slots := 0, locals := 0 } : Room)) (fun a U => a = #[(.ref a0), (.ref a1)] ∧ Z.Warmed39 U.vm ∧ U.heap = h0) (fun _ _ _ _ _ => True) (fun _ U o U' => ∃ v L, o = .returned v ∧ Q_conj Z a0 a1 w_TRUE w_FALSE w_UNKNOWN h0 n0 v U'.heap L ∧ FrameEnd U o U' L ({ frames := 0, cells := 0, slots := 0, locals := 0 } : Room).cells ({ frames := 0, cells := 0, slots := 0, locals := 0 } : Room).slots) := by
  refine MetFree.of_bodySF (plainFor_of_name own_pn1) hisR ?_
  intro p e s m args below meth c s₁ Bd hml0 hP hK
  obtain ⟨rfl, hZ, hh⟩ := hP
  have hx := Bd.exec
  have hby := Bd.bytes
  have hml : c.maxLocals = 3 := hml0
  have hown : s.vm.findClass "com/example/gard/gard/core/Truth" = some m.cls := findClass_of_methodNamed Bd.named
  have hnm := (name_of_methodNamed Bd.named Bd.method).1
  have X0 : Stand p l e ({ frames := 0, cells := 0, slots := 0, locals := 0 } : Room) s m #[(.ref a0), (.ref a1)] below meth c s₁ [] 0 0 := Stand.of_body Bd
  have e0 : s₁.heap = h0 := by rw [← hh, Bd.state]; rfl
  have N0 := Fr.nil n0
  have pre0 : ∀ t, Steps p.tables e below (s₁.setTop (mkF m 0 #[.val (.ref a0), .val (.ref a1), .unset] [])) t → Steps p.tables e below (s₁.setTop (entryFrame m #[(.ref a0), (.ref a1)] 3)) t := fun t k => castTop (own_ef_conj m a0 a1) k
  obtain ⟨T8, X8, e8, st8⟩ := getS2 X0 hx hZ hown (host := "") (Or.inl (hw _ (List.mem_of_getElem? (i := 13) rfl))) Via.refl e0 S_FALSE (g := (mkF m 1 #[.val (.ref a0), .val (.ref a1), .unset] [(.ref a0)])) rfl (hb hby own_d_conj_1)
  have pre10 : ∀ t, Steps p.tables e below (T8.setTop (mkF m 4 #[.val (.ref a0), .val (.ref a1), .unset] [(.ref w_FALSE), (.ref a0)])) t → Steps p.tables e below (s₁.setTop (entryFrame m #[(.ref a0), (.ref a1)] 3)) t := fun t k => pre0 t (by
    show Steps p.tables e below (s₁.setTop (mkF m 0 #[.val (.ref a0), .val (.ref a1), .unset] [])) _
    refine XS.aloadN X0.here hx rfl (hb hby own_d_conj_0) rfl rfl ?_
    show Steps p.tables e below (s₁.setTop (mkF m 1 #[.val (.ref a0), .val (.ref a1), .unset] [(.ref a0)])) _
    refine st8 _ ?_
    exact k)
  by_cases hc4_9 : a0 = w_FALSE
  · obtain ⟨T11, X11, e11, st11⟩ := getS2 X8 hx hZ hown (host := "") (Or.inl (hw _ (List.mem_of_getElem? (i := 13) rfl))) Via.refl e8 S_FALSE (g := (mkF m 14 #[.val (.ref a0), .val (.ref a1), .unset] [])) rfl (hb hby own_d_conj_14)
    obtain ⟨fs, hr, hrun, hended, hW, hsame⟩ := X11.leave (v := some (.ref w_FALSE)) (fun h => by rw [Bd.returns] at h; cases h)
    refine ⟨_, _, pre10 _ ?_, hrun, hended, _, _, rfl, ?_, ⟨_, rfl⟩, hW, hsame.mono (by decide) (by decide)⟩
    · show Steps p.tables e below (T8.setTop (mkF m 4 #[.val (.ref a0), .val (.ref a1), .unset] [(.ref w_FALSE), (.ref a0)])) _
      refine Jvm.RoadKit.acmp (g := (mkF m 4 #[.val (.ref a0), .val (.ref a1), .unset] [(.ref w_FALSE), (.ref a0)])) X8 hx rfl rfl rfl (pc0 := 4) (pc' := 14) (same := true) rfl (hb hby own_d_conj_4) rfl (decide_eq_true (congrArg Value.ref hc4_9)) (by decide) (by decide) ?_
      show Steps p.tables e below (T8.setTop (mkF m 14 #[.val (.ref a0), .val (.ref a1), .unset] [])) _
      refine st11 _ ?_
      show Steps p.tables e below (T11.setTop (mkF m 17 #[.val (.ref a0), .val (.ref a1), .unset] [(.ref w_FALSE)])) _
      refine XS.astoreN X11.here hx rfl (hb hby own_d_conj_17) rfl rfl (l' := #[.val (.ref a0), .val (.ref a1), .val (.ref w_FALSE)]) rfl ?_
      show Steps p.tables e below (T11.setTop (mkF m 18 #[.val (.ref a0), .val (.ref a1), .val (.ref w_FALSE)] [])) _
      refine XS.goto X11.here hx rfl (pc0 := 18) (pc' := 45) rfl (hb hby own_d_conj_18) (by decide) (by decide) ?_
      show Steps p.tables e below (T11.setTop (mkF m 45 #[.val (.ref a0), .val (.ref a1), .val (.ref w_FALSE)] [])) _
      refine XS.aloadN X11.here hx rfl (hb hby own_d_conj_45) rfl rfl ?_
      show Steps p.tables e below (T11.setTop (mkF m 46 #[.val (.ref a0), .val (.ref a1), .val (.ref w_FALSE)] [(.ref w_FALSE)])) _
      exact own_retA X11 hx Bd.returns rfl rfl rfl (hb hby own_d_conj_46) hr
    · show Q_conj Z a0 a1 w_TRUE w_FALSE w_UNKNOWN h0 n0 _ T11.heap _
      refine ⟨?_, N0, e11⟩
      rw [F_conj, if_pos hc4_9]
  · obtain ⟨T12, X12, e12, st12⟩ := getS2 X8 hx hZ hown (host := "") (Or.inl (hw _ (List.mem_of_getElem? (i := 13) rfl))) Via.refl e8 S_FALSE (g := (mkF m 8 #[.val (.ref a0), .val (.ref a1), .unset] [(.ref a1)])) rfl (hb hby own_d_conj_8)
    have pre14 : ∀ t, Steps p.tables e below (T12.setTop (mkF m 11 #[.val (.ref a0), .val (.ref a1), .unset] [(.ref w_FALSE), (.ref a1)])) t → Steps p.tables e below (s₁.setTop (entryFrame m #[(.ref a0), (.ref a1)] 3)) t := fun t k => pre10 t (by
      show Steps p.tables e below (T8.setTop (mkF m 4 #[.val (.ref a0), .val (.ref a1), .unset] [(.ref w_FALSE), (.ref a0)])) _
      refine Jvm.RoadKit.acmp (g := (mkF m 4 #[.val (.ref a0), .val (.ref a1), .unset] [(.ref w_FALSE), (.ref a0)])) X8 hx rfl rfl rfl (pc0 := 4) (pc' := 7) (same := false) rfl (hb hby own_d_conj_4) rfl (decide_eq_false fun q => hc4_9 (Value.ref.inj q)) (by decide) (by decide) ?_
      show Steps p.tables e below (T8.setTop (mkF m 7 #[.val (.ref a0), .val (.ref a1), .unset] [])) _
      refine XS.aloadN X8.here hx rfl (hb hby own_d_conj_7) rfl rfl ?_
      show Steps p.tables e below (T8.setTop (mkF m 8 #[.val (.ref a0), .val (.ref a1), .unset] [(.ref a1)])) _
      refine st12 _ ?_
      exact k)
    by_cases hc11_13 : a1 = w_FALSE
    · obtain ⟨T15, X15, e15, st15⟩ := getS2 X12 hx hZ hown (host := "") (Or.inl (hw _ (List.mem_of_getElem? (i := 13) rfl))) Via.refl e12 S_FALSE (g := (mkF m 14 #[.val (.ref a0), .val (.ref a1), .unset] [])) rfl (hb hby own_d_conj_14)
      obtain ⟨fs, hr, hrun, hended, hW, hsame⟩ := X15.leave (v := some (.ref w_FALSE)) (fun h => by rw [Bd.returns] at h; cases h)
      refine ⟨_, _, pre14 _ ?_, hrun, hended, _, _, rfl, ?_, ⟨_, rfl⟩, hW, hsame.mono (by decide) (by decide)⟩
      · show Steps p.tables e below (T12.setTop (mkF m 11 #[.val (.ref a0), .val (.ref a1), .unset] [(.ref w_FALSE), (.ref a1)])) _
        refine Jvm.RoadKit.acmp (g := (mkF m 11 #[.val (.ref a0), .val (.ref a1), .unset] [(.ref w_FALSE), (.ref a1)])) X12 hx rfl rfl rfl (pc0 := 11) (pc' := 14) (same := true) rfl (hb hby own_d_conj_11) rfl (decide_eq_true (congrArg Value.ref hc11_13)) (by decide) (by decide) ?_
        show Steps p.tables e below (T12.setTop (mkF m 14 #[.val (.ref a0), .val (.ref a1), .unset] [])) _
        refine st15 _ ?_
        show Steps p.tables e below (T15.setTop (mkF m 17 #[.val (.ref a0), .val (.ref a1), .unset] [(.ref w_FALSE)])) _
        refine XS.astoreN X15.here hx rfl (hb hby own_d_conj_17) rfl rfl (l' := #[.val (.ref a0), .val (.ref a1), .val (.ref w_FALSE)]) rfl ?_
        show Steps p.tables e below (T15.setTop (mkF m 18 #[.val (.ref a0), .val (.ref a1), .val (.ref w_FALSE)] [])) _
        refine XS.goto X15.here hx rfl (pc0 := 18) (pc' := 45) rfl (hb hby own_d_conj_18) (by decide) (by decide) ?_
        show Steps p.tables e below (T15.setTop (mkF m 45 #[.val (.ref a0), .val (.ref a1), .val (.ref w_FALSE)] [])) _
        refine XS.aloadN X15.here hx rfl (hb hby own_d_conj_45) rfl rfl ?_
        show Steps p.tables e below (T15.setTop (mkF m 46 #[.val (.ref a0), .val (.ref a1), .val (.ref w_FALSE)] [(.ref w_FALSE)])) _
        exact own_retA X15 hx Bd.returns rfl rfl rfl (hb hby own_d_conj_46) hr
      · show Q_conj Z a0 a1 w_TRUE w_FALSE w_UNKNOWN h0 n0 _ T15.heap _
        refine ⟨?_, N0, e15⟩
        rw [F_conj, if_neg hc4_9, if_pos hc11_13]
    · obtain ⟨T16, X16, e16, st16⟩ := getS2 X12 hx hZ hown (host := "") (Or.inl (hw _ (List.mem_of_getElem? (i := 15) rfl))) Via.refl e12 S_TRUE (g := (mkF m 22 #[.val (.ref a0), .val (.ref a1), .unset] [(.ref a0)])) rfl (hb hby own_d_conj_22)
      have pre18 : ∀ t, Steps p.tables e below (T16.setTop (mkF m 25 #[.val (.ref a0), .val (.ref a1), .unset] [(.ref w_TRUE), (.ref a0)])) t → Steps p.tables e below (s₁.setTop (entryFrame m #[(.ref a0), (.ref a1)] 3)) t := fun t k => pre14 t (by
        show Steps p.tables e below (T12.setTop (mkF m 11 #[.val (.ref a0), .val (.ref a1), .unset] [(.ref w_FALSE), (.ref a1)])) _
        refine Jvm.RoadKit.acmp (g := (mkF m 11 #[.val (.ref a0), .val (.ref a1), .unset] [(.ref w_FALSE), (.ref a1)])) X12 hx rfl rfl rfl (pc0 := 11) (pc' := 21) (same := false) rfl (hb hby own_d_conj_11) rfl (decide_eq_false fun q => hc11_13 (Value.ref.inj q)) (by decide) (by decide) ?_
        show Steps p.tables e below (T12.setTop (mkF m 21 #[.val (.ref a0), .val (.ref a1), .unset] [])) _
        refine XS.aloadN X12.here hx rfl (hb hby own_d_conj_21) rfl rfl ?_
        show Steps p.tables e below (T12.setTop (mkF m 22 #[.val (.ref a0), .val (.ref a1), .unset] [(.ref a0)])) _
        refine st16 _ ?_
        exact k)
      by_cases hc25_17 : a0 = w_TRUE
      · obtain ⟨T19, X19, e19, st19⟩ := getS2 X16 hx hZ hown (host := "") (Or.inl (hw _ (List.mem_of_getElem? (i := 15) rfl))) Via.refl e16 S_TRUE (g := (mkF m 29 #[.val (.ref a0), .val (.ref a1), .unset] [(.ref a1)])) rfl (hb hby own_d_conj_29)
        have pre21 : ∀ t, Steps p.tables e below (T19.setTop (mkF m 32 #[.val (.ref a0), .val (.ref a1), .unset] [(.ref w_TRUE), (.ref a1)])) t → Steps p.tables e below (s₁.setTop (entryFrame m #[(.ref a0), (.ref a1)] 3)) t := fun t k => pre18 t (by
          show Steps p.tables e below (T16.setTop (mkF m 25 #[.val (.ref a0), .val (.ref a1), .unset] [(.ref w_TRUE), (.ref a0)])) _
          refine Jvm.RoadKit.acmp (g := (mkF m 25 #[.val (.ref a0), .val (.ref a1), .unset] [(.ref w_TRUE), (.ref a0)])) X16 hx rfl rfl rfl (pc0 := 25) (pc' := 28) (same := true) rfl (hb hby own_d_conj_25) rfl (decide_eq_true (congrArg Value.ref hc25_17)) (by decide) (by decide) ?_
          show Steps p.tables e below (T16.setTop (mkF m 28 #[.val (.ref a0), .val (.ref a1), .unset] [])) _
          refine XS.aloadN X16.here hx rfl (hb hby own_d_conj_28) rfl rfl ?_
          show Steps p.tables e below (T16.setTop (mkF m 29 #[.val (.ref a0), .val (.ref a1), .unset] [(.ref a1)])) _
          refine st19 _ ?_
          exact k)
        by_cases hc32_20 : a1 = w_TRUE
        · obtain ⟨T22, X22, e22, st22⟩ := getS2 X19 hx hZ hown (host := "") (Or.inl (hw _ (List.mem_of_getElem? (i := 15) rfl))) Via.refl e19 S_TRUE (g := (mkF m 35 #[.val (.ref a0), .val (.ref a1), .unset] [])) rfl (hb hby own_d_conj_35)
          obtain ⟨fs, hr, hrun, hended, hW, hsame⟩ := X22.leave (v := some (.ref w_TRUE)) (fun h => by rw [Bd.returns] at h; cases h)
          refine ⟨_, _, pre21 _ ?_, hrun, hended, _, _, rfl, ?_, ⟨_, rfl⟩, hW, hsame.mono (by decide) (by decide)⟩
          · show Steps p.tables e below (T19.setTop (mkF m 32 #[.val (.ref a0), .val (.ref a1), .unset] [(.ref w_TRUE), (.ref a1)])) _
            refine Jvm.RoadKit.acmp (g := (mkF m 32 #[.val (.ref a0), .val (.ref a1), .unset] [(.ref w_TRUE), (.ref a1)])) X19 hx rfl rfl rfl (pc0 := 32) (pc' := 35) (same := true) rfl (hb hby own_d_conj_32) rfl (decide_eq_true (congrArg Value.ref hc32_20)) (by decide) (by decide) ?_
            show Steps p.tables e below (T19.setTop (mkF m 35 #[.val (.ref a0), .val (.ref a1), .unset] [])) _
            refine st22 _ ?_
            show Steps p.tables e below (T22.setTop (mkF m 38 #[.val (.ref a0), .val (.ref a1), .unset] [(.ref w_TRUE)])) _
            refine XS.goto X22.here hx rfl (pc0 := 38) (pc' := 44) rfl (hb hby own_d_conj_38) (by decide) (by decide) ?_
            show Steps p.tables e below (T22.setTop (mkF m 44 #[.val (.ref a0), .val (.ref a1), .unset] [(.ref w_TRUE)])) _
            refine XS.astoreN X22.here hx rfl (hb hby own_d_conj_44) rfl rfl (l' := #[.val (.ref a0), .val (.ref a1), .val (.ref w_TRUE)]) rfl ?_
            show Steps p.tables e below (T22.setTop (mkF m 45 #[.val (.ref a0), .val (.ref a1), .val (.ref w_TRUE)] [])) _
            refine XS.aloadN X22.here hx rfl (hb hby own_d_conj_45) rfl rfl ?_
            show Steps p.tables e below (T22.setTop (mkF m 46 #[.val (.ref a0), .val (.ref a1), .val (.ref w_TRUE)] [(.ref w_TRUE)])) _
            exact own_retA X22 hx Bd.returns rfl rfl rfl (hb hby own_d_conj_46) hr
          · show Q_conj Z a0 a1 w_TRUE w_FALSE w_UNKNOWN h0 n0 _ T22.heap _
            refine ⟨?_, N0, e22⟩
            rw [F_conj, if_neg hc4_9, if_neg hc11_13, if_pos hc25_17, if_pos hc32_20]
        · obtain ⟨T23, X23, e23, st23⟩ := getS2 X19 hx hZ hown (host := "") (Or.inl (hw _ (List.mem_of_getElem? (i := 26) rfl))) Via.refl e19 S_UNKNOWN (g := (mkF m 41 #[.val (.ref a0), .val (.ref a1), .unset] [])) rfl (hb hby own_d_conj_41)
          obtain ⟨fs, hr, hrun, hended, hW, hsame⟩ := X23.leave (v := some (.ref w_UNKNOWN)) (fun h => by rw [Bd.returns] at h; cases h)
          refine ⟨_, _, pre21 _ ?_, hrun, hended, _, _, rfl, ?_, ⟨_, rfl⟩, hW, hsame.mono (by decide) (by decide)⟩
          · show Steps p.tables e below (T19.setTop (mkF m 32 #[.val (.ref a0), .val (.ref a1), .unset] [(.ref w_TRUE), (.ref a1)])) _
            refine Jvm.RoadKit.acmp (g := (mkF m 32 #[.val (.ref a0), .val (.ref a1), .unset] [(.ref w_TRUE), (.ref a1)])) X19 hx rfl rfl rfl (pc0 := 32) (pc' := 41) (same := false) rfl (hb hby own_d_conj_32) rfl (decide_eq_false fun q => hc32_20 (Value.ref.inj q)) (by decide) (by decide) ?_
            show Steps p.tables e below (T19.setTop (mkF m 41 #[.val (.ref a0), .val (.ref a1), .unset] [])) _
            refine st23 _ ?_
            show Steps p.tables e below (T23.setTop (mkF m 44 #[.val (.ref a0), .val (.ref a1), .unset] [(.ref w_UNKNOWN)])) _
            refine XS.astoreN X23.here hx rfl (hb hby own_d_conj_44) rfl rfl (l' := #[.val (.ref a0), .val (.ref a1), .val (.ref w_UNKNOWN)]) rfl ?_
            show Steps p.tables e below (T23.setTop (mkF m 45 #[.val (.ref a0), .val (.ref a1), .val (.ref w_UNKNOWN)] [])) _
            refine XS.aloadN X23.here hx rfl (hb hby own_d_conj_45) rfl rfl ?_
            show Steps p.tables e below (T23.setTop (mkF m 46 #[.val (.ref a0), .val (.ref a1), .val (.ref w_UNKNOWN)] [(.ref w_UNKNOWN)])) _
            exact own_retA X23 hx Bd.returns rfl rfl rfl (hb hby own_d_conj_46) hr
          · show Q_conj Z a0 a1 w_TRUE w_FALSE w_UNKNOWN h0 n0 _ T23.heap _
            refine ⟨?_, N0, e23⟩
            rw [F_conj, if_neg hc4_9, if_neg hc11_13, if_pos hc25_17, if_neg hc32_20]
      · obtain ⟨T24, X24, e24, st24⟩ := getS2 X16 hx hZ hown (host := "") (Or.inl (hw _ (List.mem_of_getElem? (i := 26) rfl))) Via.refl e16 S_UNKNOWN (g := (mkF m 41 #[.val (.ref a0), .val (.ref a1), .unset] [])) rfl (hb hby own_d_conj_41)
        obtain ⟨fs, hr, hrun, hended, hW, hsame⟩ := X24.leave (v := some (.ref w_UNKNOWN)) (fun h => by rw [Bd.returns] at h; cases h)
        refine ⟨_, _, pre18 _ ?_, hrun, hended, _, _, rfl, ?_, ⟨_, rfl⟩, hW, hsame.mono (by decide) (by decide)⟩
        · show Steps p.tables e below (T16.setTop (mkF m 25 #[.val (.ref a0), .val (.ref a1), .unset] [(.ref w_TRUE), (.ref a0)])) _
          refine Jvm.RoadKit.acmp (g := (mkF m 25 #[.val (.ref a0), .val (.ref a1), .unset] [(.ref w_TRUE), (.ref a0)])) X16 hx rfl rfl rfl (pc0 := 25) (pc' := 41) (same := false) rfl (hb hby own_d_conj_25) rfl (decide_eq_false fun q => hc25_17 (Value.ref.inj q)) (by decide) (by decide) ?_
          show Steps p.tables e below (T16.setTop (mkF m 41 #[.val (.ref a0), .val (.ref a1), .unset] [])) _
          refine st24 _ ?_
          show Steps p.tables e below (T24.setTop (mkF m 44 #[.val (.ref a0), .val (.ref a1), .unset] [(.ref w_UNKNOWN)])) _
          refine XS.astoreN X24.here hx rfl (hb hby own_d_conj_44) rfl rfl (l' := #[.val (.ref a0), .val (.ref a1), .val (.ref w_UNKNOWN)]) rfl ?_
          show Steps p.tables e below (T24.setTop (mkF m 45 #[.val (.ref a0), .val (.ref a1), .val (.ref w_UNKNOWN)] [])) _
          refine XS.aloadN X24.here hx rfl (hb hby own_d_conj_45) rfl rfl ?_
          show Steps p.tables e below (T24.setTop (mkF m 46 #[.val (.ref a0), .val (.ref a1), .val (.ref w_UNKNOWN)] [(.ref w_UNKNOWN)])) _
          exact own_retA X24 hx Bd.returns rfl rfl rfl (hb hby own_d_conj_46) hr
        · show Q_conj Z a0 a1 w_TRUE w_FALSE w_UNKNOWN h0 n0 _ T24.heap _
          refine ⟨?_, N0, e24⟩
          rw [F_conj, if_neg hc4_9, if_neg hc11_13, if_neg hc25_17]
theorem own_d_rank_0 : decode method_3_code 0 = .ok (.aload_n 0, 1) := by decide +kernel
theorem own_d_rank_1 : decode method_3_code 1 = .ok (.getstatic 8, 3) := by decide +kernel
theorem own_d_rank_4 : decode method_3_code 4 = .ok (.if_acmp .ne 5, 3) := by decide +kernel
theorem own_d_rank_7 : decode method_3_code 7 = .ok (.iconst 2, 1) := by decide +kernel
theorem own_d_rank_8 : decode method_3_code 8 = .ok (.ireturn, 1) := by decide +kernel
theorem own_d_rank_9 : decode method_3_code 9 = .ok (.aload_n 0, 1) := by decide +kernel
theorem own_d_rank_10 : decode method_3_code 10 = .ok (.getstatic 17, 3) := by decide +kernel
theorem own_d_rank_13 : decode method_3_code 13 = .ok (.if_acmp .ne 5, 3) := by decide +kernel
theorem own_d_rank_16 : decode method_3_code 16 = .ok (.iconst 1, 1) := by decide +kernel
theorem own_d_rank_17 : decode method_3_code 17 = .ok (.ireturn, 1) := by decide +kernel
theorem own_d_rank_18 : decode method_3_code 18 = .ok (.iconst 0, 1) := by decide +kernel
theorem own_d_rank_19 : decode method_3_code 19 = .ok (.ireturn, 1) := by decide +kernel
def F_rank (a0 : Addr) (w_TRUE : Addr) (w_UNKNOWN : Addr) : Int32 := (if a0 = w_TRUE then (2 : Int32) else (if a0 = w_UNKNOWN then (1 : Int32) else (0 : Int32)))
theorem own_ef_rank (m : MethodId) (a0 : Addr) : entryFrame m #[(.ref a0)] 1 = mkF m 0 #[.val (.ref a0)] [] := by first | (simp [entryFrame, mkF, argsToLocals, Value.category]; done) | rfl
def Q_rank (Z : State) (a0 : Addr) (w_TRUE : Addr) (w_UNKNOWN : Addr) (h0 : Heap) (n0 : Nat) (v : Option Value) (h : Heap) (L : List Loc) : Prop := v = some (.int (F_rank a0 w_TRUE w_UNKNOWN)) ∧ Fr n0 L ∧ h = h0
set_option maxRecDepth 65536 in
set_option maxHeartbeats 40000000 in
theorem rm_rank (l : Launch) (Z : State) (a0' : Array Value) (hw : ∀ d ∈ tables_1, d.before a0' Z = true) (ws : List Jvm.Cond) (a0 : Addr) (w_TRUE : Addr) (w_UNKNOWN : Addr) (h0 : Heap) (n0 : Nat) (Z0 : n0 ≤ h0.size) (S_TRUE : Sta Z h0 "com/example/gard/gard/core/Truth" "TRUE" "Lcom/example/gard/gard/core/Truth;" (.ref w_TRUE)) (S_UNKNOWN : Sta Z h0 "com/example/gard/gard/core/Truth" "UNKNOWN" "Lcom/example/gard/gard/core/Truth;" (.ref w_UNKNOWN)) :
    MetFree l (⟨"com/example/gard/gard/core/TruthAndPinLaw", "rank", "(Lcom/example/gard/gard/core/Truth;)I"⟩ : MethodName) (head1 (Jvm.Cond.code (⟨"com/example/gard/gard/core/TruthAndPinLaw", "rank", "(Lcom/example/gard/gard/core/Truth;)I"⟩ : MethodName) method_3_code 1 (some .int) :: ws) ({ frames := 0, cells := 0, slots := 0, locals := 0 } : Room)) (fun a U => a = #[(.ref a0)] ∧ Z.Warmed39 U.vm ∧ U.heap = h0) (fun _ _ _ _ _ => True) (fun _ U o U' => ∃ v L, o = .returned v ∧ Q_rank Z a0 w_TRUE w_UNKNOWN h0 n0 v U'.heap L ∧ FrameEnd U o U' L ({ frames := 0, cells := 0, slots := 0, locals := 0 } : Room).cells ({ frames := 0, cells := 0, slots := 0, locals := 0 } : Room).slots) := by
  refine MetFree.of_bodySF (plainFor_of_name own_pn0) hisR ?_
  intro p e s m args below meth c s₁ Bd hml0 hP hK
  obtain ⟨rfl, hZ, hh⟩ := hP
  have hx := Bd.exec
  have hby := Bd.bytes
  have hml : c.maxLocals = 1 := hml0
  have hown : s.vm.findClass "com/example/gard/gard/core/TruthAndPinLaw" = some m.cls := findClass_of_methodNamed Bd.named
  have hnm := (name_of_methodNamed Bd.named Bd.method).1
  have X0 : Stand p l e ({ frames := 0, cells := 0, slots := 0, locals := 0 } : Room) s m #[(.ref a0)] below meth c s₁ [] 0 0 := Stand.of_body Bd
  have e0 : s₁.heap = h0 := by rw [← hh, Bd.state]; rfl
  have N0 := Fr.nil n0
  have pre0 : ∀ t, Steps p.tables e below (s₁.setTop (mkF m 0 #[.val (.ref a0)] [])) t → Steps p.tables e below (s₁.setTop (entryFrame m #[(.ref a0)] 1)) t := fun t k => castTop (own_ef_rank m a0) k
  obtain ⟨T25, X25, e25, st25⟩ := getS2 X0 hx hZ hown (host := "") (Or.inl (hw _ (List.mem_of_getElem? (i := 5) rfl))) Via.refl e0 S_TRUE (g := (mkF m 1 #[.val (.ref a0)] [(.ref a0)])) rfl (hb hby own_d_rank_1)
  have pre27 : ∀ t, Steps p.tables e below (T25.setTop (mkF m 4 #[.val (.ref a0)] [(.ref w_TRUE), (.ref a0)])) t → Steps p.tables e below (s₁.setTop (entryFrame m #[(.ref a0)] 1)) t := fun t k => pre0 t (by
    show Steps p.tables e below (s₁.setTop (mkF m 0 #[.val (.ref a0)] [])) _
    refine XS.aloadN X0.here hx rfl (hb hby own_d_rank_0) rfl rfl ?_
    show Steps p.tables e below (s₁.setTop (mkF m 1 #[.val (.ref a0)] [(.ref a0)])) _
    refine st25 _ ?_
    exact k)
  by_cases hc4_26 : a0 = w_TRUE
  · obtain ⟨fs, hr, hrun, hended, hW, hsame⟩ := X25.leave (v := some (.int (2 : Int32))) (fun h => by rw [Bd.returns] at h; cases h)
    refine ⟨_, _, pre27 _ ?_, hrun, hended, _, _, rfl, ?_, ⟨_, rfl⟩, hW, hsame.mono (by decide) (by decide)⟩
    · show Steps p.tables e below (T25.setTop (mkF m 4 #[.val (.ref a0)] [(.ref w_TRUE), (.ref a0)])) _
      refine Jvm.RoadKit.acmp (g := (mkF m 4 #[.val (.ref a0)] [(.ref w_TRUE), (.ref a0)])) X25 hx rfl rfl rfl (pc0 := 4) (pc' := 7) (same := true) rfl (hb hby own_d_rank_4) rfl (decide_eq_true (congrArg Value.ref hc4_26)) (by decide) (by decide) ?_
      show Steps p.tables e below (T25.setTop (mkF m 7 #[.val (.ref a0)] [])) _
      refine XS.iconst X25.here hx rfl (hb hby own_d_rank_7) ?_
      show Steps p.tables e below (T25.setTop (mkF m 8 #[.val (.ref a0)] [(.int (2 : Int32))])) _
      exact own_retI X25 hx Bd.returns (hb hby own_d_rank_8) hr
    · show Q_rank Z a0 w_TRUE w_UNKNOWN h0 n0 _ T25.heap _
      refine ⟨?_, N0, e25⟩
      rw [F_rank, if_pos hc4_26]
  · obtain ⟨T28, X28, e28, st28⟩ := getS2 X25 hx hZ hown (host := "") (Or.inl (hw _ (List.mem_of_getElem? (i := 23) rfl))) Via.refl e25 S_UNKNOWN (g := (mkF m 10 #[.val (.ref a0)] [(.ref a0)])) rfl (hb hby own_d_rank_10)
    have pre30 : ∀ t, Steps p.tables e below (T28.setTop (mkF m 13 #[.val (.ref a0)] [(.ref w_UNKNOWN), (.ref a0)])) t → Steps p.tables e below (s₁.setTop (entryFrame m #[(.ref a0)] 1)) t := fun t k => pre27 t (by
      show Steps p.tables e below (T25.setTop (mkF m 4 #[.val (.ref a0)] [(.ref w_TRUE), (.ref a0)])) _
      refine Jvm.RoadKit.acmp (g := (mkF m 4 #[.val (.ref a0)] [(.ref w_TRUE), (.ref a0)])) X25 hx rfl rfl rfl (pc0 := 4) (pc' := 9) (same := false) rfl (hb hby own_d_rank_4) rfl (decide_eq_false fun q => hc4_26 (Value.ref.inj q)) (by decide) (by decide) ?_
      show Steps p.tables e below (T25.setTop (mkF m 9 #[.val (.ref a0)] [])) _
      refine XS.aloadN X25.here hx rfl (hb hby own_d_rank_9) rfl rfl ?_
      show Steps p.tables e below (T25.setTop (mkF m 10 #[.val (.ref a0)] [(.ref a0)])) _
      refine st28 _ ?_
      exact k)
    by_cases hc13_29 : a0 = w_UNKNOWN
    · obtain ⟨fs, hr, hrun, hended, hW, hsame⟩ := X28.leave (v := some (.int (1 : Int32))) (fun h => by rw [Bd.returns] at h; cases h)
      refine ⟨_, _, pre30 _ ?_, hrun, hended, _, _, rfl, ?_, ⟨_, rfl⟩, hW, hsame.mono (by decide) (by decide)⟩
      · show Steps p.tables e below (T28.setTop (mkF m 13 #[.val (.ref a0)] [(.ref w_UNKNOWN), (.ref a0)])) _
        refine Jvm.RoadKit.acmp (g := (mkF m 13 #[.val (.ref a0)] [(.ref w_UNKNOWN), (.ref a0)])) X28 hx rfl rfl rfl (pc0 := 13) (pc' := 16) (same := true) rfl (hb hby own_d_rank_13) rfl (decide_eq_true (congrArg Value.ref hc13_29)) (by decide) (by decide) ?_
        show Steps p.tables e below (T28.setTop (mkF m 16 #[.val (.ref a0)] [])) _
        refine XS.iconst X28.here hx rfl (hb hby own_d_rank_16) ?_
        show Steps p.tables e below (T28.setTop (mkF m 17 #[.val (.ref a0)] [(.int (1 : Int32))])) _
        exact own_retI X28 hx Bd.returns (hb hby own_d_rank_17) hr
      · show Q_rank Z a0 w_TRUE w_UNKNOWN h0 n0 _ T28.heap _
        refine ⟨?_, N0, e28⟩
        rw [F_rank, if_neg hc4_26, if_pos hc13_29]
    · obtain ⟨fs, hr, hrun, hended, hW, hsame⟩ := X28.leave (v := some (.int (0 : Int32))) (fun h => by rw [Bd.returns] at h; cases h)
      refine ⟨_, _, pre30 _ ?_, hrun, hended, _, _, rfl, ?_, ⟨_, rfl⟩, hW, hsame.mono (by decide) (by decide)⟩
      · show Steps p.tables e below (T28.setTop (mkF m 13 #[.val (.ref a0)] [(.ref w_UNKNOWN), (.ref a0)])) _
        refine Jvm.RoadKit.acmp (g := (mkF m 13 #[.val (.ref a0)] [(.ref w_UNKNOWN), (.ref a0)])) X28 hx rfl rfl rfl (pc0 := 13) (pc' := 18) (same := false) rfl (hb hby own_d_rank_13) rfl (decide_eq_false fun q => hc13_29 (Value.ref.inj q)) (by decide) (by decide) ?_
        show Steps p.tables e below (T28.setTop (mkF m 18 #[.val (.ref a0)] [])) _
        refine XS.iconst X28.here hx rfl (hb hby own_d_rank_18) ?_
        show Steps p.tables e below (T28.setTop (mkF m 19 #[.val (.ref a0)] [(.int (0 : Int32))])) _
        exact own_retI X28 hx Bd.returns (hb hby own_d_rank_19) hr
      · show Q_rank Z a0 w_TRUE w_UNKNOWN h0 n0 _ T28.heap _
        refine ⟨?_, N0, e28⟩
        rw [F_rank, if_neg hc4_26, if_neg hc13_29]
theorem own_d_min_0 : decode jdk_29_method_69_code 0 = .ok (.iload_n 0, 1) := by decide +kernel
theorem own_d_min_1 : decode jdk_29_method_69_code 1 = .ok (.iload_n 1, 1) := by decide +kernel
theorem own_d_min_2 : decode jdk_29_method_69_code 2 = .ok (.if_icmp .gt 7, 3) := by decide +kernel
theorem own_d_min_9 : decode jdk_29_method_69_code 9 = .ok (.iload_n 1, 1) := by decide +kernel
theorem own_d_min_10 : decode jdk_29_method_69_code 10 = .ok (.ireturn, 1) := by decide +kernel
theorem own_d_min_5 : decode jdk_29_method_69_code 5 = .ok (.iload_n 0, 1) := by decide +kernel
theorem own_d_min_6 : decode jdk_29_method_69_code 6 = .ok (.goto 4, 3) := by decide +kernel
def F_min (p0 : Int32) (p1 : Int32) : Int32 := (if p1 < p0 then p1 else p0)
theorem own_ef_min (m : MethodId) (p0 : Int32) (p1 : Int32) : entryFrame m #[(.int p0), (.int p1)] 2 = mkF m 0 #[.val (.int p0), .val (.int p1)] [] := by first | (simp [entryFrame, mkF, argsToLocals, Value.category]; done) | rfl
def Q_min (Z : State) (p0 : Int32) (p1 : Int32) (h0 : Heap) (n0 : Nat) (v : Option Value) (h : Heap) (L : List Loc) : Prop := v = some (.int (F_min p0 p1)) ∧ Fr n0 L ∧ h = h0
set_option maxRecDepth 65536 in
set_option maxHeartbeats 40000000 in
theorem rm_min (l : Launch) (Z : State) (a0' : Array Value) (hw : ∀ d ∈ tables_1, d.before a0' Z = true) (ws : List Jvm.Cond) (p0 : Int32) (p1 : Int32) (h0 : Heap) (n0 : Nat) (Z0 : n0 ≤ h0.size) :
    MetFree l (⟨"java/lang/Math", "min", "(II)I"⟩ : MethodName) (head1 (Jvm.Cond.code (⟨"java/lang/Math", "min", "(II)I"⟩ : MethodName) jdk_29_method_69_code 2 (some .int) :: ws) ({ frames := 0, cells := 0, slots := 0, locals := 0 } : Room)) (fun a U => a = #[(.int p0), (.int p1)] ∧ Z.Warmed39 U.vm ∧ U.heap = h0) (fun _ _ _ _ _ => True) (fun _ U o U' => ∃ v L, o = .returned v ∧ Q_min Z p0 p1 h0 n0 v U'.heap L ∧ FrameEnd U o U' L ({ frames := 0, cells := 0, slots := 0, locals := 0 } : Room).cells ({ frames := 0, cells := 0, slots := 0, locals := 0 } : Room).slots) := by
  refine MetFree.of_bodySF (Jvm.Free.JP.mathPlain rfl (by decide +kernel)) hisR ?_
  intro p e s m args below meth c s₁ Bd hml0 hP hK
  obtain ⟨rfl, hZ, hh⟩ := hP
  have hx := Bd.exec
  have hby := Bd.bytes
  have hml : c.maxLocals = 2 := hml0
  have hown : s.vm.findClass "java/lang/Math" = some m.cls := findClass_of_methodNamed Bd.named
  have hnm := (name_of_methodNamed Bd.named Bd.method).1
  have X0 : Stand p l e ({ frames := 0, cells := 0, slots := 0, locals := 0 } : Room) s m #[(.int p0), (.int p1)] below meth c s₁ [] 0 0 := Stand.of_body Bd
  have e0 : s₁.heap = h0 := by rw [← hh, Bd.state]; rfl
  have N0 := Fr.nil n0
  have pre0 : ∀ t, Steps p.tables e below (s₁.setTop (mkF m 0 #[.val (.int p0), .val (.int p1)] [])) t → Steps p.tables e below (s₁.setTop (entryFrame m #[(.int p0), (.int p1)] 2)) t := fun t k => castTop (own_ef_min m p0 p1) k
  have pre32 : ∀ t, Steps p.tables e below (s₁.setTop (mkF m 2 #[.val (.int p0), .val (.int p1)] [(.int p1), (.int p0)])) t → Steps p.tables e below (s₁.setTop (entryFrame m #[(.int p0), (.int p1)] 2)) t := fun t k => pre0 t (by
    show Steps p.tables e below (s₁.setTop (mkF m 0 #[.val (.int p0), .val (.int p1)] [])) _
    refine XS.iloadN X0.here hx rfl (hb hby own_d_min_0) rfl ?_
    show Steps p.tables e below (s₁.setTop (mkF m 1 #[.val (.int p0), .val (.int p1)] [(.int p0)])) _
    refine XS.iloadN X0.here hx rfl (hb hby own_d_min_1) rfl ?_
    exact k)
  by_cases hc2_31 : p1 < p0
  · obtain ⟨fs, hr, hrun, hended, hW, hsame⟩ := X0.leave (v := some (.int p1)) (fun h => by rw [Bd.returns] at h; cases h)
    refine ⟨_, _, pre32 _ ?_, hrun, hended, _, _, rfl, ?_, ⟨_, rfl⟩, hW, hsame.mono (by decide) (by decide)⟩
    · show Steps p.tables e below (s₁.setTop (mkF m 2 #[.val (.int p0), .val (.int p1)] [(.int p1), (.int p0)])) _
      refine XS.icmpYes X0.here hx rfl (pc0 := 2) (pc' := 9) rfl (hb hby own_d_min_2) rfl (tlt hc2_31).2.2.1 (by decide) (by decide) ?_
      show Steps p.tables e below (s₁.setTop (mkF m 9 #[.val (.int p0), .val (.int p1)] [])) _
      refine XS.iloadN X0.here hx rfl (hb hby own_d_min_9) rfl ?_
      show Steps p.tables e below (s₁.setTop (mkF m 10 #[.val (.int p0), .val (.int p1)] [(.int p1)])) _
      exact own_retI X0 hx Bd.returns (hb hby own_d_min_10) hr
    · show Q_min Z p0 p1 h0 n0 _ s₁.heap _
      refine ⟨?_, N0, e0⟩
      rw [F_min, if_pos hc2_31]
  · obtain ⟨fs, hr, hrun, hended, hW, hsame⟩ := X0.leave (v := some (.int p0)) (fun h => by rw [Bd.returns] at h; cases h)
    refine ⟨_, _, pre32 _ ?_, hrun, hended, _, _, rfl, ?_, ⟨_, rfl⟩, hW, hsame.mono (by decide) (by decide)⟩
    · show Steps p.tables e below (s₁.setTop (mkF m 2 #[.val (.int p0), .val (.int p1)] [(.int p1), (.int p0)])) _
      refine XS.icmpNo X0.here hx rfl (hb hby own_d_min_2) rfl (flt hc2_31).2.2.1 ?_
      show Steps p.tables e below (s₁.setTop (mkF m 5 #[.val (.int p0), .val (.int p1)] [])) _
      refine XS.iloadN X0.here hx rfl (hb hby own_d_min_5) rfl ?_
      show Steps p.tables e below (s₁.setTop (mkF m 6 #[.val (.int p0), .val (.int p1)] [(.int p0)])) _
      refine XS.goto X0.here hx rfl (pc0 := 6) (pc' := 10) rfl (hb hby own_d_min_6) (by decide) (by decide) ?_
      show Steps p.tables e below (s₁.setTop (mkF m 10 #[.val (.int p0), .val (.int p1)] [(.int p0)])) _
      exact own_retI X0 hx Bd.returns (hb hby own_d_min_10) hr
    · show Q_min Z p0 p1 h0 n0 _ s₁.heap _
      refine ⟨?_, N0, e0⟩
      rw [F_min, if_neg hc2_31]
theorem own_pd0 : parseMethodDescriptor "(I)Lcom/example/gard/gard/core/Truth;" = some ⟨[.int], some (.object "com/example/gard/gard/core/Truth")⟩ := by decide +kernel
theorem own_pd1 : parseMethodDescriptor "(Lcom/example/gard/gard/core/Truth;)Lcom/example/gard/gard/core/Truth;" = some ⟨[(.object "com/example/gard/gard/core/Truth")], some (.object "com/example/gard/gard/core/Truth")⟩ := by decide +kernel
theorem own_pd2 : parseMethodDescriptor "(Lcom/example/gard/gard/core/Truth;)I" = some ⟨[(.object "com/example/gard/gard/core/Truth")], some .int⟩ := by decide +kernel
theorem own_pd3 : parseMethodDescriptor "(II)I" = some ⟨[.int, .int], some .int⟩ := by decide +kernel
def F_law (p0 : Int32) (p1 : Int32) : Int32 := (if ((p0 &&& (2147483647 : Int32)) % (3 : Int32)) = (0 : Int32) then (if ((p1 &&& (2147483647 : Int32)) % (3 : Int32)) = (0 : Int32) then (1 : Int32) else (if ((p1 &&& (2147483647 : Int32)) % (3 : Int32)) = (1 : Int32) then (1 : Int32) else (1 : Int32))) else (if ((p0 &&& (2147483647 : Int32)) % (3 : Int32)) = (1 : Int32) then (if ((p1 &&& (2147483647 : Int32)) % (3 : Int32)) = (0 : Int32) then (1 : Int32) else (if ((p1 &&& (2147483647 : Int32)) % (3 : Int32)) = (1 : Int32) then (1 : Int32) else (1 : Int32))) else (if ((p1 &&& (2147483647 : Int32)) % (3 : Int32)) = (0 : Int32) then (1 : Int32) else (if ((p1 &&& (2147483647 : Int32)) % (3 : Int32)) = (1 : Int32) then (1 : Int32) else (1 : Int32)))))
theorem own_ef_law (m : MethodId) (p0 : Int32) (p1 : Int32) : entryFrame m #[(.int p0), (.int p1)] maxLocals = mkF m 0 #[.val (.int p0), .val (.int p1), .unset, .unset, .unset] [] := by first | (simp [entryFrame, mkF, argsToLocals, Value.category, maxLocals]; done) | rfl
def Q_law (Z : State) (p0 : Int32) (p1 : Int32) (w_TRUE : Addr) (w_FALSE : Addr) (w_UNKNOWN : Addr) (h0 : Heap) (n0 : Nat) (v : Option Value) (h : Heap) (L : List Loc) : Prop := v = some (.int (F_law p0 p1)) ∧ Fr n0 L ∧ True
set_option maxRecDepth 65536 in
set_option maxHeartbeats 40000000 in
theorem rm_law (l : Launch) (Z : State) (a0' : Array Value) (hw : ∀ d ∈ tables_1, d.before a0' Z = true) (ws : List Jvm.Cond) (p0 : Int32) (p1 : Int32) (w_TRUE : Addr) (w_FALSE : Addr) (w_UNKNOWN : Addr) (h0 : Heap) (n0 : Nat) (Z0 : n0 ≤ h0.size) (S_TRUE : Sta Z h0 "com/example/gard/gard/core/Truth" "TRUE" "Lcom/example/gard/gard/core/Truth;" (.ref w_TRUE)) (E_TRUE : Exa Z h0 w_TRUE "com/example/gard/gard/core/Truth") (S_FALSE : Sta Z h0 "com/example/gard/gard/core/Truth" "FALSE" "Lcom/example/gard/gard/core/Truth;" (.ref w_FALSE)) (E_FALSE : Exa Z h0 w_FALSE "com/example/gard/gard/core/Truth") (S_UNKNOWN : Sta Z h0 "com/example/gard/gard/core/Truth" "UNKNOWN" "Lcom/example/gard/gard/core/Truth;" (.ref w_UNKNOWN)) (E_UNKNOWN : Exa Z h0 w_UNKNOWN "com/example/gard/gard/core/Truth") (ne_TRUE_FALSE : ¬ (w_TRUE = w_FALSE)) (ne_FALSE_TRUE : ¬ (w_FALSE = w_TRUE)) (ne_FALSE_UNKNOWN : ¬ (w_FALSE = w_UNKNOWN)) (ne_UNKNOWN_TRUE : ¬ (w_UNKNOWN = w_TRUE)) (ne_UNKNOWN_FALSE : ¬ (w_UNKNOWN = w_FALSE)) :
    MetFree l x (head1 (Jvm.Cond.code x code maxLocals ret :: ws) room_1) (fun a U => a = #[(.int p0), (.int p1)] ∧ Z.Warmed39 U.vm ∧ U.heap = h0) (fun _ _ _ _ _ => True) (fun _ U o U' => ∃ v L, o = .returned v ∧ Q_law Z p0 p1 w_TRUE w_FALSE w_UNKNOWN h0 n0 v U'.heap L ∧ FrameEnd U o U' L room_1.cells room_1.slots) := by
  refine MetFree.of_bodySF (plainFor_of_name own_pn0) hisR ?_
  intro p e s m args below meth c s₁ Bd hml0 hP hK
  obtain ⟨rfl, hZ, hh⟩ := hP
  have hx := Bd.exec
  have hby := Bd.bytes
  have hml : c.maxLocals = 5 := hml0
  have hown : s.vm.findClass "com/example/gard/gard/core/TruthAndPinLaw" = some m.cls := findClass_of_methodNamed Bd.named
  have hnm := (name_of_methodNamed Bd.named Bd.method).1
  have X0 : Stand p l e room_1 s m #[(.int p0), (.int p1)] below meth c s₁ [] 0 0 := Stand.of_body Bd
  have e0 : s₁.heap = h0 := by rw [← hh, Bd.state]; rfl
  have N0 := Fr.nil n0
  have pre0 : ∀ t, Steps p.tables e below (s₁.setTop (mkF m 0 #[.val (.int p0), .val (.int p1), .unset, .unset, .unset] [])) t → Steps p.tables e below (s₁.setTop (entryFrame m #[(.int p0), (.int p1)] maxLocals)) t := fun t k => castTop (own_ef_law m p0 p1) k
  obtain ⟨_, _, ⟨T33, L33, k33, n33⟩, -, X33, ⟨Lc33, hQ33, l33, y33, z33⟩, st33⟩ := Jvm.LawKit.callS X0 hx (y := (⟨"com/example/gard/gard/core/TruthAndPinLaw", "pick", "(I)Lcom/example/gard/gard/core/Truth;"⟩ : MethodName)) hown (mvT hZ (hw _ (List.mem_of_getElem? (i := 0) rfl))) (mvT hZ (hw _ (List.mem_of_getElem? (i := 1) rfl))) (mvT hZ (hw _ (List.mem_of_getElem? (i := 2) rfl))) (mvT hZ (hw _ (List.mem_of_getElem? (i := 3) rfl))) (by decide) (backOf (W := 0) (rm_pick l Z a0' hw [] p0 w_TRUE w_FALSE w_UNKNOWN h0 n0 Z0 S_TRUE S_FALSE S_UNKNOWN) hZ (hw _ (List.mem_of_getElem? (i := 3) rfl)) (hw _ (List.mem_of_getElem? (i := 2) rfl)) (by decide) (by decide)) (g := (mkF m 1 #[.val (.int p0), .val (.int p1), .unset, .unset, .unset] [(.int p0)])) rfl (by rw [hml]; rfl) (argsL := [(.int p0)]) (rest := []) (lenOf own_pd0 rfl) rfl (by show 2 * 0 + _ ≤ _; exact Nat.le_of_eq rfl) (hb hby at_1) (fun _ _ => ⟨rfl, e0, (by decide : 0 + 0 ≤ _), (by decide : 0 + 0 ≤ _)⟩)
  dsimp only [Pt.U, Pt.locs, Pt.cells, Pt.slots] at X33 l33 y33 z33 st33 hQ33
  subst l33 y33 z33
  obtain ⟨rfl, N33q, e33⟩ := hQ33
  have N33 := Fr.app N0 N33q
  have pre34 : ∀ t, Steps p.tables e below (s₁.setTop (mkF m 1 #[.val (.int p0), .val (.int p1), .unset, .unset, .unset] [(.int p0)])) t → Steps p.tables e below (s₁.setTop (entryFrame m #[(.int p0), (.int p1)] maxLocals)) t := fun t k => pre0 t (by
    show Steps p.tables e below (s₁.setTop (mkF m 0 #[.val (.int p0), .val (.int p1), .unset, .unset, .unset] [])) _
    refine XS.iloadN X0.here hx rfl (hb hby at_0) rfl ?_
    exact k)
  by_cases hs_35 : ((p0 &&& (2147483647 : Int32)) % (3 : Int32)) = (0 : Int32)
  · have q33 : (F_pick p0 w_TRUE w_FALSE w_UNKNOWN) = w_TRUE := by rw [F_pick, if_pos hs_35]
    rw [q33] at st33
    obtain ⟨_, _, ⟨T36, L36, k36, n36⟩, -, X36, ⟨Lc36, hQ36, l36, y36, z36⟩, st36⟩ := Jvm.LawKit.callS X33 hx (y := (⟨"com/example/gard/gard/core/TruthAndPinLaw", "pick", "(I)Lcom/example/gard/gard/core/Truth;"⟩ : MethodName)) hown (mvT hZ (hw _ (List.mem_of_getElem? (i := 0) rfl))) (mvT hZ (hw _ (List.mem_of_getElem? (i := 1) rfl))) (mvT hZ (hw _ (List.mem_of_getElem? (i := 2) rfl))) (mvT hZ (hw _ (List.mem_of_getElem? (i := 3) rfl))) (by decide) (backOf (W := 0) (rm_pick l Z a0' hw [] p1 w_TRUE w_FALSE w_UNKNOWN h0 n0 Z0 S_TRUE S_FALSE S_UNKNOWN) hZ (hw _ (List.mem_of_getElem? (i := 3) rfl)) (hw _ (List.mem_of_getElem? (i := 2) rfl)) (by decide) (by decide)) (g := (mkF m 6 #[.val (.int p0), .val (.int p1), .val (.ref w_TRUE), .unset, .unset] [(.int p1)])) rfl (by rw [hml]; rfl) (argsL := [(.int p1)]) (rest := []) (lenOf own_pd0 rfl) rfl (by show 2 * 0 + _ ≤ _; exact Nat.le_of_eq rfl) (hb hby at_6) (fun _ _ => ⟨rfl, e33, (by decide : 0 + 0 ≤ _), (by decide : 0 + 0 ≤ _)⟩)
    dsimp only [Pt.U, Pt.locs, Pt.cells, Pt.slots] at X36 l36 y36 z36 st36 hQ36
    subst l36 y36 z36
    obtain ⟨rfl, N36q, e36⟩ := hQ36
    have N36 := Fr.app N33 N36q
    have pre37 : ∀ t, Steps p.tables e below (T33.setTop (mkF m 6 #[.val (.int p0), .val (.int p1), .val (.ref w_TRUE), .unset, .unset] [(.int p1)])) t → Steps p.tables e below (s₁.setTop (entryFrame m #[(.int p0), (.int p1)] maxLocals)) t := fun t k => pre34 t (by
      show Steps p.tables e below (s₁.setTop (mkF m 1 #[.val (.int p0), .val (.int p1), .unset, .unset, .unset] [(.int p0)])) _
      refine st33 _ ?_
      show Steps p.tables e below (T33.setTop (mkF m 4 #[.val (.int p0), .val (.int p1), .unset, .unset, .unset] [(.ref w_TRUE)])) _
      refine XS.astoreN X33.here hx rfl (hb hby at_4) rfl rfl (l' := #[.val (.int p0), .val (.int p1), .val (.ref w_TRUE), .unset, .unset]) rfl ?_
      show Steps p.tables e below (T33.setTop (mkF m 5 #[.val (.int p0), .val (.int p1), .val (.ref w_TRUE), .unset, .unset] [])) _
      refine XS.iloadN X33.here hx rfl (hb hby at_5) rfl ?_
      exact k)
    by_cases hs_38 : ((p1 &&& (2147483647 : Int32)) % (3 : Int32)) = (0 : Int32)
    · have q36 : (F_pick p1 w_TRUE w_FALSE w_UNKNOWN) = w_TRUE := by rw [F_pick, if_pos hs_38]
      rw [q36] at st36
      obtain ⟨cq39, kq39, q39a, q39b, q39c⟩ := isOf hZ e36 E_TRUE
      obtain ⟨_, _, ⟨T39, L39, k39, n39⟩, -, X39, ⟨Lc39, hQ39, l39, y39, z39⟩, st39⟩ := X36.virtualBack hx (y := (⟨"com/example/gard/gard/core/Truth", "and", "(Lcom/example/gard/gard/core/Truth;)Lcom/example/gard/gard/core/Truth;"⟩ : MethodName)) (z := (⟨"com/example/gard/gard/core/Truth", "and", "(Lcom/example/gard/gard/core/Truth;)Lcom/example/gard/gard/core/Truth;"⟩ : MethodName)) hown (mvT hZ (hw _ (List.mem_of_getElem? (i := 8) rfl))) (mvT hZ (hw _ (List.mem_of_getElem? (i := 9) rfl))) (notFace_of_selects (args := #[]) (mvT hZ (hw _ (List.mem_of_getElem? (i := 11) rfl)))) (mvT hZ (hw _ (List.mem_of_getElem? (i := 11) rfl))) (mvT hZ (hw _ (List.mem_of_getElem? (i := 10) rfl))) (by decide) (backOf (W := 0) (rm_conj l Z a0' hw [] w_TRUE w_TRUE w_TRUE w_FALSE w_UNKNOWN h0 n0 Z0 S_TRUE S_FALSE S_UNKNOWN) hZ (hw _ (List.mem_of_getElem? (i := 12) rfl)) (hw _ (List.mem_of_getElem? (i := 6) rfl)) (by decide) (by decide)) q39a q39c (g := (mkF m 12 #[.val (.int p0), .val (.int p1), .val (.ref w_TRUE), .val (.ref w_TRUE), .unset] [(.ref w_TRUE), (.ref w_TRUE)])) rfl (by rw [hml]; rfl) (Steps.refl _) (argsL := [(.ref w_TRUE)]) (rest := []) (lenOf own_pd1 rfl) rfl (by show 2 * 0 + _ ≤ _; exact Nat.le_of_eq rfl) (hb hby at_12) (fun _ _ => ⟨rfl, e36, (by decide : 0 + 0 ≤ _), (by decide : 0 + 0 ≤ _)⟩)
      dsimp only [Pt.U, Pt.locs, Pt.cells, Pt.slots] at X39 l39 y39 z39 st39 hQ39
      subst l39 y39 z39
      obtain ⟨rfl, N39q, e39⟩ := hQ39
      have N39 := Fr.app N36 N39q
      have q39 : (F_conj w_TRUE w_TRUE w_TRUE w_FALSE w_UNKNOWN) = w_TRUE := by rw [F_conj, if_neg ne_TRUE_FALSE, if_neg ne_TRUE_FALSE, if_pos (rfl : w_TRUE = w_TRUE), if_pos (rfl : w_TRUE = w_TRUE)]
      rw [q39] at st39
      obtain ⟨_, _, ⟨T40, L40, k40, n40⟩, -, X40, ⟨Lc40, hQ40, l40, y40, z40⟩, st40⟩ := Jvm.LawKit.callS X39 hx (y := (⟨"com/example/gard/gard/core/TruthAndPinLaw", "rank", "(Lcom/example/gard/gard/core/Truth;)I"⟩ : MethodName)) hown (mvT hZ (hw _ (List.mem_of_getElem? (i := 16) rfl))) (mvT hZ (hw _ (List.mem_of_getElem? (i := 17) rfl))) (mvT hZ (hw _ (List.mem_of_getElem? (i := 2) rfl))) (mvT hZ (hw _ (List.mem_of_getElem? (i := 18) rfl))) (by decide) (backOf (W := 0) (rm_rank l Z a0' hw [] w_TRUE w_TRUE w_UNKNOWN h0 n0 Z0 S_TRUE S_UNKNOWN) hZ (hw _ (List.mem_of_getElem? (i := 18) rfl)) (hw _ (List.mem_of_getElem? (i := 2) rfl)) (by decide) (by decide)) (g := (mkF m 26 #[.val (.int p0), .val (.int p1), .val (.ref w_TRUE), .val (.ref w_TRUE), .val (.ref w_TRUE)] [(.ref w_TRUE)])) rfl (by rw [hml]; rfl) (argsL := [(.ref w_TRUE)]) (rest := []) (lenOf own_pd2 rfl) rfl (by show 2 * 0 + _ ≤ _; exact Nat.le_of_eq rfl) (hb hby at_26) (fun _ _ => ⟨rfl, e39, (by decide : 0 + 0 ≤ _), (by decide : 0 + 0 ≤ _)⟩)
      dsimp only [Pt.U, Pt.locs, Pt.cells, Pt.slots] at X40 l40 y40 z40 st40 hQ40
      subst l40 y40 z40
      obtain ⟨rfl, N40q, e40⟩ := hQ40
      have N40 := Fr.app N39 N40q
      have q40 : (F_rank w_TRUE w_TRUE w_UNKNOWN) = (2 : Int32) := by rw [F_rank, if_pos (rfl : w_TRUE = w_TRUE)]
      rw [q40] at st40
      obtain ⟨_, _, ⟨T41, L41, k41, n41⟩, -, X41, ⟨Lc41, hQ41, l41, y41, z41⟩, st41⟩ := Jvm.LawKit.callS X40 hx (y := (⟨"com/example/gard/gard/core/TruthAndPinLaw", "rank", "(Lcom/example/gard/gard/core/Truth;)I"⟩ : MethodName)) hown (mvT hZ (hw _ (List.mem_of_getElem? (i := 16) rfl))) (mvT hZ (hw _ (List.mem_of_getElem? (i := 17) rfl))) (mvT hZ (hw _ (List.mem_of_getElem? (i := 2) rfl))) (mvT hZ (hw _ (List.mem_of_getElem? (i := 18) rfl))) (by decide) (backOf (W := 1) (rm_rank l Z a0' hw [] w_TRUE w_TRUE w_UNKNOWN h0 n0 Z0 S_TRUE S_UNKNOWN) hZ (hw _ (List.mem_of_getElem? (i := 18) rfl)) (hw _ (List.mem_of_getElem? (i := 2) rfl)) (by decide) (by decide)) (g := (mkF m 30 #[.val (.int p0), .val (.int p1), .val (.ref w_TRUE), .val (.ref w_TRUE), .val (.ref w_TRUE)] [(.ref w_TRUE), (.int (2 : Int32))])) rfl (by rw [hml]; rfl) (argsL := [(.ref w_TRUE)]) (rest := [(.int (2 : Int32))]) (lenOf own_pd2 rfl) rfl (by show 2 * 0 + _ ≤ _; exact Nat.le_of_eq rfl) (hb hby at_30) (fun _ _ => ⟨rfl, e40, (by decide : 0 + 0 ≤ _), (by decide : 0 + 0 ≤ _)⟩)
      dsimp only [Pt.U, Pt.locs, Pt.cells, Pt.slots] at X41 l41 y41 z41 st41 hQ41
      subst l41 y41 z41
      obtain ⟨rfl, N41q, e41⟩ := hQ41
      have N41 := Fr.app N40 N41q
      have q41 : (F_rank w_TRUE w_TRUE w_UNKNOWN) = (2 : Int32) := by rw [F_rank, if_pos (rfl : w_TRUE = w_TRUE)]
      rw [q41] at st41
      obtain ⟨_, _, ⟨T42, L42, k42, n42⟩, -, X42, ⟨Lc42, hQ42, l42, y42, z42⟩, st42⟩ := Jvm.LawKit.callS X41 hx (y := (⟨"com/example/gard/gard/core/TruthAndPinLaw", "rank", "(Lcom/example/gard/gard/core/Truth;)I"⟩ : MethodName)) hown (mvT hZ (hw _ (List.mem_of_getElem? (i := 16) rfl))) (mvT hZ (hw _ (List.mem_of_getElem? (i := 17) rfl))) (mvT hZ (hw _ (List.mem_of_getElem? (i := 2) rfl))) (mvT hZ (hw _ (List.mem_of_getElem? (i := 18) rfl))) (by decide) (backOf (W := 2) (rm_rank l Z a0' hw [] w_TRUE w_TRUE w_UNKNOWN h0 n0 Z0 S_TRUE S_UNKNOWN) hZ (hw _ (List.mem_of_getElem? (i := 18) rfl)) (hw _ (List.mem_of_getElem? (i := 2) rfl)) (by decide) (by decide)) (g := (mkF m 34 #[.val (.int p0), .val (.int p1), .val (.ref w_TRUE), .val (.ref w_TRUE), .val (.ref w_TRUE)] [(.ref w_TRUE), (.int (2 : Int32)), (.int (2 : Int32))])) rfl (by rw [hml]; rfl) (argsL := [(.ref w_TRUE)]) (rest := [(.int (2 : Int32)), (.int (2 : Int32))]) (lenOf own_pd2 rfl) rfl (by show 2 * 0 + _ ≤ _; exact Nat.le_of_eq rfl) (hb hby at_34) (fun _ _ => ⟨rfl, e41, (by decide : 0 + 0 ≤ _), (by decide : 0 + 0 ≤ _)⟩)
      dsimp only [Pt.U, Pt.locs, Pt.cells, Pt.slots] at X42 l42 y42 z42 st42 hQ42
      subst l42 y42 z42
      obtain ⟨rfl, N42q, e42⟩ := hQ42
      have N42 := Fr.app N41 N42q
      have q42 : (F_rank w_TRUE w_TRUE w_UNKNOWN) = (2 : Int32) := by rw [F_rank, if_pos (rfl : w_TRUE = w_TRUE)]
      rw [q42] at st42
      obtain ⟨_, _, ⟨T43, L43, k43, n43⟩, -, X43, ⟨Lc43, hQ43, l43, y43, z43⟩, st43⟩ := Jvm.LawKit.callS X42 hx (y := (⟨"java/lang/Math", "min", "(II)I"⟩ : MethodName)) hown (mvT hZ (hw _ (List.mem_of_getElem? (i := 19) rfl))) (mvT hZ (hw _ (List.mem_of_getElem? (i := 20) rfl))) (mvT hZ (hw _ (List.mem_of_getElem? (i := 21) rfl))) (mvT hZ (hw _ (List.mem_of_getElem? (i := 22) rfl))) (by decide) (backOf (W := 1) (rm_min l Z a0' hw [] (2 : Int32) (2 : Int32) h0 n0 Z0) hZ (hw _ (List.mem_of_getElem? (i := 22) rfl)) (hw _ (List.mem_of_getElem? (i := 21) rfl)) (by decide) (by decide)) (g := (mkF m 37 #[.val (.int p0), .val (.int p1), .val (.ref w_TRUE), .val (.ref w_TRUE), .val (.ref w_TRUE)] [(.int (2 : Int32)), (.int (2 : Int32)), (.int (2 : Int32))])) rfl (by rw [hml]; rfl) (argsL := [(.int (2 : Int32)), (.int (2 : Int32))]) (rest := [(.int (2 : Int32))]) (lenOf own_pd3 rfl) rfl (by show 2 * 0 + _ ≤ _; exact Nat.le_of_eq rfl) (hb hby at_37) (fun _ _ => ⟨rfl, e42, (by decide : 0 + 0 ≤ _), (by decide : 0 + 0 ≤ _)⟩)
      dsimp only [Pt.U, Pt.locs, Pt.cells, Pt.slots] at X43 l43 y43 z43 st43 hQ43
      subst l43 y43 z43
      obtain ⟨rfl, N43q, e43⟩ := hQ43
      have N43 := Fr.app N42 N43q
      have q43 : (F_min (2 : Int32) (2 : Int32)) = (2 : Int32) := by rw [F_min, if_neg (by decide : ¬ ((2 : Int32) < (2 : Int32)))]
      rw [q43] at st43
      obtain ⟨fs, hr, hrun, hended, hW, hsame⟩ := X43.leave (v := some (.int (1 : Int32))) (fun h => by rw [Bd.returns] at h; cases h)
      refine ⟨_, _, pre37 _ ?_, hrun, hended, _, _, rfl, ?_, ⟨_, rfl⟩, hW, hsame.mono (by decide) (by decide)⟩
      · show Steps p.tables e below (T33.setTop (mkF m 6 #[.val (.int p0), .val (.int p1), .val (.ref w_TRUE), .unset, .unset] [(.int p1)])) _
        refine st36 _ ?_
        show Steps p.tables e below (T36.setTop (mkF m 9 #[.val (.int p0), .val (.int p1), .val (.ref w_TRUE), .unset, .unset] [(.ref w_TRUE)])) _
        refine XS.astoreN X36.here hx rfl (hb hby at_9) rfl rfl (l' := #[.val (.int p0), .val (.int p1), .val (.ref w_TRUE), .val (.ref w_TRUE), .unset]) rfl ?_
        show Steps p.tables e below (T36.setTop (mkF m 10 #[.val (.int p0), .val (.int p1), .val (.ref w_TRUE), .val (.ref w_TRUE), .unset] [])) _
        refine XS.aloadN X36.here hx rfl (hb hby at_10) rfl rfl ?_
        show Steps p.tables e below (T36.setTop (mkF m 11 #[.val (.int p0), .val (.int p1), .val (.ref w_TRUE), .val (.ref w_TRUE), .unset] [(.ref w_TRUE)])) _
        refine XS.aloadN X36.here hx rfl (hb hby at_11) rfl rfl ?_
        show Steps p.tables e below (T36.setTop (mkF m 12 #[.val (.int p0), .val (.int p1), .val (.ref w_TRUE), .val (.ref w_TRUE), .unset] [(.ref w_TRUE), (.ref w_TRUE)])) _
        refine st39.trans ?_
        show Steps p.tables e below (T39.setTop (mkF m 15 #[.val (.int p0), .val (.int p1), .val (.ref w_TRUE), .val (.ref w_TRUE), .unset] [(.ref w_TRUE)])) _
        refine XS.astore X39.here hx rfl (hb hby at_15) rfl rfl (l' := #[.val (.int p0), .val (.int p1), .val (.ref w_TRUE), .val (.ref w_TRUE), .val (.ref w_TRUE)]) rfl ?_
        show Steps p.tables e below (T39.setTop (mkF m 17 #[.val (.int p0), .val (.int p1), .val (.ref w_TRUE), .val (.ref w_TRUE), .val (.ref w_TRUE)] [])) _
        refine XS.aload X39.here hx rfl (hb hby at_17) rfl rfl ?_
        show Steps p.tables e below (T39.setTop (mkF m 19 #[.val (.int p0), .val (.int p1), .val (.ref w_TRUE), .val (.ref w_TRUE), .val (.ref w_TRUE)] [(.ref w_TRUE)])) _
        refine XS.ifnonnullYes X39.here hx rfl (pc0 := 19) (pc' := 24) rfl (hb hby at_19) rfl (by decide) (by decide) ?_
        show Steps p.tables e below (T39.setTop (mkF m 24 #[.val (.int p0), .val (.int p1), .val (.ref w_TRUE), .val (.ref w_TRUE), .val (.ref w_TRUE)] [])) _
        refine XS.aload X39.here hx rfl (hb hby at_24) rfl rfl ?_
        show Steps p.tables e below (T39.setTop (mkF m 26 #[.val (.int p0), .val (.int p1), .val (.ref w_TRUE), .val (.ref w_TRUE), .val (.ref w_TRUE)] [(.ref w_TRUE)])) _
        refine st40 _ ?_
        show Steps p.tables e below (T40.setTop (mkF m 29 #[.val (.int p0), .val (.int p1), .val (.ref w_TRUE), .val (.ref w_TRUE), .val (.ref w_TRUE)] [(.int (2 : Int32))])) _
        refine XS.aloadN X40.here hx rfl (hb hby at_29) rfl rfl ?_
        show Steps p.tables e below (T40.setTop (mkF m 30 #[.val (.int p0), .val (.int p1), .val (.ref w_TRUE), .val (.ref w_TRUE), .val (.ref w_TRUE)] [(.ref w_TRUE), (.int (2 : Int32))])) _
        refine st41 _ ?_
        show Steps p.tables e below (T41.setTop (mkF m 33 #[.val (.int p0), .val (.int p1), .val (.ref w_TRUE), .val (.ref w_TRUE), .val (.ref w_TRUE)] [(.int (2 : Int32)), (.int (2 : Int32))])) _
        refine XS.aloadN X41.here hx rfl (hb hby at_33) rfl rfl ?_
        show Steps p.tables e below (T41.setTop (mkF m 34 #[.val (.int p0), .val (.int p1), .val (.ref w_TRUE), .val (.ref w_TRUE), .val (.ref w_TRUE)] [(.ref w_TRUE), (.int (2 : Int32)), (.int (2 : Int32))])) _
        refine st42 _ ?_
        show Steps p.tables e below (T42.setTop (mkF m 37 #[.val (.int p0), .val (.int p1), .val (.ref w_TRUE), .val (.ref w_TRUE), .val (.ref w_TRUE)] [(.int (2 : Int32)), (.int (2 : Int32)), (.int (2 : Int32))])) _
        refine st43 _ ?_
        show Steps p.tables e below (T43.setTop (mkF m 40 #[.val (.int p0), .val (.int p1), .val (.ref w_TRUE), .val (.ref w_TRUE), .val (.ref w_TRUE)] [(.int (2 : Int32)), (.int (2 : Int32))])) _
        refine XS.icmpNo X43.here hx rfl (hb hby at_40) rfl (teq (by decide : (2 : Int32) = (2 : Int32))).2 ?_
        show Steps p.tables e below (T43.setTop (mkF m 43 #[.val (.int p0), .val (.int p1), .val (.ref w_TRUE), .val (.ref w_TRUE), .val (.ref w_TRUE)] [])) _
        refine XS.iconst X43.here hx rfl (hb hby at_43) ?_
        show Steps p.tables e below (T43.setTop (mkF m 44 #[.val (.int p0), .val (.int p1), .val (.ref w_TRUE), .val (.ref w_TRUE), .val (.ref w_TRUE)] [(.int (1 : Int32))])) _
        refine XS.goto X43.here hx rfl (pc0 := 44) (pc' := 48) rfl (hb hby at_44) (by decide) (by decide) ?_
        show Steps p.tables e below (T43.setTop (mkF m 48 #[.val (.int p0), .val (.int p1), .val (.ref w_TRUE), .val (.ref w_TRUE), .val (.ref w_TRUE)] [(.int (1 : Int32))])) _
        exact retN X43 hx (t := .boolean) Bd.returns (by simp) (hb hby at_48) hr
      · show Q_law Z p0 p1 w_TRUE w_FALSE w_UNKNOWN h0 n0 _ T43.heap _
        refine ⟨?_, N43, trivial⟩
        rw [F_law, if_pos hs_35, if_pos hs_38]
    · by_cases hs_44 : ((p1 &&& (2147483647 : Int32)) % (3 : Int32)) = (1 : Int32)
      · have q36 : (F_pick p1 w_TRUE w_FALSE w_UNKNOWN) = w_FALSE := by rw [F_pick, if_neg hs_38, if_pos hs_44]
        rw [q36] at st36
        obtain ⟨cq45, kq45, q45a, q45b, q45c⟩ := isOf hZ e36 E_TRUE
        obtain ⟨_, _, ⟨T45, L45, k45, n45⟩, -, X45, ⟨Lc45, hQ45, l45, y45, z45⟩, st45⟩ := X36.virtualBack hx (y := (⟨"com/example/gard/gard/core/Truth", "and", "(Lcom/example/gard/gard/core/Truth;)Lcom/example/gard/gard/core/Truth;"⟩ : MethodName)) (z := (⟨"com/example/gard/gard/core/Truth", "and", "(Lcom/example/gard/gard/core/Truth;)Lcom/example/gard/gard/core/Truth;"⟩ : MethodName)) hown (mvT hZ (hw _ (List.mem_of_getElem? (i := 8) rfl))) (mvT hZ (hw _ (List.mem_of_getElem? (i := 9) rfl))) (notFace_of_selects (args := #[]) (mvT hZ (hw _ (List.mem_of_getElem? (i := 11) rfl)))) (mvT hZ (hw _ (List.mem_of_getElem? (i := 11) rfl))) (mvT hZ (hw _ (List.mem_of_getElem? (i := 10) rfl))) (by decide) (backOf (W := 0) (rm_conj l Z a0' hw [] w_TRUE w_FALSE w_TRUE w_FALSE w_UNKNOWN h0 n0 Z0 S_TRUE S_FALSE S_UNKNOWN) hZ (hw _ (List.mem_of_getElem? (i := 12) rfl)) (hw _ (List.mem_of_getElem? (i := 6) rfl)) (by decide) (by decide)) q45a q45c (g := (mkF m 12 #[.val (.int p0), .val (.int p1), .val (.ref w_TRUE), .val (.ref w_FALSE), .unset] [(.ref w_FALSE), (.ref w_TRUE)])) rfl (by rw [hml]; rfl) (Steps.refl _) (argsL := [(.ref w_FALSE)]) (rest := []) (lenOf own_pd1 rfl) rfl (by show 2 * 0 + _ ≤ _; exact Nat.le_of_eq rfl) (hb hby at_12) (fun _ _ => ⟨rfl, e36, (by decide : 0 + 0 ≤ _), (by decide : 0 + 0 ≤ _)⟩)
        dsimp only [Pt.U, Pt.locs, Pt.cells, Pt.slots] at X45 l45 y45 z45 st45 hQ45
        subst l45 y45 z45
        obtain ⟨rfl, N45q, e45⟩ := hQ45
        have N45 := Fr.app N36 N45q
        have q45 : (F_conj w_TRUE w_FALSE w_TRUE w_FALSE w_UNKNOWN) = w_FALSE := by rw [F_conj, if_neg ne_TRUE_FALSE, if_pos (rfl : w_FALSE = w_FALSE)]
        rw [q45] at st45
        obtain ⟨_, _, ⟨T46, L46, k46, n46⟩, -, X46, ⟨Lc46, hQ46, l46, y46, z46⟩, st46⟩ := Jvm.LawKit.callS X45 hx (y := (⟨"com/example/gard/gard/core/TruthAndPinLaw", "rank", "(Lcom/example/gard/gard/core/Truth;)I"⟩ : MethodName)) hown (mvT hZ (hw _ (List.mem_of_getElem? (i := 16) rfl))) (mvT hZ (hw _ (List.mem_of_getElem? (i := 17) rfl))) (mvT hZ (hw _ (List.mem_of_getElem? (i := 2) rfl))) (mvT hZ (hw _ (List.mem_of_getElem? (i := 18) rfl))) (by decide) (backOf (W := 0) (rm_rank l Z a0' hw [] w_FALSE w_TRUE w_UNKNOWN h0 n0 Z0 S_TRUE S_UNKNOWN) hZ (hw _ (List.mem_of_getElem? (i := 18) rfl)) (hw _ (List.mem_of_getElem? (i := 2) rfl)) (by decide) (by decide)) (g := (mkF m 26 #[.val (.int p0), .val (.int p1), .val (.ref w_TRUE), .val (.ref w_FALSE), .val (.ref w_FALSE)] [(.ref w_FALSE)])) rfl (by rw [hml]; rfl) (argsL := [(.ref w_FALSE)]) (rest := []) (lenOf own_pd2 rfl) rfl (by show 2 * 0 + _ ≤ _; exact Nat.le_of_eq rfl) (hb hby at_26) (fun _ _ => ⟨rfl, e45, (by decide : 0 + 0 ≤ _), (by decide : 0 + 0 ≤ _)⟩)
        dsimp only [Pt.U, Pt.locs, Pt.cells, Pt.slots] at X46 l46 y46 z46 st46 hQ46
        subst l46 y46 z46
        obtain ⟨rfl, N46q, e46⟩ := hQ46
        have N46 := Fr.app N45 N46q
        have q46 : (F_rank w_FALSE w_TRUE w_UNKNOWN) = (0 : Int32) := by rw [F_rank, if_neg ne_FALSE_TRUE, if_neg ne_FALSE_UNKNOWN]
        rw [q46] at st46
        obtain ⟨_, _, ⟨T47, L47, k47, n47⟩, -, X47, ⟨Lc47, hQ47, l47, y47, z47⟩, st47⟩ := Jvm.LawKit.callS X46 hx (y := (⟨"com/example/gard/gard/core/TruthAndPinLaw", "rank", "(Lcom/example/gard/gard/core/Truth;)I"⟩ : MethodName)) hown (mvT hZ (hw _ (List.mem_of_getElem? (i := 16) rfl))) (mvT hZ (hw _ (List.mem_of_getElem? (i := 17) rfl))) (mvT hZ (hw _ (List.mem_of_getElem? (i := 2) rfl))) (mvT hZ (hw _ (List.mem_of_getElem? (i := 18) rfl))) (by decide) (backOf (W := 1) (rm_rank l Z a0' hw [] w_TRUE w_TRUE w_UNKNOWN h0 n0 Z0 S_TRUE S_UNKNOWN) hZ (hw _ (List.mem_of_getElem? (i := 18) rfl)) (hw _ (List.mem_of_getElem? (i := 2) rfl)) (by decide) (by decide)) (g := (mkF m 30 #[.val (.int p0), .val (.int p1), .val (.ref w_TRUE), .val (.ref w_FALSE), .val (.ref w_FALSE)] [(.ref w_TRUE), (.int (0 : Int32))])) rfl (by rw [hml]; rfl) (argsL := [(.ref w_TRUE)]) (rest := [(.int (0 : Int32))]) (lenOf own_pd2 rfl) rfl (by show 2 * 0 + _ ≤ _; exact Nat.le_of_eq rfl) (hb hby at_30) (fun _ _ => ⟨rfl, e46, (by decide : 0 + 0 ≤ _), (by decide : 0 + 0 ≤ _)⟩)
        dsimp only [Pt.U, Pt.locs, Pt.cells, Pt.slots] at X47 l47 y47 z47 st47 hQ47
        subst l47 y47 z47
        obtain ⟨rfl, N47q, e47⟩ := hQ47
        have N47 := Fr.app N46 N47q
        have q47 : (F_rank w_TRUE w_TRUE w_UNKNOWN) = (2 : Int32) := by rw [F_rank, if_pos (rfl : w_TRUE = w_TRUE)]
        rw [q47] at st47
        obtain ⟨_, _, ⟨T48, L48, k48, n48⟩, -, X48, ⟨Lc48, hQ48, l48, y48, z48⟩, st48⟩ := Jvm.LawKit.callS X47 hx (y := (⟨"com/example/gard/gard/core/TruthAndPinLaw", "rank", "(Lcom/example/gard/gard/core/Truth;)I"⟩ : MethodName)) hown (mvT hZ (hw _ (List.mem_of_getElem? (i := 16) rfl))) (mvT hZ (hw _ (List.mem_of_getElem? (i := 17) rfl))) (mvT hZ (hw _ (List.mem_of_getElem? (i := 2) rfl))) (mvT hZ (hw _ (List.mem_of_getElem? (i := 18) rfl))) (by decide) (backOf (W := 2) (rm_rank l Z a0' hw [] w_FALSE w_TRUE w_UNKNOWN h0 n0 Z0 S_TRUE S_UNKNOWN) hZ (hw _ (List.mem_of_getElem? (i := 18) rfl)) (hw _ (List.mem_of_getElem? (i := 2) rfl)) (by decide) (by decide)) (g := (mkF m 34 #[.val (.int p0), .val (.int p1), .val (.ref w_TRUE), .val (.ref w_FALSE), .val (.ref w_FALSE)] [(.ref w_FALSE), (.int (2 : Int32)), (.int (0 : Int32))])) rfl (by rw [hml]; rfl) (argsL := [(.ref w_FALSE)]) (rest := [(.int (2 : Int32)), (.int (0 : Int32))]) (lenOf own_pd2 rfl) rfl (by show 2 * 0 + _ ≤ _; exact Nat.le_of_eq rfl) (hb hby at_34) (fun _ _ => ⟨rfl, e47, (by decide : 0 + 0 ≤ _), (by decide : 0 + 0 ≤ _)⟩)
        dsimp only [Pt.U, Pt.locs, Pt.cells, Pt.slots] at X48 l48 y48 z48 st48 hQ48
        subst l48 y48 z48
        obtain ⟨rfl, N48q, e48⟩ := hQ48
        have N48 := Fr.app N47 N48q
        have q48 : (F_rank w_FALSE w_TRUE w_UNKNOWN) = (0 : Int32) := by rw [F_rank, if_neg ne_FALSE_TRUE, if_neg ne_FALSE_UNKNOWN]
        rw [q48] at st48
        obtain ⟨_, _, ⟨T49, L49, k49, n49⟩, -, X49, ⟨Lc49, hQ49, l49, y49, z49⟩, st49⟩ := Jvm.LawKit.callS X48 hx (y := (⟨"java/lang/Math", "min", "(II)I"⟩ : MethodName)) hown (mvT hZ (hw _ (List.mem_of_getElem? (i := 19) rfl))) (mvT hZ (hw _ (List.mem_of_getElem? (i := 20) rfl))) (mvT hZ (hw _ (List.mem_of_getElem? (i := 21) rfl))) (mvT hZ (hw _ (List.mem_of_getElem? (i := 22) rfl))) (by decide) (backOf (W := 1) (rm_min l Z a0' hw [] (2 : Int32) (0 : Int32) h0 n0 Z0) hZ (hw _ (List.mem_of_getElem? (i := 22) rfl)) (hw _ (List.mem_of_getElem? (i := 21) rfl)) (by decide) (by decide)) (g := (mkF m 37 #[.val (.int p0), .val (.int p1), .val (.ref w_TRUE), .val (.ref w_FALSE), .val (.ref w_FALSE)] [(.int (0 : Int32)), (.int (2 : Int32)), (.int (0 : Int32))])) rfl (by rw [hml]; rfl) (argsL := [(.int (2 : Int32)), (.int (0 : Int32))]) (rest := [(.int (0 : Int32))]) (lenOf own_pd3 rfl) rfl (by show 2 * 0 + _ ≤ _; exact Nat.le_of_eq rfl) (hb hby at_37) (fun _ _ => ⟨rfl, e48, (by decide : 0 + 0 ≤ _), (by decide : 0 + 0 ≤ _)⟩)
        dsimp only [Pt.U, Pt.locs, Pt.cells, Pt.slots] at X49 l49 y49 z49 st49 hQ49
        subst l49 y49 z49
        obtain ⟨rfl, N49q, e49⟩ := hQ49
        have N49 := Fr.app N48 N49q
        have q49 : (F_min (2 : Int32) (0 : Int32)) = (0 : Int32) := by rw [F_min, if_pos (by decide : (0 : Int32) < (2 : Int32))]
        rw [q49] at st49
        obtain ⟨fs, hr, hrun, hended, hW, hsame⟩ := X49.leave (v := some (.int (1 : Int32))) (fun h => by rw [Bd.returns] at h; cases h)
        refine ⟨_, _, pre37 _ ?_, hrun, hended, _, _, rfl, ?_, ⟨_, rfl⟩, hW, hsame.mono (by decide) (by decide)⟩
        · show Steps p.tables e below (T33.setTop (mkF m 6 #[.val (.int p0), .val (.int p1), .val (.ref w_TRUE), .unset, .unset] [(.int p1)])) _
          refine st36 _ ?_
          show Steps p.tables e below (T36.setTop (mkF m 9 #[.val (.int p0), .val (.int p1), .val (.ref w_TRUE), .unset, .unset] [(.ref w_FALSE)])) _
          refine XS.astoreN X36.here hx rfl (hb hby at_9) rfl rfl (l' := #[.val (.int p0), .val (.int p1), .val (.ref w_TRUE), .val (.ref w_FALSE), .unset]) rfl ?_
          show Steps p.tables e below (T36.setTop (mkF m 10 #[.val (.int p0), .val (.int p1), .val (.ref w_TRUE), .val (.ref w_FALSE), .unset] [])) _
          refine XS.aloadN X36.here hx rfl (hb hby at_10) rfl rfl ?_
          show Steps p.tables e below (T36.setTop (mkF m 11 #[.val (.int p0), .val (.int p1), .val (.ref w_TRUE), .val (.ref w_FALSE), .unset] [(.ref w_TRUE)])) _
          refine XS.aloadN X36.here hx rfl (hb hby at_11) rfl rfl ?_
          show Steps p.tables e below (T36.setTop (mkF m 12 #[.val (.int p0), .val (.int p1), .val (.ref w_TRUE), .val (.ref w_FALSE), .unset] [(.ref w_FALSE), (.ref w_TRUE)])) _
          refine st45.trans ?_
          show Steps p.tables e below (T45.setTop (mkF m 15 #[.val (.int p0), .val (.int p1), .val (.ref w_TRUE), .val (.ref w_FALSE), .unset] [(.ref w_FALSE)])) _
          refine XS.astore X45.here hx rfl (hb hby at_15) rfl rfl (l' := #[.val (.int p0), .val (.int p1), .val (.ref w_TRUE), .val (.ref w_FALSE), .val (.ref w_FALSE)]) rfl ?_
          show Steps p.tables e below (T45.setTop (mkF m 17 #[.val (.int p0), .val (.int p1), .val (.ref w_TRUE), .val (.ref w_FALSE), .val (.ref w_FALSE)] [])) _
          refine XS.aload X45.here hx rfl (hb hby at_17) rfl rfl ?_
          show Steps p.tables e below (T45.setTop (mkF m 19 #[.val (.int p0), .val (.int p1), .val (.ref w_TRUE), .val (.ref w_FALSE), .val (.ref w_FALSE)] [(.ref w_FALSE)])) _
          refine XS.ifnonnullYes X45.here hx rfl (pc0 := 19) (pc' := 24) rfl (hb hby at_19) rfl (by decide) (by decide) ?_
          show Steps p.tables e below (T45.setTop (mkF m 24 #[.val (.int p0), .val (.int p1), .val (.ref w_TRUE), .val (.ref w_FALSE), .val (.ref w_FALSE)] [])) _
          refine XS.aload X45.here hx rfl (hb hby at_24) rfl rfl ?_
          show Steps p.tables e below (T45.setTop (mkF m 26 #[.val (.int p0), .val (.int p1), .val (.ref w_TRUE), .val (.ref w_FALSE), .val (.ref w_FALSE)] [(.ref w_FALSE)])) _
          refine st46 _ ?_
          show Steps p.tables e below (T46.setTop (mkF m 29 #[.val (.int p0), .val (.int p1), .val (.ref w_TRUE), .val (.ref w_FALSE), .val (.ref w_FALSE)] [(.int (0 : Int32))])) _
          refine XS.aloadN X46.here hx rfl (hb hby at_29) rfl rfl ?_
          show Steps p.tables e below (T46.setTop (mkF m 30 #[.val (.int p0), .val (.int p1), .val (.ref w_TRUE), .val (.ref w_FALSE), .val (.ref w_FALSE)] [(.ref w_TRUE), (.int (0 : Int32))])) _
          refine st47 _ ?_
          show Steps p.tables e below (T47.setTop (mkF m 33 #[.val (.int p0), .val (.int p1), .val (.ref w_TRUE), .val (.ref w_FALSE), .val (.ref w_FALSE)] [(.int (2 : Int32)), (.int (0 : Int32))])) _
          refine XS.aloadN X47.here hx rfl (hb hby at_33) rfl rfl ?_
          show Steps p.tables e below (T47.setTop (mkF m 34 #[.val (.int p0), .val (.int p1), .val (.ref w_TRUE), .val (.ref w_FALSE), .val (.ref w_FALSE)] [(.ref w_FALSE), (.int (2 : Int32)), (.int (0 : Int32))])) _
          refine st48 _ ?_
          show Steps p.tables e below (T48.setTop (mkF m 37 #[.val (.int p0), .val (.int p1), .val (.ref w_TRUE), .val (.ref w_FALSE), .val (.ref w_FALSE)] [(.int (0 : Int32)), (.int (2 : Int32)), (.int (0 : Int32))])) _
          refine st49 _ ?_
          show Steps p.tables e below (T49.setTop (mkF m 40 #[.val (.int p0), .val (.int p1), .val (.ref w_TRUE), .val (.ref w_FALSE), .val (.ref w_FALSE)] [(.int (0 : Int32)), (.int (0 : Int32))])) _
          refine XS.icmpNo X49.here hx rfl (hb hby at_40) rfl (teq (by decide : (0 : Int32) = (0 : Int32))).2 ?_
          show Steps p.tables e below (T49.setTop (mkF m 43 #[.val (.int p0), .val (.int p1), .val (.ref w_TRUE), .val (.ref w_FALSE), .val (.ref w_FALSE)] [])) _
          refine XS.iconst X49.here hx rfl (hb hby at_43) ?_
          show Steps p.tables e below (T49.setTop (mkF m 44 #[.val (.int p0), .val (.int p1), .val (.ref w_TRUE), .val (.ref w_FALSE), .val (.ref w_FALSE)] [(.int (1 : Int32))])) _
          refine XS.goto X49.here hx rfl (pc0 := 44) (pc' := 48) rfl (hb hby at_44) (by decide) (by decide) ?_
          show Steps p.tables e below (T49.setTop (mkF m 48 #[.val (.int p0), .val (.int p1), .val (.ref w_TRUE), .val (.ref w_FALSE), .val (.ref w_FALSE)] [(.int (1 : Int32))])) _
          exact retN X49 hx (t := .boolean) Bd.returns (by simp) (hb hby at_48) hr
        · show Q_law Z p0 p1 w_TRUE w_FALSE w_UNKNOWN h0 n0 _ T49.heap _
          refine ⟨?_, N49, trivial⟩
          rw [F_law, if_pos hs_35, if_neg hs_38, if_pos hs_44]
      · have q36 : (F_pick p1 w_TRUE w_FALSE w_UNKNOWN) = w_UNKNOWN := by rw [F_pick, if_neg hs_38, if_neg hs_44]
        rw [q36] at st36
        obtain ⟨cq50, kq50, q50a, q50b, q50c⟩ := isOf hZ e36 E_TRUE
        obtain ⟨_, _, ⟨T50, L50, k50, n50⟩, -, X50, ⟨Lc50, hQ50, l50, y50, z50⟩, st50⟩ := X36.virtualBack hx (y := (⟨"com/example/gard/gard/core/Truth", "and", "(Lcom/example/gard/gard/core/Truth;)Lcom/example/gard/gard/core/Truth;"⟩ : MethodName)) (z := (⟨"com/example/gard/gard/core/Truth", "and", "(Lcom/example/gard/gard/core/Truth;)Lcom/example/gard/gard/core/Truth;"⟩ : MethodName)) hown (mvT hZ (hw _ (List.mem_of_getElem? (i := 8) rfl))) (mvT hZ (hw _ (List.mem_of_getElem? (i := 9) rfl))) (notFace_of_selects (args := #[]) (mvT hZ (hw _ (List.mem_of_getElem? (i := 11) rfl)))) (mvT hZ (hw _ (List.mem_of_getElem? (i := 11) rfl))) (mvT hZ (hw _ (List.mem_of_getElem? (i := 10) rfl))) (by decide) (backOf (W := 0) (rm_conj l Z a0' hw [] w_TRUE w_UNKNOWN w_TRUE w_FALSE w_UNKNOWN h0 n0 Z0 S_TRUE S_FALSE S_UNKNOWN) hZ (hw _ (List.mem_of_getElem? (i := 12) rfl)) (hw _ (List.mem_of_getElem? (i := 6) rfl)) (by decide) (by decide)) q50a q50c (g := (mkF m 12 #[.val (.int p0), .val (.int p1), .val (.ref w_TRUE), .val (.ref w_UNKNOWN), .unset] [(.ref w_UNKNOWN), (.ref w_TRUE)])) rfl (by rw [hml]; rfl) (Steps.refl _) (argsL := [(.ref w_UNKNOWN)]) (rest := []) (lenOf own_pd1 rfl) rfl (by show 2 * 0 + _ ≤ _; exact Nat.le_of_eq rfl) (hb hby at_12) (fun _ _ => ⟨rfl, e36, (by decide : 0 + 0 ≤ _), (by decide : 0 + 0 ≤ _)⟩)
        dsimp only [Pt.U, Pt.locs, Pt.cells, Pt.slots] at X50 l50 y50 z50 st50 hQ50
        subst l50 y50 z50
        obtain ⟨rfl, N50q, e50⟩ := hQ50
        have N50 := Fr.app N36 N50q
        have q50 : (F_conj w_TRUE w_UNKNOWN w_TRUE w_FALSE w_UNKNOWN) = w_UNKNOWN := by rw [F_conj, if_neg ne_TRUE_FALSE, if_neg ne_UNKNOWN_FALSE, if_pos (rfl : w_TRUE = w_TRUE), if_neg ne_UNKNOWN_TRUE]
        rw [q50] at st50
        obtain ⟨_, _, ⟨T51, L51, k51, n51⟩, -, X51, ⟨Lc51, hQ51, l51, y51, z51⟩, st51⟩ := Jvm.LawKit.callS X50 hx (y := (⟨"com/example/gard/gard/core/TruthAndPinLaw", "rank", "(Lcom/example/gard/gard/core/Truth;)I"⟩ : MethodName)) hown (mvT hZ (hw _ (List.mem_of_getElem? (i := 16) rfl))) (mvT hZ (hw _ (List.mem_of_getElem? (i := 17) rfl))) (mvT hZ (hw _ (List.mem_of_getElem? (i := 2) rfl))) (mvT hZ (hw _ (List.mem_of_getElem? (i := 18) rfl))) (by decide) (backOf (W := 0) (rm_rank l Z a0' hw [] w_UNKNOWN w_TRUE w_UNKNOWN h0 n0 Z0 S_TRUE S_UNKNOWN) hZ (hw _ (List.mem_of_getElem? (i := 18) rfl)) (hw _ (List.mem_of_getElem? (i := 2) rfl)) (by decide) (by decide)) (g := (mkF m 26 #[.val (.int p0), .val (.int p1), .val (.ref w_TRUE), .val (.ref w_UNKNOWN), .val (.ref w_UNKNOWN)] [(.ref w_UNKNOWN)])) rfl (by rw [hml]; rfl) (argsL := [(.ref w_UNKNOWN)]) (rest := []) (lenOf own_pd2 rfl) rfl (by show 2 * 0 + _ ≤ _; exact Nat.le_of_eq rfl) (hb hby at_26) (fun _ _ => ⟨rfl, e50, (by decide : 0 + 0 ≤ _), (by decide : 0 + 0 ≤ _)⟩)
        dsimp only [Pt.U, Pt.locs, Pt.cells, Pt.slots] at X51 l51 y51 z51 st51 hQ51
        subst l51 y51 z51
        obtain ⟨rfl, N51q, e51⟩ := hQ51
        have N51 := Fr.app N50 N51q
        have q51 : (F_rank w_UNKNOWN w_TRUE w_UNKNOWN) = (1 : Int32) := by rw [F_rank, if_neg ne_UNKNOWN_TRUE, if_pos (rfl : w_UNKNOWN = w_UNKNOWN)]
        rw [q51] at st51
        obtain ⟨_, _, ⟨T52, L52, k52, n52⟩, -, X52, ⟨Lc52, hQ52, l52, y52, z52⟩, st52⟩ := Jvm.LawKit.callS X51 hx (y := (⟨"com/example/gard/gard/core/TruthAndPinLaw", "rank", "(Lcom/example/gard/gard/core/Truth;)I"⟩ : MethodName)) hown (mvT hZ (hw _ (List.mem_of_getElem? (i := 16) rfl))) (mvT hZ (hw _ (List.mem_of_getElem? (i := 17) rfl))) (mvT hZ (hw _ (List.mem_of_getElem? (i := 2) rfl))) (mvT hZ (hw _ (List.mem_of_getElem? (i := 18) rfl))) (by decide) (backOf (W := 1) (rm_rank l Z a0' hw [] w_TRUE w_TRUE w_UNKNOWN h0 n0 Z0 S_TRUE S_UNKNOWN) hZ (hw _ (List.mem_of_getElem? (i := 18) rfl)) (hw _ (List.mem_of_getElem? (i := 2) rfl)) (by decide) (by decide)) (g := (mkF m 30 #[.val (.int p0), .val (.int p1), .val (.ref w_TRUE), .val (.ref w_UNKNOWN), .val (.ref w_UNKNOWN)] [(.ref w_TRUE), (.int (1 : Int32))])) rfl (by rw [hml]; rfl) (argsL := [(.ref w_TRUE)]) (rest := [(.int (1 : Int32))]) (lenOf own_pd2 rfl) rfl (by show 2 * 0 + _ ≤ _; exact Nat.le_of_eq rfl) (hb hby at_30) (fun _ _ => ⟨rfl, e51, (by decide : 0 + 0 ≤ _), (by decide : 0 + 0 ≤ _)⟩)
        dsimp only [Pt.U, Pt.locs, Pt.cells, Pt.slots] at X52 l52 y52 z52 st52 hQ52
        subst l52 y52 z52
        obtain ⟨rfl, N52q, e52⟩ := hQ52
        have N52 := Fr.app N51 N52q
        have q52 : (F_rank w_TRUE w_TRUE w_UNKNOWN) = (2 : Int32) := by rw [F_rank, if_pos (rfl : w_TRUE = w_TRUE)]
        rw [q52] at st52
        obtain ⟨_, _, ⟨T53, L53, k53, n53⟩, -, X53, ⟨Lc53, hQ53, l53, y53, z53⟩, st53⟩ := Jvm.LawKit.callS X52 hx (y := (⟨"com/example/gard/gard/core/TruthAndPinLaw", "rank", "(Lcom/example/gard/gard/core/Truth;)I"⟩ : MethodName)) hown (mvT hZ (hw _ (List.mem_of_getElem? (i := 16) rfl))) (mvT hZ (hw _ (List.mem_of_getElem? (i := 17) rfl))) (mvT hZ (hw _ (List.mem_of_getElem? (i := 2) rfl))) (mvT hZ (hw _ (List.mem_of_getElem? (i := 18) rfl))) (by decide) (backOf (W := 2) (rm_rank l Z a0' hw [] w_UNKNOWN w_TRUE w_UNKNOWN h0 n0 Z0 S_TRUE S_UNKNOWN) hZ (hw _ (List.mem_of_getElem? (i := 18) rfl)) (hw _ (List.mem_of_getElem? (i := 2) rfl)) (by decide) (by decide)) (g := (mkF m 34 #[.val (.int p0), .val (.int p1), .val (.ref w_TRUE), .val (.ref w_UNKNOWN), .val (.ref w_UNKNOWN)] [(.ref w_UNKNOWN), (.int (2 : Int32)), (.int (1 : Int32))])) rfl (by rw [hml]; rfl) (argsL := [(.ref w_UNKNOWN)]) (rest := [(.int (2 : Int32)), (.int (1 : Int32))]) (lenOf own_pd2 rfl) rfl (by show 2 * 0 + _ ≤ _; exact Nat.le_of_eq rfl) (hb hby at_34) (fun _ _ => ⟨rfl, e52, (by decide : 0 + 0 ≤ _), (by decide : 0 + 0 ≤ _)⟩)
        dsimp only [Pt.U, Pt.locs, Pt.cells, Pt.slots] at X53 l53 y53 z53 st53 hQ53
        subst l53 y53 z53
        obtain ⟨rfl, N53q, e53⟩ := hQ53
        have N53 := Fr.app N52 N53q
        have q53 : (F_rank w_UNKNOWN w_TRUE w_UNKNOWN) = (1 : Int32) := by rw [F_rank, if_neg ne_UNKNOWN_TRUE, if_pos (rfl : w_UNKNOWN = w_UNKNOWN)]
        rw [q53] at st53
        obtain ⟨_, _, ⟨T54, L54, k54, n54⟩, -, X54, ⟨Lc54, hQ54, l54, y54, z54⟩, st54⟩ := Jvm.LawKit.callS X53 hx (y := (⟨"java/lang/Math", "min", "(II)I"⟩ : MethodName)) hown (mvT hZ (hw _ (List.mem_of_getElem? (i := 19) rfl))) (mvT hZ (hw _ (List.mem_of_getElem? (i := 20) rfl))) (mvT hZ (hw _ (List.mem_of_getElem? (i := 21) rfl))) (mvT hZ (hw _ (List.mem_of_getElem? (i := 22) rfl))) (by decide) (backOf (W := 1) (rm_min l Z a0' hw [] (2 : Int32) (1 : Int32) h0 n0 Z0) hZ (hw _ (List.mem_of_getElem? (i := 22) rfl)) (hw _ (List.mem_of_getElem? (i := 21) rfl)) (by decide) (by decide)) (g := (mkF m 37 #[.val (.int p0), .val (.int p1), .val (.ref w_TRUE), .val (.ref w_UNKNOWN), .val (.ref w_UNKNOWN)] [(.int (1 : Int32)), (.int (2 : Int32)), (.int (1 : Int32))])) rfl (by rw [hml]; rfl) (argsL := [(.int (2 : Int32)), (.int (1 : Int32))]) (rest := [(.int (1 : Int32))]) (lenOf own_pd3 rfl) rfl (by show 2 * 0 + _ ≤ _; exact Nat.le_of_eq rfl) (hb hby at_37) (fun _ _ => ⟨rfl, e53, (by decide : 0 + 0 ≤ _), (by decide : 0 + 0 ≤ _)⟩)
        dsimp only [Pt.U, Pt.locs, Pt.cells, Pt.slots] at X54 l54 y54 z54 st54 hQ54
        subst l54 y54 z54
        obtain ⟨rfl, N54q, e54⟩ := hQ54
        have N54 := Fr.app N53 N54q
        have q54 : (F_min (2 : Int32) (1 : Int32)) = (1 : Int32) := by rw [F_min, if_pos (by decide : (1 : Int32) < (2 : Int32))]
        rw [q54] at st54
        obtain ⟨fs, hr, hrun, hended, hW, hsame⟩ := X54.leave (v := some (.int (1 : Int32))) (fun h => by rw [Bd.returns] at h; cases h)
        refine ⟨_, _, pre37 _ ?_, hrun, hended, _, _, rfl, ?_, ⟨_, rfl⟩, hW, hsame.mono (by decide) (by decide)⟩
        · show Steps p.tables e below (T33.setTop (mkF m 6 #[.val (.int p0), .val (.int p1), .val (.ref w_TRUE), .unset, .unset] [(.int p1)])) _
          refine st36 _ ?_
          show Steps p.tables e below (T36.setTop (mkF m 9 #[.val (.int p0), .val (.int p1), .val (.ref w_TRUE), .unset, .unset] [(.ref w_UNKNOWN)])) _
          refine XS.astoreN X36.here hx rfl (hb hby at_9) rfl rfl (l' := #[.val (.int p0), .val (.int p1), .val (.ref w_TRUE), .val (.ref w_UNKNOWN), .unset]) rfl ?_
          show Steps p.tables e below (T36.setTop (mkF m 10 #[.val (.int p0), .val (.int p1), .val (.ref w_TRUE), .val (.ref w_UNKNOWN), .unset] [])) _
          refine XS.aloadN X36.here hx rfl (hb hby at_10) rfl rfl ?_
          show Steps p.tables e below (T36.setTop (mkF m 11 #[.val (.int p0), .val (.int p1), .val (.ref w_TRUE), .val (.ref w_UNKNOWN), .unset] [(.ref w_TRUE)])) _
          refine XS.aloadN X36.here hx rfl (hb hby at_11) rfl rfl ?_
          show Steps p.tables e below (T36.setTop (mkF m 12 #[.val (.int p0), .val (.int p1), .val (.ref w_TRUE), .val (.ref w_UNKNOWN), .unset] [(.ref w_UNKNOWN), (.ref w_TRUE)])) _
          refine st50.trans ?_
          show Steps p.tables e below (T50.setTop (mkF m 15 #[.val (.int p0), .val (.int p1), .val (.ref w_TRUE), .val (.ref w_UNKNOWN), .unset] [(.ref w_UNKNOWN)])) _
          refine XS.astore X50.here hx rfl (hb hby at_15) rfl rfl (l' := #[.val (.int p0), .val (.int p1), .val (.ref w_TRUE), .val (.ref w_UNKNOWN), .val (.ref w_UNKNOWN)]) rfl ?_
          show Steps p.tables e below (T50.setTop (mkF m 17 #[.val (.int p0), .val (.int p1), .val (.ref w_TRUE), .val (.ref w_UNKNOWN), .val (.ref w_UNKNOWN)] [])) _
          refine XS.aload X50.here hx rfl (hb hby at_17) rfl rfl ?_
          show Steps p.tables e below (T50.setTop (mkF m 19 #[.val (.int p0), .val (.int p1), .val (.ref w_TRUE), .val (.ref w_UNKNOWN), .val (.ref w_UNKNOWN)] [(.ref w_UNKNOWN)])) _
          refine XS.ifnonnullYes X50.here hx rfl (pc0 := 19) (pc' := 24) rfl (hb hby at_19) rfl (by decide) (by decide) ?_
          show Steps p.tables e below (T50.setTop (mkF m 24 #[.val (.int p0), .val (.int p1), .val (.ref w_TRUE), .val (.ref w_UNKNOWN), .val (.ref w_UNKNOWN)] [])) _
          refine XS.aload X50.here hx rfl (hb hby at_24) rfl rfl ?_
          show Steps p.tables e below (T50.setTop (mkF m 26 #[.val (.int p0), .val (.int p1), .val (.ref w_TRUE), .val (.ref w_UNKNOWN), .val (.ref w_UNKNOWN)] [(.ref w_UNKNOWN)])) _
          refine st51 _ ?_
          show Steps p.tables e below (T51.setTop (mkF m 29 #[.val (.int p0), .val (.int p1), .val (.ref w_TRUE), .val (.ref w_UNKNOWN), .val (.ref w_UNKNOWN)] [(.int (1 : Int32))])) _
          refine XS.aloadN X51.here hx rfl (hb hby at_29) rfl rfl ?_
          show Steps p.tables e below (T51.setTop (mkF m 30 #[.val (.int p0), .val (.int p1), .val (.ref w_TRUE), .val (.ref w_UNKNOWN), .val (.ref w_UNKNOWN)] [(.ref w_TRUE), (.int (1 : Int32))])) _
          refine st52 _ ?_
          show Steps p.tables e below (T52.setTop (mkF m 33 #[.val (.int p0), .val (.int p1), .val (.ref w_TRUE), .val (.ref w_UNKNOWN), .val (.ref w_UNKNOWN)] [(.int (2 : Int32)), (.int (1 : Int32))])) _
          refine XS.aloadN X52.here hx rfl (hb hby at_33) rfl rfl ?_
          show Steps p.tables e below (T52.setTop (mkF m 34 #[.val (.int p0), .val (.int p1), .val (.ref w_TRUE), .val (.ref w_UNKNOWN), .val (.ref w_UNKNOWN)] [(.ref w_UNKNOWN), (.int (2 : Int32)), (.int (1 : Int32))])) _
          refine st53 _ ?_
          show Steps p.tables e below (T53.setTop (mkF m 37 #[.val (.int p0), .val (.int p1), .val (.ref w_TRUE), .val (.ref w_UNKNOWN), .val (.ref w_UNKNOWN)] [(.int (1 : Int32)), (.int (2 : Int32)), (.int (1 : Int32))])) _
          refine st54 _ ?_
          show Steps p.tables e below (T54.setTop (mkF m 40 #[.val (.int p0), .val (.int p1), .val (.ref w_TRUE), .val (.ref w_UNKNOWN), .val (.ref w_UNKNOWN)] [(.int (1 : Int32)), (.int (1 : Int32))])) _
          refine XS.icmpNo X54.here hx rfl (hb hby at_40) rfl (teq (by decide : (1 : Int32) = (1 : Int32))).2 ?_
          show Steps p.tables e below (T54.setTop (mkF m 43 #[.val (.int p0), .val (.int p1), .val (.ref w_TRUE), .val (.ref w_UNKNOWN), .val (.ref w_UNKNOWN)] [])) _
          refine XS.iconst X54.here hx rfl (hb hby at_43) ?_
          show Steps p.tables e below (T54.setTop (mkF m 44 #[.val (.int p0), .val (.int p1), .val (.ref w_TRUE), .val (.ref w_UNKNOWN), .val (.ref w_UNKNOWN)] [(.int (1 : Int32))])) _
          refine XS.goto X54.here hx rfl (pc0 := 44) (pc' := 48) rfl (hb hby at_44) (by decide) (by decide) ?_
          show Steps p.tables e below (T54.setTop (mkF m 48 #[.val (.int p0), .val (.int p1), .val (.ref w_TRUE), .val (.ref w_UNKNOWN), .val (.ref w_UNKNOWN)] [(.int (1 : Int32))])) _
          exact retN X54 hx (t := .boolean) Bd.returns (by simp) (hb hby at_48) hr
        · show Q_law Z p0 p1 w_TRUE w_FALSE w_UNKNOWN h0 n0 _ T54.heap _
          refine ⟨?_, N54, trivial⟩
          rw [F_law, if_pos hs_35, if_neg hs_38, if_neg hs_44]
  · by_cases hs_55 : ((p0 &&& (2147483647 : Int32)) % (3 : Int32)) = (1 : Int32)
    · have q33 : (F_pick p0 w_TRUE w_FALSE w_UNKNOWN) = w_FALSE := by rw [F_pick, if_neg hs_35, if_pos hs_55]
      rw [q33] at st33
      obtain ⟨_, _, ⟨T56, L56, k56, n56⟩, -, X56, ⟨Lc56, hQ56, l56, y56, z56⟩, st56⟩ := Jvm.LawKit.callS X33 hx (y := (⟨"com/example/gard/gard/core/TruthAndPinLaw", "pick", "(I)Lcom/example/gard/gard/core/Truth;"⟩ : MethodName)) hown (mvT hZ (hw _ (List.mem_of_getElem? (i := 0) rfl))) (mvT hZ (hw _ (List.mem_of_getElem? (i := 1) rfl))) (mvT hZ (hw _ (List.mem_of_getElem? (i := 2) rfl))) (mvT hZ (hw _ (List.mem_of_getElem? (i := 3) rfl))) (by decide) (backOf (W := 0) (rm_pick l Z a0' hw [] p1 w_TRUE w_FALSE w_UNKNOWN h0 n0 Z0 S_TRUE S_FALSE S_UNKNOWN) hZ (hw _ (List.mem_of_getElem? (i := 3) rfl)) (hw _ (List.mem_of_getElem? (i := 2) rfl)) (by decide) (by decide)) (g := (mkF m 6 #[.val (.int p0), .val (.int p1), .val (.ref w_FALSE), .unset, .unset] [(.int p1)])) rfl (by rw [hml]; rfl) (argsL := [(.int p1)]) (rest := []) (lenOf own_pd0 rfl) rfl (by show 2 * 0 + _ ≤ _; exact Nat.le_of_eq rfl) (hb hby at_6) (fun _ _ => ⟨rfl, e33, (by decide : 0 + 0 ≤ _), (by decide : 0 + 0 ≤ _)⟩)
      dsimp only [Pt.U, Pt.locs, Pt.cells, Pt.slots] at X56 l56 y56 z56 st56 hQ56
      subst l56 y56 z56
      obtain ⟨rfl, N56q, e56⟩ := hQ56
      have N56 := Fr.app N33 N56q
      have pre57 : ∀ t, Steps p.tables e below (T33.setTop (mkF m 6 #[.val (.int p0), .val (.int p1), .val (.ref w_FALSE), .unset, .unset] [(.int p1)])) t → Steps p.tables e below (s₁.setTop (entryFrame m #[(.int p0), (.int p1)] maxLocals)) t := fun t k => pre34 t (by
        show Steps p.tables e below (s₁.setTop (mkF m 1 #[.val (.int p0), .val (.int p1), .unset, .unset, .unset] [(.int p0)])) _
        refine st33 _ ?_
        show Steps p.tables e below (T33.setTop (mkF m 4 #[.val (.int p0), .val (.int p1), .unset, .unset, .unset] [(.ref w_FALSE)])) _
        refine XS.astoreN X33.here hx rfl (hb hby at_4) rfl rfl (l' := #[.val (.int p0), .val (.int p1), .val (.ref w_FALSE), .unset, .unset]) rfl ?_
        show Steps p.tables e below (T33.setTop (mkF m 5 #[.val (.int p0), .val (.int p1), .val (.ref w_FALSE), .unset, .unset] [])) _
        refine XS.iloadN X33.here hx rfl (hb hby at_5) rfl ?_
        exact k)
      by_cases hs_58 : ((p1 &&& (2147483647 : Int32)) % (3 : Int32)) = (0 : Int32)
      · have q56 : (F_pick p1 w_TRUE w_FALSE w_UNKNOWN) = w_TRUE := by rw [F_pick, if_pos hs_58]
        rw [q56] at st56
        obtain ⟨cq59, kq59, q59a, q59b, q59c⟩ := isOf hZ e56 E_FALSE
        obtain ⟨_, _, ⟨T59, L59, k59, n59⟩, -, X59, ⟨Lc59, hQ59, l59, y59, z59⟩, st59⟩ := X56.virtualBack hx (y := (⟨"com/example/gard/gard/core/Truth", "and", "(Lcom/example/gard/gard/core/Truth;)Lcom/example/gard/gard/core/Truth;"⟩ : MethodName)) (z := (⟨"com/example/gard/gard/core/Truth", "and", "(Lcom/example/gard/gard/core/Truth;)Lcom/example/gard/gard/core/Truth;"⟩ : MethodName)) hown (mvT hZ (hw _ (List.mem_of_getElem? (i := 8) rfl))) (mvT hZ (hw _ (List.mem_of_getElem? (i := 9) rfl))) (notFace_of_selects (args := #[]) (mvT hZ (hw _ (List.mem_of_getElem? (i := 11) rfl)))) (mvT hZ (hw _ (List.mem_of_getElem? (i := 11) rfl))) (mvT hZ (hw _ (List.mem_of_getElem? (i := 10) rfl))) (by decide) (backOf (W := 0) (rm_conj l Z a0' hw [] w_FALSE w_TRUE w_TRUE w_FALSE w_UNKNOWN h0 n0 Z0 S_TRUE S_FALSE S_UNKNOWN) hZ (hw _ (List.mem_of_getElem? (i := 12) rfl)) (hw _ (List.mem_of_getElem? (i := 6) rfl)) (by decide) (by decide)) q59a q59c (g := (mkF m 12 #[.val (.int p0), .val (.int p1), .val (.ref w_FALSE), .val (.ref w_TRUE), .unset] [(.ref w_TRUE), (.ref w_FALSE)])) rfl (by rw [hml]; rfl) (Steps.refl _) (argsL := [(.ref w_TRUE)]) (rest := []) (lenOf own_pd1 rfl) rfl (by show 2 * 0 + _ ≤ _; exact Nat.le_of_eq rfl) (hb hby at_12) (fun _ _ => ⟨rfl, e56, (by decide : 0 + 0 ≤ _), (by decide : 0 + 0 ≤ _)⟩)
        dsimp only [Pt.U, Pt.locs, Pt.cells, Pt.slots] at X59 l59 y59 z59 st59 hQ59
        subst l59 y59 z59
        obtain ⟨rfl, N59q, e59⟩ := hQ59
        have N59 := Fr.app N56 N59q
        have q59 : (F_conj w_FALSE w_TRUE w_TRUE w_FALSE w_UNKNOWN) = w_FALSE := by rw [F_conj, if_pos (rfl : w_FALSE = w_FALSE)]
        rw [q59] at st59
        obtain ⟨_, _, ⟨T60, L60, k60, n60⟩, -, X60, ⟨Lc60, hQ60, l60, y60, z60⟩, st60⟩ := Jvm.LawKit.callS X59 hx (y := (⟨"com/example/gard/gard/core/TruthAndPinLaw", "rank", "(Lcom/example/gard/gard/core/Truth;)I"⟩ : MethodName)) hown (mvT hZ (hw _ (List.mem_of_getElem? (i := 16) rfl))) (mvT hZ (hw _ (List.mem_of_getElem? (i := 17) rfl))) (mvT hZ (hw _ (List.mem_of_getElem? (i := 2) rfl))) (mvT hZ (hw _ (List.mem_of_getElem? (i := 18) rfl))) (by decide) (backOf (W := 0) (rm_rank l Z a0' hw [] w_FALSE w_TRUE w_UNKNOWN h0 n0 Z0 S_TRUE S_UNKNOWN) hZ (hw _ (List.mem_of_getElem? (i := 18) rfl)) (hw _ (List.mem_of_getElem? (i := 2) rfl)) (by decide) (by decide)) (g := (mkF m 26 #[.val (.int p0), .val (.int p1), .val (.ref w_FALSE), .val (.ref w_TRUE), .val (.ref w_FALSE)] [(.ref w_FALSE)])) rfl (by rw [hml]; rfl) (argsL := [(.ref w_FALSE)]) (rest := []) (lenOf own_pd2 rfl) rfl (by show 2 * 0 + _ ≤ _; exact Nat.le_of_eq rfl) (hb hby at_26) (fun _ _ => ⟨rfl, e59, (by decide : 0 + 0 ≤ _), (by decide : 0 + 0 ≤ _)⟩)
        dsimp only [Pt.U, Pt.locs, Pt.cells, Pt.slots] at X60 l60 y60 z60 st60 hQ60
        subst l60 y60 z60
        obtain ⟨rfl, N60q, e60⟩ := hQ60
        have N60 := Fr.app N59 N60q
        have q60 : (F_rank w_FALSE w_TRUE w_UNKNOWN) = (0 : Int32) := by rw [F_rank, if_neg ne_FALSE_TRUE, if_neg ne_FALSE_UNKNOWN]
        rw [q60] at st60
        obtain ⟨_, _, ⟨T61, L61, k61, n61⟩, -, X61, ⟨Lc61, hQ61, l61, y61, z61⟩, st61⟩ := Jvm.LawKit.callS X60 hx (y := (⟨"com/example/gard/gard/core/TruthAndPinLaw", "rank", "(Lcom/example/gard/gard/core/Truth;)I"⟩ : MethodName)) hown (mvT hZ (hw _ (List.mem_of_getElem? (i := 16) rfl))) (mvT hZ (hw _ (List.mem_of_getElem? (i := 17) rfl))) (mvT hZ (hw _ (List.mem_of_getElem? (i := 2) rfl))) (mvT hZ (hw _ (List.mem_of_getElem? (i := 18) rfl))) (by decide) (backOf (W := 1) (rm_rank l Z a0' hw [] w_FALSE w_TRUE w_UNKNOWN h0 n0 Z0 S_TRUE S_UNKNOWN) hZ (hw _ (List.mem_of_getElem? (i := 18) rfl)) (hw _ (List.mem_of_getElem? (i := 2) rfl)) (by decide) (by decide)) (g := (mkF m 30 #[.val (.int p0), .val (.int p1), .val (.ref w_FALSE), .val (.ref w_TRUE), .val (.ref w_FALSE)] [(.ref w_FALSE), (.int (0 : Int32))])) rfl (by rw [hml]; rfl) (argsL := [(.ref w_FALSE)]) (rest := [(.int (0 : Int32))]) (lenOf own_pd2 rfl) rfl (by show 2 * 0 + _ ≤ _; exact Nat.le_of_eq rfl) (hb hby at_30) (fun _ _ => ⟨rfl, e60, (by decide : 0 + 0 ≤ _), (by decide : 0 + 0 ≤ _)⟩)
        dsimp only [Pt.U, Pt.locs, Pt.cells, Pt.slots] at X61 l61 y61 z61 st61 hQ61
        subst l61 y61 z61
        obtain ⟨rfl, N61q, e61⟩ := hQ61
        have N61 := Fr.app N60 N61q
        have q61 : (F_rank w_FALSE w_TRUE w_UNKNOWN) = (0 : Int32) := by rw [F_rank, if_neg ne_FALSE_TRUE, if_neg ne_FALSE_UNKNOWN]
        rw [q61] at st61
        obtain ⟨_, _, ⟨T62, L62, k62, n62⟩, -, X62, ⟨Lc62, hQ62, l62, y62, z62⟩, st62⟩ := Jvm.LawKit.callS X61 hx (y := (⟨"com/example/gard/gard/core/TruthAndPinLaw", "rank", "(Lcom/example/gard/gard/core/Truth;)I"⟩ : MethodName)) hown (mvT hZ (hw _ (List.mem_of_getElem? (i := 16) rfl))) (mvT hZ (hw _ (List.mem_of_getElem? (i := 17) rfl))) (mvT hZ (hw _ (List.mem_of_getElem? (i := 2) rfl))) (mvT hZ (hw _ (List.mem_of_getElem? (i := 18) rfl))) (by decide) (backOf (W := 2) (rm_rank l Z a0' hw [] w_TRUE w_TRUE w_UNKNOWN h0 n0 Z0 S_TRUE S_UNKNOWN) hZ (hw _ (List.mem_of_getElem? (i := 18) rfl)) (hw _ (List.mem_of_getElem? (i := 2) rfl)) (by decide) (by decide)) (g := (mkF m 34 #[.val (.int p0), .val (.int p1), .val (.ref w_FALSE), .val (.ref w_TRUE), .val (.ref w_FALSE)] [(.ref w_TRUE), (.int (0 : Int32)), (.int (0 : Int32))])) rfl (by rw [hml]; rfl) (argsL := [(.ref w_TRUE)]) (rest := [(.int (0 : Int32)), (.int (0 : Int32))]) (lenOf own_pd2 rfl) rfl (by show 2 * 0 + _ ≤ _; exact Nat.le_of_eq rfl) (hb hby at_34) (fun _ _ => ⟨rfl, e61, (by decide : 0 + 0 ≤ _), (by decide : 0 + 0 ≤ _)⟩)
        dsimp only [Pt.U, Pt.locs, Pt.cells, Pt.slots] at X62 l62 y62 z62 st62 hQ62
        subst l62 y62 z62
        obtain ⟨rfl, N62q, e62⟩ := hQ62
        have N62 := Fr.app N61 N62q
        have q62 : (F_rank w_TRUE w_TRUE w_UNKNOWN) = (2 : Int32) := by rw [F_rank, if_pos (rfl : w_TRUE = w_TRUE)]
        rw [q62] at st62
        obtain ⟨_, _, ⟨T63, L63, k63, n63⟩, -, X63, ⟨Lc63, hQ63, l63, y63, z63⟩, st63⟩ := Jvm.LawKit.callS X62 hx (y := (⟨"java/lang/Math", "min", "(II)I"⟩ : MethodName)) hown (mvT hZ (hw _ (List.mem_of_getElem? (i := 19) rfl))) (mvT hZ (hw _ (List.mem_of_getElem? (i := 20) rfl))) (mvT hZ (hw _ (List.mem_of_getElem? (i := 21) rfl))) (mvT hZ (hw _ (List.mem_of_getElem? (i := 22) rfl))) (by decide) (backOf (W := 1) (rm_min l Z a0' hw [] (0 : Int32) (2 : Int32) h0 n0 Z0) hZ (hw _ (List.mem_of_getElem? (i := 22) rfl)) (hw _ (List.mem_of_getElem? (i := 21) rfl)) (by decide) (by decide)) (g := (mkF m 37 #[.val (.int p0), .val (.int p1), .val (.ref w_FALSE), .val (.ref w_TRUE), .val (.ref w_FALSE)] [(.int (2 : Int32)), (.int (0 : Int32)), (.int (0 : Int32))])) rfl (by rw [hml]; rfl) (argsL := [(.int (0 : Int32)), (.int (2 : Int32))]) (rest := [(.int (0 : Int32))]) (lenOf own_pd3 rfl) rfl (by show 2 * 0 + _ ≤ _; exact Nat.le_of_eq rfl) (hb hby at_37) (fun _ _ => ⟨rfl, e62, (by decide : 0 + 0 ≤ _), (by decide : 0 + 0 ≤ _)⟩)
        dsimp only [Pt.U, Pt.locs, Pt.cells, Pt.slots] at X63 l63 y63 z63 st63 hQ63
        subst l63 y63 z63
        obtain ⟨rfl, N63q, e63⟩ := hQ63
        have N63 := Fr.app N62 N63q
        have q63 : (F_min (0 : Int32) (2 : Int32)) = (0 : Int32) := by rw [F_min, if_neg (by decide : ¬ ((2 : Int32) < (0 : Int32)))]
        rw [q63] at st63
        obtain ⟨fs, hr, hrun, hended, hW, hsame⟩ := X63.leave (v := some (.int (1 : Int32))) (fun h => by rw [Bd.returns] at h; cases h)
        refine ⟨_, _, pre57 _ ?_, hrun, hended, _, _, rfl, ?_, ⟨_, rfl⟩, hW, hsame.mono (by decide) (by decide)⟩
        · show Steps p.tables e below (T33.setTop (mkF m 6 #[.val (.int p0), .val (.int p1), .val (.ref w_FALSE), .unset, .unset] [(.int p1)])) _
          refine st56 _ ?_
          show Steps p.tables e below (T56.setTop (mkF m 9 #[.val (.int p0), .val (.int p1), .val (.ref w_FALSE), .unset, .unset] [(.ref w_TRUE)])) _
          refine XS.astoreN X56.here hx rfl (hb hby at_9) rfl rfl (l' := #[.val (.int p0), .val (.int p1), .val (.ref w_FALSE), .val (.ref w_TRUE), .unset]) rfl ?_
          show Steps p.tables e below (T56.setTop (mkF m 10 #[.val (.int p0), .val (.int p1), .val (.ref w_FALSE), .val (.ref w_TRUE), .unset] [])) _
          refine XS.aloadN X56.here hx rfl (hb hby at_10) rfl rfl ?_
          show Steps p.tables e below (T56.setTop (mkF m 11 #[.val (.int p0), .val (.int p1), .val (.ref w_FALSE), .val (.ref w_TRUE), .unset] [(.ref w_FALSE)])) _
          refine XS.aloadN X56.here hx rfl (hb hby at_11) rfl rfl ?_
          show Steps p.tables e below (T56.setTop (mkF m 12 #[.val (.int p0), .val (.int p1), .val (.ref w_FALSE), .val (.ref w_TRUE), .unset] [(.ref w_TRUE), (.ref w_FALSE)])) _
          refine st59.trans ?_
          show Steps p.tables e below (T59.setTop (mkF m 15 #[.val (.int p0), .val (.int p1), .val (.ref w_FALSE), .val (.ref w_TRUE), .unset] [(.ref w_FALSE)])) _
          refine XS.astore X59.here hx rfl (hb hby at_15) rfl rfl (l' := #[.val (.int p0), .val (.int p1), .val (.ref w_FALSE), .val (.ref w_TRUE), .val (.ref w_FALSE)]) rfl ?_
          show Steps p.tables e below (T59.setTop (mkF m 17 #[.val (.int p0), .val (.int p1), .val (.ref w_FALSE), .val (.ref w_TRUE), .val (.ref w_FALSE)] [])) _
          refine XS.aload X59.here hx rfl (hb hby at_17) rfl rfl ?_
          show Steps p.tables e below (T59.setTop (mkF m 19 #[.val (.int p0), .val (.int p1), .val (.ref w_FALSE), .val (.ref w_TRUE), .val (.ref w_FALSE)] [(.ref w_FALSE)])) _
          refine XS.ifnonnullYes X59.here hx rfl (pc0 := 19) (pc' := 24) rfl (hb hby at_19) rfl (by decide) (by decide) ?_
          show Steps p.tables e below (T59.setTop (mkF m 24 #[.val (.int p0), .val (.int p1), .val (.ref w_FALSE), .val (.ref w_TRUE), .val (.ref w_FALSE)] [])) _
          refine XS.aload X59.here hx rfl (hb hby at_24) rfl rfl ?_
          show Steps p.tables e below (T59.setTop (mkF m 26 #[.val (.int p0), .val (.int p1), .val (.ref w_FALSE), .val (.ref w_TRUE), .val (.ref w_FALSE)] [(.ref w_FALSE)])) _
          refine st60 _ ?_
          show Steps p.tables e below (T60.setTop (mkF m 29 #[.val (.int p0), .val (.int p1), .val (.ref w_FALSE), .val (.ref w_TRUE), .val (.ref w_FALSE)] [(.int (0 : Int32))])) _
          refine XS.aloadN X60.here hx rfl (hb hby at_29) rfl rfl ?_
          show Steps p.tables e below (T60.setTop (mkF m 30 #[.val (.int p0), .val (.int p1), .val (.ref w_FALSE), .val (.ref w_TRUE), .val (.ref w_FALSE)] [(.ref w_FALSE), (.int (0 : Int32))])) _
          refine st61 _ ?_
          show Steps p.tables e below (T61.setTop (mkF m 33 #[.val (.int p0), .val (.int p1), .val (.ref w_FALSE), .val (.ref w_TRUE), .val (.ref w_FALSE)] [(.int (0 : Int32)), (.int (0 : Int32))])) _
          refine XS.aloadN X61.here hx rfl (hb hby at_33) rfl rfl ?_
          show Steps p.tables e below (T61.setTop (mkF m 34 #[.val (.int p0), .val (.int p1), .val (.ref w_FALSE), .val (.ref w_TRUE), .val (.ref w_FALSE)] [(.ref w_TRUE), (.int (0 : Int32)), (.int (0 : Int32))])) _
          refine st62 _ ?_
          show Steps p.tables e below (T62.setTop (mkF m 37 #[.val (.int p0), .val (.int p1), .val (.ref w_FALSE), .val (.ref w_TRUE), .val (.ref w_FALSE)] [(.int (2 : Int32)), (.int (0 : Int32)), (.int (0 : Int32))])) _
          refine st63 _ ?_
          show Steps p.tables e below (T63.setTop (mkF m 40 #[.val (.int p0), .val (.int p1), .val (.ref w_FALSE), .val (.ref w_TRUE), .val (.ref w_FALSE)] [(.int (0 : Int32)), (.int (0 : Int32))])) _
          refine XS.icmpNo X63.here hx rfl (hb hby at_40) rfl (teq (by decide : (0 : Int32) = (0 : Int32))).2 ?_
          show Steps p.tables e below (T63.setTop (mkF m 43 #[.val (.int p0), .val (.int p1), .val (.ref w_FALSE), .val (.ref w_TRUE), .val (.ref w_FALSE)] [])) _
          refine XS.iconst X63.here hx rfl (hb hby at_43) ?_
          show Steps p.tables e below (T63.setTop (mkF m 44 #[.val (.int p0), .val (.int p1), .val (.ref w_FALSE), .val (.ref w_TRUE), .val (.ref w_FALSE)] [(.int (1 : Int32))])) _
          refine XS.goto X63.here hx rfl (pc0 := 44) (pc' := 48) rfl (hb hby at_44) (by decide) (by decide) ?_
          show Steps p.tables e below (T63.setTop (mkF m 48 #[.val (.int p0), .val (.int p1), .val (.ref w_FALSE), .val (.ref w_TRUE), .val (.ref w_FALSE)] [(.int (1 : Int32))])) _
          exact retN X63 hx (t := .boolean) Bd.returns (by simp) (hb hby at_48) hr
        · show Q_law Z p0 p1 w_TRUE w_FALSE w_UNKNOWN h0 n0 _ T63.heap _
          refine ⟨?_, N63, trivial⟩
          rw [F_law, if_neg hs_35, if_pos hs_55, if_pos hs_58]
      · by_cases hs_64 : ((p1 &&& (2147483647 : Int32)) % (3 : Int32)) = (1 : Int32)
        · have q56 : (F_pick p1 w_TRUE w_FALSE w_UNKNOWN) = w_FALSE := by rw [F_pick, if_neg hs_58, if_pos hs_64]
          rw [q56] at st56
          obtain ⟨cq65, kq65, q65a, q65b, q65c⟩ := isOf hZ e56 E_FALSE
          obtain ⟨_, _, ⟨T65, L65, k65, n65⟩, -, X65, ⟨Lc65, hQ65, l65, y65, z65⟩, st65⟩ := X56.virtualBack hx (y := (⟨"com/example/gard/gard/core/Truth", "and", "(Lcom/example/gard/gard/core/Truth;)Lcom/example/gard/gard/core/Truth;"⟩ : MethodName)) (z := (⟨"com/example/gard/gard/core/Truth", "and", "(Lcom/example/gard/gard/core/Truth;)Lcom/example/gard/gard/core/Truth;"⟩ : MethodName)) hown (mvT hZ (hw _ (List.mem_of_getElem? (i := 8) rfl))) (mvT hZ (hw _ (List.mem_of_getElem? (i := 9) rfl))) (notFace_of_selects (args := #[]) (mvT hZ (hw _ (List.mem_of_getElem? (i := 11) rfl)))) (mvT hZ (hw _ (List.mem_of_getElem? (i := 11) rfl))) (mvT hZ (hw _ (List.mem_of_getElem? (i := 10) rfl))) (by decide) (backOf (W := 0) (rm_conj l Z a0' hw [] w_FALSE w_FALSE w_TRUE w_FALSE w_UNKNOWN h0 n0 Z0 S_TRUE S_FALSE S_UNKNOWN) hZ (hw _ (List.mem_of_getElem? (i := 12) rfl)) (hw _ (List.mem_of_getElem? (i := 6) rfl)) (by decide) (by decide)) q65a q65c (g := (mkF m 12 #[.val (.int p0), .val (.int p1), .val (.ref w_FALSE), .val (.ref w_FALSE), .unset] [(.ref w_FALSE), (.ref w_FALSE)])) rfl (by rw [hml]; rfl) (Steps.refl _) (argsL := [(.ref w_FALSE)]) (rest := []) (lenOf own_pd1 rfl) rfl (by show 2 * 0 + _ ≤ _; exact Nat.le_of_eq rfl) (hb hby at_12) (fun _ _ => ⟨rfl, e56, (by decide : 0 + 0 ≤ _), (by decide : 0 + 0 ≤ _)⟩)
          dsimp only [Pt.U, Pt.locs, Pt.cells, Pt.slots] at X65 l65 y65 z65 st65 hQ65
          subst l65 y65 z65
          obtain ⟨rfl, N65q, e65⟩ := hQ65
          have N65 := Fr.app N56 N65q
          have q65 : (F_conj w_FALSE w_FALSE w_TRUE w_FALSE w_UNKNOWN) = w_FALSE := by rw [F_conj, if_pos (rfl : w_FALSE = w_FALSE)]
          rw [q65] at st65
          obtain ⟨_, _, ⟨T66, L66, k66, n66⟩, -, X66, ⟨Lc66, hQ66, l66, y66, z66⟩, st66⟩ := Jvm.LawKit.callS X65 hx (y := (⟨"com/example/gard/gard/core/TruthAndPinLaw", "rank", "(Lcom/example/gard/gard/core/Truth;)I"⟩ : MethodName)) hown (mvT hZ (hw _ (List.mem_of_getElem? (i := 16) rfl))) (mvT hZ (hw _ (List.mem_of_getElem? (i := 17) rfl))) (mvT hZ (hw _ (List.mem_of_getElem? (i := 2) rfl))) (mvT hZ (hw _ (List.mem_of_getElem? (i := 18) rfl))) (by decide) (backOf (W := 0) (rm_rank l Z a0' hw [] w_FALSE w_TRUE w_UNKNOWN h0 n0 Z0 S_TRUE S_UNKNOWN) hZ (hw _ (List.mem_of_getElem? (i := 18) rfl)) (hw _ (List.mem_of_getElem? (i := 2) rfl)) (by decide) (by decide)) (g := (mkF m 26 #[.val (.int p0), .val (.int p1), .val (.ref w_FALSE), .val (.ref w_FALSE), .val (.ref w_FALSE)] [(.ref w_FALSE)])) rfl (by rw [hml]; rfl) (argsL := [(.ref w_FALSE)]) (rest := []) (lenOf own_pd2 rfl) rfl (by show 2 * 0 + _ ≤ _; exact Nat.le_of_eq rfl) (hb hby at_26) (fun _ _ => ⟨rfl, e65, (by decide : 0 + 0 ≤ _), (by decide : 0 + 0 ≤ _)⟩)
          dsimp only [Pt.U, Pt.locs, Pt.cells, Pt.slots] at X66 l66 y66 z66 st66 hQ66
          subst l66 y66 z66
          obtain ⟨rfl, N66q, e66⟩ := hQ66
          have N66 := Fr.app N65 N66q
          have q66 : (F_rank w_FALSE w_TRUE w_UNKNOWN) = (0 : Int32) := by rw [F_rank, if_neg ne_FALSE_TRUE, if_neg ne_FALSE_UNKNOWN]
          rw [q66] at st66
          obtain ⟨_, _, ⟨T67, L67, k67, n67⟩, -, X67, ⟨Lc67, hQ67, l67, y67, z67⟩, st67⟩ := Jvm.LawKit.callS X66 hx (y := (⟨"com/example/gard/gard/core/TruthAndPinLaw", "rank", "(Lcom/example/gard/gard/core/Truth;)I"⟩ : MethodName)) hown (mvT hZ (hw _ (List.mem_of_getElem? (i := 16) rfl))) (mvT hZ (hw _ (List.mem_of_getElem? (i := 17) rfl))) (mvT hZ (hw _ (List.mem_of_getElem? (i := 2) rfl))) (mvT hZ (hw _ (List.mem_of_getElem? (i := 18) rfl))) (by decide) (backOf (W := 1) (rm_rank l Z a0' hw [] w_FALSE w_TRUE w_UNKNOWN h0 n0 Z0 S_TRUE S_UNKNOWN) hZ (hw _ (List.mem_of_getElem? (i := 18) rfl)) (hw _ (List.mem_of_getElem? (i := 2) rfl)) (by decide) (by decide)) (g := (mkF m 30 #[.val (.int p0), .val (.int p1), .val (.ref w_FALSE), .val (.ref w_FALSE), .val (.ref w_FALSE)] [(.ref w_FALSE), (.int (0 : Int32))])) rfl (by rw [hml]; rfl) (argsL := [(.ref w_FALSE)]) (rest := [(.int (0 : Int32))]) (lenOf own_pd2 rfl) rfl (by show 2 * 0 + _ ≤ _; exact Nat.le_of_eq rfl) (hb hby at_30) (fun _ _ => ⟨rfl, e66, (by decide : 0 + 0 ≤ _), (by decide : 0 + 0 ≤ _)⟩)
          dsimp only [Pt.U, Pt.locs, Pt.cells, Pt.slots] at X67 l67 y67 z67 st67 hQ67
          subst l67 y67 z67
          obtain ⟨rfl, N67q, e67⟩ := hQ67
          have N67 := Fr.app N66 N67q
          have q67 : (F_rank w_FALSE w_TRUE w_UNKNOWN) = (0 : Int32) := by rw [F_rank, if_neg ne_FALSE_TRUE, if_neg ne_FALSE_UNKNOWN]
          rw [q67] at st67
          obtain ⟨_, _, ⟨T68, L68, k68, n68⟩, -, X68, ⟨Lc68, hQ68, l68, y68, z68⟩, st68⟩ := Jvm.LawKit.callS X67 hx (y := (⟨"com/example/gard/gard/core/TruthAndPinLaw", "rank", "(Lcom/example/gard/gard/core/Truth;)I"⟩ : MethodName)) hown (mvT hZ (hw _ (List.mem_of_getElem? (i := 16) rfl))) (mvT hZ (hw _ (List.mem_of_getElem? (i := 17) rfl))) (mvT hZ (hw _ (List.mem_of_getElem? (i := 2) rfl))) (mvT hZ (hw _ (List.mem_of_getElem? (i := 18) rfl))) (by decide) (backOf (W := 2) (rm_rank l Z a0' hw [] w_FALSE w_TRUE w_UNKNOWN h0 n0 Z0 S_TRUE S_UNKNOWN) hZ (hw _ (List.mem_of_getElem? (i := 18) rfl)) (hw _ (List.mem_of_getElem? (i := 2) rfl)) (by decide) (by decide)) (g := (mkF m 34 #[.val (.int p0), .val (.int p1), .val (.ref w_FALSE), .val (.ref w_FALSE), .val (.ref w_FALSE)] [(.ref w_FALSE), (.int (0 : Int32)), (.int (0 : Int32))])) rfl (by rw [hml]; rfl) (argsL := [(.ref w_FALSE)]) (rest := [(.int (0 : Int32)), (.int (0 : Int32))]) (lenOf own_pd2 rfl) rfl (by show 2 * 0 + _ ≤ _; exact Nat.le_of_eq rfl) (hb hby at_34) (fun _ _ => ⟨rfl, e67, (by decide : 0 + 0 ≤ _), (by decide : 0 + 0 ≤ _)⟩)
          dsimp only [Pt.U, Pt.locs, Pt.cells, Pt.slots] at X68 l68 y68 z68 st68 hQ68
          subst l68 y68 z68
          obtain ⟨rfl, N68q, e68⟩ := hQ68
          have N68 := Fr.app N67 N68q
          have q68 : (F_rank w_FALSE w_TRUE w_UNKNOWN) = (0 : Int32) := by rw [F_rank, if_neg ne_FALSE_TRUE, if_neg ne_FALSE_UNKNOWN]
          rw [q68] at st68
          obtain ⟨_, _, ⟨T69, L69, k69, n69⟩, -, X69, ⟨Lc69, hQ69, l69, y69, z69⟩, st69⟩ := Jvm.LawKit.callS X68 hx (y := (⟨"java/lang/Math", "min", "(II)I"⟩ : MethodName)) hown (mvT hZ (hw _ (List.mem_of_getElem? (i := 19) rfl))) (mvT hZ (hw _ (List.mem_of_getElem? (i := 20) rfl))) (mvT hZ (hw _ (List.mem_of_getElem? (i := 21) rfl))) (mvT hZ (hw _ (List.mem_of_getElem? (i := 22) rfl))) (by decide) (backOf (W := 1) (rm_min l Z a0' hw [] (0 : Int32) (0 : Int32) h0 n0 Z0) hZ (hw _ (List.mem_of_getElem? (i := 22) rfl)) (hw _ (List.mem_of_getElem? (i := 21) rfl)) (by decide) (by decide)) (g := (mkF m 37 #[.val (.int p0), .val (.int p1), .val (.ref w_FALSE), .val (.ref w_FALSE), .val (.ref w_FALSE)] [(.int (0 : Int32)), (.int (0 : Int32)), (.int (0 : Int32))])) rfl (by rw [hml]; rfl) (argsL := [(.int (0 : Int32)), (.int (0 : Int32))]) (rest := [(.int (0 : Int32))]) (lenOf own_pd3 rfl) rfl (by show 2 * 0 + _ ≤ _; exact Nat.le_of_eq rfl) (hb hby at_37) (fun _ _ => ⟨rfl, e68, (by decide : 0 + 0 ≤ _), (by decide : 0 + 0 ≤ _)⟩)
          dsimp only [Pt.U, Pt.locs, Pt.cells, Pt.slots] at X69 l69 y69 z69 st69 hQ69
          subst l69 y69 z69
          obtain ⟨rfl, N69q, e69⟩ := hQ69
          have N69 := Fr.app N68 N69q
          have q69 : (F_min (0 : Int32) (0 : Int32)) = (0 : Int32) := by rw [F_min, if_neg (by decide : ¬ ((0 : Int32) < (0 : Int32)))]
          rw [q69] at st69
          obtain ⟨fs, hr, hrun, hended, hW, hsame⟩ := X69.leave (v := some (.int (1 : Int32))) (fun h => by rw [Bd.returns] at h; cases h)
          refine ⟨_, _, pre57 _ ?_, hrun, hended, _, _, rfl, ?_, ⟨_, rfl⟩, hW, hsame.mono (by decide) (by decide)⟩
          · show Steps p.tables e below (T33.setTop (mkF m 6 #[.val (.int p0), .val (.int p1), .val (.ref w_FALSE), .unset, .unset] [(.int p1)])) _
            refine st56 _ ?_
            show Steps p.tables e below (T56.setTop (mkF m 9 #[.val (.int p0), .val (.int p1), .val (.ref w_FALSE), .unset, .unset] [(.ref w_FALSE)])) _
            refine XS.astoreN X56.here hx rfl (hb hby at_9) rfl rfl (l' := #[.val (.int p0), .val (.int p1), .val (.ref w_FALSE), .val (.ref w_FALSE), .unset]) rfl ?_
            show Steps p.tables e below (T56.setTop (mkF m 10 #[.val (.int p0), .val (.int p1), .val (.ref w_FALSE), .val (.ref w_FALSE), .unset] [])) _
            refine XS.aloadN X56.here hx rfl (hb hby at_10) rfl rfl ?_
            show Steps p.tables e below (T56.setTop (mkF m 11 #[.val (.int p0), .val (.int p1), .val (.ref w_FALSE), .val (.ref w_FALSE), .unset] [(.ref w_FALSE)])) _
            refine XS.aloadN X56.here hx rfl (hb hby at_11) rfl rfl ?_
            show Steps p.tables e below (T56.setTop (mkF m 12 #[.val (.int p0), .val (.int p1), .val (.ref w_FALSE), .val (.ref w_FALSE), .unset] [(.ref w_FALSE), (.ref w_FALSE)])) _
            refine st65.trans ?_
            show Steps p.tables e below (T65.setTop (mkF m 15 #[.val (.int p0), .val (.int p1), .val (.ref w_FALSE), .val (.ref w_FALSE), .unset] [(.ref w_FALSE)])) _
            refine XS.astore X65.here hx rfl (hb hby at_15) rfl rfl (l' := #[.val (.int p0), .val (.int p1), .val (.ref w_FALSE), .val (.ref w_FALSE), .val (.ref w_FALSE)]) rfl ?_
            show Steps p.tables e below (T65.setTop (mkF m 17 #[.val (.int p0), .val (.int p1), .val (.ref w_FALSE), .val (.ref w_FALSE), .val (.ref w_FALSE)] [])) _
            refine XS.aload X65.here hx rfl (hb hby at_17) rfl rfl ?_
            show Steps p.tables e below (T65.setTop (mkF m 19 #[.val (.int p0), .val (.int p1), .val (.ref w_FALSE), .val (.ref w_FALSE), .val (.ref w_FALSE)] [(.ref w_FALSE)])) _
            refine XS.ifnonnullYes X65.here hx rfl (pc0 := 19) (pc' := 24) rfl (hb hby at_19) rfl (by decide) (by decide) ?_
            show Steps p.tables e below (T65.setTop (mkF m 24 #[.val (.int p0), .val (.int p1), .val (.ref w_FALSE), .val (.ref w_FALSE), .val (.ref w_FALSE)] [])) _
            refine XS.aload X65.here hx rfl (hb hby at_24) rfl rfl ?_
            show Steps p.tables e below (T65.setTop (mkF m 26 #[.val (.int p0), .val (.int p1), .val (.ref w_FALSE), .val (.ref w_FALSE), .val (.ref w_FALSE)] [(.ref w_FALSE)])) _
            refine st66 _ ?_
            show Steps p.tables e below (T66.setTop (mkF m 29 #[.val (.int p0), .val (.int p1), .val (.ref w_FALSE), .val (.ref w_FALSE), .val (.ref w_FALSE)] [(.int (0 : Int32))])) _
            refine XS.aloadN X66.here hx rfl (hb hby at_29) rfl rfl ?_
            show Steps p.tables e below (T66.setTop (mkF m 30 #[.val (.int p0), .val (.int p1), .val (.ref w_FALSE), .val (.ref w_FALSE), .val (.ref w_FALSE)] [(.ref w_FALSE), (.int (0 : Int32))])) _
            refine st67 _ ?_
            show Steps p.tables e below (T67.setTop (mkF m 33 #[.val (.int p0), .val (.int p1), .val (.ref w_FALSE), .val (.ref w_FALSE), .val (.ref w_FALSE)] [(.int (0 : Int32)), (.int (0 : Int32))])) _
            refine XS.aloadN X67.here hx rfl (hb hby at_33) rfl rfl ?_
            show Steps p.tables e below (T67.setTop (mkF m 34 #[.val (.int p0), .val (.int p1), .val (.ref w_FALSE), .val (.ref w_FALSE), .val (.ref w_FALSE)] [(.ref w_FALSE), (.int (0 : Int32)), (.int (0 : Int32))])) _
            refine st68 _ ?_
            show Steps p.tables e below (T68.setTop (mkF m 37 #[.val (.int p0), .val (.int p1), .val (.ref w_FALSE), .val (.ref w_FALSE), .val (.ref w_FALSE)] [(.int (0 : Int32)), (.int (0 : Int32)), (.int (0 : Int32))])) _
            refine st69 _ ?_
            show Steps p.tables e below (T69.setTop (mkF m 40 #[.val (.int p0), .val (.int p1), .val (.ref w_FALSE), .val (.ref w_FALSE), .val (.ref w_FALSE)] [(.int (0 : Int32)), (.int (0 : Int32))])) _
            refine XS.icmpNo X69.here hx rfl (hb hby at_40) rfl (teq (by decide : (0 : Int32) = (0 : Int32))).2 ?_
            show Steps p.tables e below (T69.setTop (mkF m 43 #[.val (.int p0), .val (.int p1), .val (.ref w_FALSE), .val (.ref w_FALSE), .val (.ref w_FALSE)] [])) _
            refine XS.iconst X69.here hx rfl (hb hby at_43) ?_
            show Steps p.tables e below (T69.setTop (mkF m 44 #[.val (.int p0), .val (.int p1), .val (.ref w_FALSE), .val (.ref w_FALSE), .val (.ref w_FALSE)] [(.int (1 : Int32))])) _
            refine XS.goto X69.here hx rfl (pc0 := 44) (pc' := 48) rfl (hb hby at_44) (by decide) (by decide) ?_
            show Steps p.tables e below (T69.setTop (mkF m 48 #[.val (.int p0), .val (.int p1), .val (.ref w_FALSE), .val (.ref w_FALSE), .val (.ref w_FALSE)] [(.int (1 : Int32))])) _
            exact retN X69 hx (t := .boolean) Bd.returns (by simp) (hb hby at_48) hr
          · show Q_law Z p0 p1 w_TRUE w_FALSE w_UNKNOWN h0 n0 _ T69.heap _
            refine ⟨?_, N69, trivial⟩
            rw [F_law, if_neg hs_35, if_pos hs_55, if_neg hs_58, if_pos hs_64]
        · have q56 : (F_pick p1 w_TRUE w_FALSE w_UNKNOWN) = w_UNKNOWN := by rw [F_pick, if_neg hs_58, if_neg hs_64]
          rw [q56] at st56
          obtain ⟨cq70, kq70, q70a, q70b, q70c⟩ := isOf hZ e56 E_FALSE
          obtain ⟨_, _, ⟨T70, L70, k70, n70⟩, -, X70, ⟨Lc70, hQ70, l70, y70, z70⟩, st70⟩ := X56.virtualBack hx (y := (⟨"com/example/gard/gard/core/Truth", "and", "(Lcom/example/gard/gard/core/Truth;)Lcom/example/gard/gard/core/Truth;"⟩ : MethodName)) (z := (⟨"com/example/gard/gard/core/Truth", "and", "(Lcom/example/gard/gard/core/Truth;)Lcom/example/gard/gard/core/Truth;"⟩ : MethodName)) hown (mvT hZ (hw _ (List.mem_of_getElem? (i := 8) rfl))) (mvT hZ (hw _ (List.mem_of_getElem? (i := 9) rfl))) (notFace_of_selects (args := #[]) (mvT hZ (hw _ (List.mem_of_getElem? (i := 11) rfl)))) (mvT hZ (hw _ (List.mem_of_getElem? (i := 11) rfl))) (mvT hZ (hw _ (List.mem_of_getElem? (i := 10) rfl))) (by decide) (backOf (W := 0) (rm_conj l Z a0' hw [] w_FALSE w_UNKNOWN w_TRUE w_FALSE w_UNKNOWN h0 n0 Z0 S_TRUE S_FALSE S_UNKNOWN) hZ (hw _ (List.mem_of_getElem? (i := 12) rfl)) (hw _ (List.mem_of_getElem? (i := 6) rfl)) (by decide) (by decide)) q70a q70c (g := (mkF m 12 #[.val (.int p0), .val (.int p1), .val (.ref w_FALSE), .val (.ref w_UNKNOWN), .unset] [(.ref w_UNKNOWN), (.ref w_FALSE)])) rfl (by rw [hml]; rfl) (Steps.refl _) (argsL := [(.ref w_UNKNOWN)]) (rest := []) (lenOf own_pd1 rfl) rfl (by show 2 * 0 + _ ≤ _; exact Nat.le_of_eq rfl) (hb hby at_12) (fun _ _ => ⟨rfl, e56, (by decide : 0 + 0 ≤ _), (by decide : 0 + 0 ≤ _)⟩)
          dsimp only [Pt.U, Pt.locs, Pt.cells, Pt.slots] at X70 l70 y70 z70 st70 hQ70
          subst l70 y70 z70
          obtain ⟨rfl, N70q, e70⟩ := hQ70
          have N70 := Fr.app N56 N70q
          have q70 : (F_conj w_FALSE w_UNKNOWN w_TRUE w_FALSE w_UNKNOWN) = w_FALSE := by rw [F_conj, if_pos (rfl : w_FALSE = w_FALSE)]
          rw [q70] at st70
          obtain ⟨_, _, ⟨T71, L71, k71, n71⟩, -, X71, ⟨Lc71, hQ71, l71, y71, z71⟩, st71⟩ := Jvm.LawKit.callS X70 hx (y := (⟨"com/example/gard/gard/core/TruthAndPinLaw", "rank", "(Lcom/example/gard/gard/core/Truth;)I"⟩ : MethodName)) hown (mvT hZ (hw _ (List.mem_of_getElem? (i := 16) rfl))) (mvT hZ (hw _ (List.mem_of_getElem? (i := 17) rfl))) (mvT hZ (hw _ (List.mem_of_getElem? (i := 2) rfl))) (mvT hZ (hw _ (List.mem_of_getElem? (i := 18) rfl))) (by decide) (backOf (W := 0) (rm_rank l Z a0' hw [] w_FALSE w_TRUE w_UNKNOWN h0 n0 Z0 S_TRUE S_UNKNOWN) hZ (hw _ (List.mem_of_getElem? (i := 18) rfl)) (hw _ (List.mem_of_getElem? (i := 2) rfl)) (by decide) (by decide)) (g := (mkF m 26 #[.val (.int p0), .val (.int p1), .val (.ref w_FALSE), .val (.ref w_UNKNOWN), .val (.ref w_FALSE)] [(.ref w_FALSE)])) rfl (by rw [hml]; rfl) (argsL := [(.ref w_FALSE)]) (rest := []) (lenOf own_pd2 rfl) rfl (by show 2 * 0 + _ ≤ _; exact Nat.le_of_eq rfl) (hb hby at_26) (fun _ _ => ⟨rfl, e70, (by decide : 0 + 0 ≤ _), (by decide : 0 + 0 ≤ _)⟩)
          dsimp only [Pt.U, Pt.locs, Pt.cells, Pt.slots] at X71 l71 y71 z71 st71 hQ71
          subst l71 y71 z71
          obtain ⟨rfl, N71q, e71⟩ := hQ71
          have N71 := Fr.app N70 N71q
          have q71 : (F_rank w_FALSE w_TRUE w_UNKNOWN) = (0 : Int32) := by rw [F_rank, if_neg ne_FALSE_TRUE, if_neg ne_FALSE_UNKNOWN]
          rw [q71] at st71
          obtain ⟨_, _, ⟨T72, L72, k72, n72⟩, -, X72, ⟨Lc72, hQ72, l72, y72, z72⟩, st72⟩ := Jvm.LawKit.callS X71 hx (y := (⟨"com/example/gard/gard/core/TruthAndPinLaw", "rank", "(Lcom/example/gard/gard/core/Truth;)I"⟩ : MethodName)) hown (mvT hZ (hw _ (List.mem_of_getElem? (i := 16) rfl))) (mvT hZ (hw _ (List.mem_of_getElem? (i := 17) rfl))) (mvT hZ (hw _ (List.mem_of_getElem? (i := 2) rfl))) (mvT hZ (hw _ (List.mem_of_getElem? (i := 18) rfl))) (by decide) (backOf (W := 1) (rm_rank l Z a0' hw [] w_FALSE w_TRUE w_UNKNOWN h0 n0 Z0 S_TRUE S_UNKNOWN) hZ (hw _ (List.mem_of_getElem? (i := 18) rfl)) (hw _ (List.mem_of_getElem? (i := 2) rfl)) (by decide) (by decide)) (g := (mkF m 30 #[.val (.int p0), .val (.int p1), .val (.ref w_FALSE), .val (.ref w_UNKNOWN), .val (.ref w_FALSE)] [(.ref w_FALSE), (.int (0 : Int32))])) rfl (by rw [hml]; rfl) (argsL := [(.ref w_FALSE)]) (rest := [(.int (0 : Int32))]) (lenOf own_pd2 rfl) rfl (by show 2 * 0 + _ ≤ _; exact Nat.le_of_eq rfl) (hb hby at_30) (fun _ _ => ⟨rfl, e71, (by decide : 0 + 0 ≤ _), (by decide : 0 + 0 ≤ _)⟩)
          dsimp only [Pt.U, Pt.locs, Pt.cells, Pt.slots] at X72 l72 y72 z72 st72 hQ72
          subst l72 y72 z72
          obtain ⟨rfl, N72q, e72⟩ := hQ72
          have N72 := Fr.app N71 N72q
          have q72 : (F_rank w_FALSE w_TRUE w_UNKNOWN) = (0 : Int32) := by rw [F_rank, if_neg ne_FALSE_TRUE, if_neg ne_FALSE_UNKNOWN]
          rw [q72] at st72
          obtain ⟨_, _, ⟨T73, L73, k73, n73⟩, -, X73, ⟨Lc73, hQ73, l73, y73, z73⟩, st73⟩ := Jvm.LawKit.callS X72 hx (y := (⟨"com/example/gard/gard/core/TruthAndPinLaw", "rank", "(Lcom/example/gard/gard/core/Truth;)I"⟩ : MethodName)) hown (mvT hZ (hw _ (List.mem_of_getElem? (i := 16) rfl))) (mvT hZ (hw _ (List.mem_of_getElem? (i := 17) rfl))) (mvT hZ (hw _ (List.mem_of_getElem? (i := 2) rfl))) (mvT hZ (hw _ (List.mem_of_getElem? (i := 18) rfl))) (by decide) (backOf (W := 2) (rm_rank l Z a0' hw [] w_UNKNOWN w_TRUE w_UNKNOWN h0 n0 Z0 S_TRUE S_UNKNOWN) hZ (hw _ (List.mem_of_getElem? (i := 18) rfl)) (hw _ (List.mem_of_getElem? (i := 2) rfl)) (by decide) (by decide)) (g := (mkF m 34 #[.val (.int p0), .val (.int p1), .val (.ref w_FALSE), .val (.ref w_UNKNOWN), .val (.ref w_FALSE)] [(.ref w_UNKNOWN), (.int (0 : Int32)), (.int (0 : Int32))])) rfl (by rw [hml]; rfl) (argsL := [(.ref w_UNKNOWN)]) (rest := [(.int (0 : Int32)), (.int (0 : Int32))]) (lenOf own_pd2 rfl) rfl (by show 2 * 0 + _ ≤ _; exact Nat.le_of_eq rfl) (hb hby at_34) (fun _ _ => ⟨rfl, e72, (by decide : 0 + 0 ≤ _), (by decide : 0 + 0 ≤ _)⟩)
          dsimp only [Pt.U, Pt.locs, Pt.cells, Pt.slots] at X73 l73 y73 z73 st73 hQ73
          subst l73 y73 z73
          obtain ⟨rfl, N73q, e73⟩ := hQ73
          have N73 := Fr.app N72 N73q
          have q73 : (F_rank w_UNKNOWN w_TRUE w_UNKNOWN) = (1 : Int32) := by rw [F_rank, if_neg ne_UNKNOWN_TRUE, if_pos (rfl : w_UNKNOWN = w_UNKNOWN)]
          rw [q73] at st73
          obtain ⟨_, _, ⟨T74, L74, k74, n74⟩, -, X74, ⟨Lc74, hQ74, l74, y74, z74⟩, st74⟩ := Jvm.LawKit.callS X73 hx (y := (⟨"java/lang/Math", "min", "(II)I"⟩ : MethodName)) hown (mvT hZ (hw _ (List.mem_of_getElem? (i := 19) rfl))) (mvT hZ (hw _ (List.mem_of_getElem? (i := 20) rfl))) (mvT hZ (hw _ (List.mem_of_getElem? (i := 21) rfl))) (mvT hZ (hw _ (List.mem_of_getElem? (i := 22) rfl))) (by decide) (backOf (W := 1) (rm_min l Z a0' hw [] (0 : Int32) (1 : Int32) h0 n0 Z0) hZ (hw _ (List.mem_of_getElem? (i := 22) rfl)) (hw _ (List.mem_of_getElem? (i := 21) rfl)) (by decide) (by decide)) (g := (mkF m 37 #[.val (.int p0), .val (.int p1), .val (.ref w_FALSE), .val (.ref w_UNKNOWN), .val (.ref w_FALSE)] [(.int (1 : Int32)), (.int (0 : Int32)), (.int (0 : Int32))])) rfl (by rw [hml]; rfl) (argsL := [(.int (0 : Int32)), (.int (1 : Int32))]) (rest := [(.int (0 : Int32))]) (lenOf own_pd3 rfl) rfl (by show 2 * 0 + _ ≤ _; exact Nat.le_of_eq rfl) (hb hby at_37) (fun _ _ => ⟨rfl, e73, (by decide : 0 + 0 ≤ _), (by decide : 0 + 0 ≤ _)⟩)
          dsimp only [Pt.U, Pt.locs, Pt.cells, Pt.slots] at X74 l74 y74 z74 st74 hQ74
          subst l74 y74 z74
          obtain ⟨rfl, N74q, e74⟩ := hQ74
          have N74 := Fr.app N73 N74q
          have q74 : (F_min (0 : Int32) (1 : Int32)) = (0 : Int32) := by rw [F_min, if_neg (by decide : ¬ ((1 : Int32) < (0 : Int32)))]
          rw [q74] at st74
          obtain ⟨fs, hr, hrun, hended, hW, hsame⟩ := X74.leave (v := some (.int (1 : Int32))) (fun h => by rw [Bd.returns] at h; cases h)
          refine ⟨_, _, pre57 _ ?_, hrun, hended, _, _, rfl, ?_, ⟨_, rfl⟩, hW, hsame.mono (by decide) (by decide)⟩
          · show Steps p.tables e below (T33.setTop (mkF m 6 #[.val (.int p0), .val (.int p1), .val (.ref w_FALSE), .unset, .unset] [(.int p1)])) _
            refine st56 _ ?_
            show Steps p.tables e below (T56.setTop (mkF m 9 #[.val (.int p0), .val (.int p1), .val (.ref w_FALSE), .unset, .unset] [(.ref w_UNKNOWN)])) _
            refine XS.astoreN X56.here hx rfl (hb hby at_9) rfl rfl (l' := #[.val (.int p0), .val (.int p1), .val (.ref w_FALSE), .val (.ref w_UNKNOWN), .unset]) rfl ?_
            show Steps p.tables e below (T56.setTop (mkF m 10 #[.val (.int p0), .val (.int p1), .val (.ref w_FALSE), .val (.ref w_UNKNOWN), .unset] [])) _
            refine XS.aloadN X56.here hx rfl (hb hby at_10) rfl rfl ?_
            show Steps p.tables e below (T56.setTop (mkF m 11 #[.val (.int p0), .val (.int p1), .val (.ref w_FALSE), .val (.ref w_UNKNOWN), .unset] [(.ref w_FALSE)])) _
            refine XS.aloadN X56.here hx rfl (hb hby at_11) rfl rfl ?_
            show Steps p.tables e below (T56.setTop (mkF m 12 #[.val (.int p0), .val (.int p1), .val (.ref w_FALSE), .val (.ref w_UNKNOWN), .unset] [(.ref w_UNKNOWN), (.ref w_FALSE)])) _
            refine st70.trans ?_
            show Steps p.tables e below (T70.setTop (mkF m 15 #[.val (.int p0), .val (.int p1), .val (.ref w_FALSE), .val (.ref w_UNKNOWN), .unset] [(.ref w_FALSE)])) _
            refine XS.astore X70.here hx rfl (hb hby at_15) rfl rfl (l' := #[.val (.int p0), .val (.int p1), .val (.ref w_FALSE), .val (.ref w_UNKNOWN), .val (.ref w_FALSE)]) rfl ?_
            show Steps p.tables e below (T70.setTop (mkF m 17 #[.val (.int p0), .val (.int p1), .val (.ref w_FALSE), .val (.ref w_UNKNOWN), .val (.ref w_FALSE)] [])) _
            refine XS.aload X70.here hx rfl (hb hby at_17) rfl rfl ?_
            show Steps p.tables e below (T70.setTop (mkF m 19 #[.val (.int p0), .val (.int p1), .val (.ref w_FALSE), .val (.ref w_UNKNOWN), .val (.ref w_FALSE)] [(.ref w_FALSE)])) _
            refine XS.ifnonnullYes X70.here hx rfl (pc0 := 19) (pc' := 24) rfl (hb hby at_19) rfl (by decide) (by decide) ?_
            show Steps p.tables e below (T70.setTop (mkF m 24 #[.val (.int p0), .val (.int p1), .val (.ref w_FALSE), .val (.ref w_UNKNOWN), .val (.ref w_FALSE)] [])) _
            refine XS.aload X70.here hx rfl (hb hby at_24) rfl rfl ?_
            show Steps p.tables e below (T70.setTop (mkF m 26 #[.val (.int p0), .val (.int p1), .val (.ref w_FALSE), .val (.ref w_UNKNOWN), .val (.ref w_FALSE)] [(.ref w_FALSE)])) _
            refine st71 _ ?_
            show Steps p.tables e below (T71.setTop (mkF m 29 #[.val (.int p0), .val (.int p1), .val (.ref w_FALSE), .val (.ref w_UNKNOWN), .val (.ref w_FALSE)] [(.int (0 : Int32))])) _
            refine XS.aloadN X71.here hx rfl (hb hby at_29) rfl rfl ?_
            show Steps p.tables e below (T71.setTop (mkF m 30 #[.val (.int p0), .val (.int p1), .val (.ref w_FALSE), .val (.ref w_UNKNOWN), .val (.ref w_FALSE)] [(.ref w_FALSE), (.int (0 : Int32))])) _
            refine st72 _ ?_
            show Steps p.tables e below (T72.setTop (mkF m 33 #[.val (.int p0), .val (.int p1), .val (.ref w_FALSE), .val (.ref w_UNKNOWN), .val (.ref w_FALSE)] [(.int (0 : Int32)), (.int (0 : Int32))])) _
            refine XS.aloadN X72.here hx rfl (hb hby at_33) rfl rfl ?_
            show Steps p.tables e below (T72.setTop (mkF m 34 #[.val (.int p0), .val (.int p1), .val (.ref w_FALSE), .val (.ref w_UNKNOWN), .val (.ref w_FALSE)] [(.ref w_UNKNOWN), (.int (0 : Int32)), (.int (0 : Int32))])) _
            refine st73 _ ?_
            show Steps p.tables e below (T73.setTop (mkF m 37 #[.val (.int p0), .val (.int p1), .val (.ref w_FALSE), .val (.ref w_UNKNOWN), .val (.ref w_FALSE)] [(.int (1 : Int32)), (.int (0 : Int32)), (.int (0 : Int32))])) _
            refine st74 _ ?_
            show Steps p.tables e below (T74.setTop (mkF m 40 #[.val (.int p0), .val (.int p1), .val (.ref w_FALSE), .val (.ref w_UNKNOWN), .val (.ref w_FALSE)] [(.int (0 : Int32)), (.int (0 : Int32))])) _
            refine XS.icmpNo X74.here hx rfl (hb hby at_40) rfl (teq (by decide : (0 : Int32) = (0 : Int32))).2 ?_
            show Steps p.tables e below (T74.setTop (mkF m 43 #[.val (.int p0), .val (.int p1), .val (.ref w_FALSE), .val (.ref w_UNKNOWN), .val (.ref w_FALSE)] [])) _
            refine XS.iconst X74.here hx rfl (hb hby at_43) ?_
            show Steps p.tables e below (T74.setTop (mkF m 44 #[.val (.int p0), .val (.int p1), .val (.ref w_FALSE), .val (.ref w_UNKNOWN), .val (.ref w_FALSE)] [(.int (1 : Int32))])) _
            refine XS.goto X74.here hx rfl (pc0 := 44) (pc' := 48) rfl (hb hby at_44) (by decide) (by decide) ?_
            show Steps p.tables e below (T74.setTop (mkF m 48 #[.val (.int p0), .val (.int p1), .val (.ref w_FALSE), .val (.ref w_UNKNOWN), .val (.ref w_FALSE)] [(.int (1 : Int32))])) _
            exact retN X74 hx (t := .boolean) Bd.returns (by simp) (hb hby at_48) hr
          · show Q_law Z p0 p1 w_TRUE w_FALSE w_UNKNOWN h0 n0 _ T74.heap _
            refine ⟨?_, N74, trivial⟩
            rw [F_law, if_neg hs_35, if_pos hs_55, if_neg hs_58, if_neg hs_64]
    · have q33 : (F_pick p0 w_TRUE w_FALSE w_UNKNOWN) = w_UNKNOWN := by rw [F_pick, if_neg hs_35, if_neg hs_55]
      rw [q33] at st33
      obtain ⟨_, _, ⟨T75, L75, k75, n75⟩, -, X75, ⟨Lc75, hQ75, l75, y75, z75⟩, st75⟩ := Jvm.LawKit.callS X33 hx (y := (⟨"com/example/gard/gard/core/TruthAndPinLaw", "pick", "(I)Lcom/example/gard/gard/core/Truth;"⟩ : MethodName)) hown (mvT hZ (hw _ (List.mem_of_getElem? (i := 0) rfl))) (mvT hZ (hw _ (List.mem_of_getElem? (i := 1) rfl))) (mvT hZ (hw _ (List.mem_of_getElem? (i := 2) rfl))) (mvT hZ (hw _ (List.mem_of_getElem? (i := 3) rfl))) (by decide) (backOf (W := 0) (rm_pick l Z a0' hw [] p1 w_TRUE w_FALSE w_UNKNOWN h0 n0 Z0 S_TRUE S_FALSE S_UNKNOWN) hZ (hw _ (List.mem_of_getElem? (i := 3) rfl)) (hw _ (List.mem_of_getElem? (i := 2) rfl)) (by decide) (by decide)) (g := (mkF m 6 #[.val (.int p0), .val (.int p1), .val (.ref w_UNKNOWN), .unset, .unset] [(.int p1)])) rfl (by rw [hml]; rfl) (argsL := [(.int p1)]) (rest := []) (lenOf own_pd0 rfl) rfl (by show 2 * 0 + _ ≤ _; exact Nat.le_of_eq rfl) (hb hby at_6) (fun _ _ => ⟨rfl, e33, (by decide : 0 + 0 ≤ _), (by decide : 0 + 0 ≤ _)⟩)
      dsimp only [Pt.U, Pt.locs, Pt.cells, Pt.slots] at X75 l75 y75 z75 st75 hQ75
      subst l75 y75 z75
      obtain ⟨rfl, N75q, e75⟩ := hQ75
      have N75 := Fr.app N33 N75q
      have pre76 : ∀ t, Steps p.tables e below (T33.setTop (mkF m 6 #[.val (.int p0), .val (.int p1), .val (.ref w_UNKNOWN), .unset, .unset] [(.int p1)])) t → Steps p.tables e below (s₁.setTop (entryFrame m #[(.int p0), (.int p1)] maxLocals)) t := fun t k => pre34 t (by
        show Steps p.tables e below (s₁.setTop (mkF m 1 #[.val (.int p0), .val (.int p1), .unset, .unset, .unset] [(.int p0)])) _
        refine st33 _ ?_
        show Steps p.tables e below (T33.setTop (mkF m 4 #[.val (.int p0), .val (.int p1), .unset, .unset, .unset] [(.ref w_UNKNOWN)])) _
        refine XS.astoreN X33.here hx rfl (hb hby at_4) rfl rfl (l' := #[.val (.int p0), .val (.int p1), .val (.ref w_UNKNOWN), .unset, .unset]) rfl ?_
        show Steps p.tables e below (T33.setTop (mkF m 5 #[.val (.int p0), .val (.int p1), .val (.ref w_UNKNOWN), .unset, .unset] [])) _
        refine XS.iloadN X33.here hx rfl (hb hby at_5) rfl ?_
        exact k)
      by_cases hs_77 : ((p1 &&& (2147483647 : Int32)) % (3 : Int32)) = (0 : Int32)
      · have q75 : (F_pick p1 w_TRUE w_FALSE w_UNKNOWN) = w_TRUE := by rw [F_pick, if_pos hs_77]
        rw [q75] at st75
        obtain ⟨cq78, kq78, q78a, q78b, q78c⟩ := isOf hZ e75 E_UNKNOWN
        obtain ⟨_, _, ⟨T78, L78, k78, n78⟩, -, X78, ⟨Lc78, hQ78, l78, y78, z78⟩, st78⟩ := X75.virtualBack hx (y := (⟨"com/example/gard/gard/core/Truth", "and", "(Lcom/example/gard/gard/core/Truth;)Lcom/example/gard/gard/core/Truth;"⟩ : MethodName)) (z := (⟨"com/example/gard/gard/core/Truth", "and", "(Lcom/example/gard/gard/core/Truth;)Lcom/example/gard/gard/core/Truth;"⟩ : MethodName)) hown (mvT hZ (hw _ (List.mem_of_getElem? (i := 8) rfl))) (mvT hZ (hw _ (List.mem_of_getElem? (i := 9) rfl))) (notFace_of_selects (args := #[]) (mvT hZ (hw _ (List.mem_of_getElem? (i := 11) rfl)))) (mvT hZ (hw _ (List.mem_of_getElem? (i := 11) rfl))) (mvT hZ (hw _ (List.mem_of_getElem? (i := 10) rfl))) (by decide) (backOf (W := 0) (rm_conj l Z a0' hw [] w_UNKNOWN w_TRUE w_TRUE w_FALSE w_UNKNOWN h0 n0 Z0 S_TRUE S_FALSE S_UNKNOWN) hZ (hw _ (List.mem_of_getElem? (i := 12) rfl)) (hw _ (List.mem_of_getElem? (i := 6) rfl)) (by decide) (by decide)) q78a q78c (g := (mkF m 12 #[.val (.int p0), .val (.int p1), .val (.ref w_UNKNOWN), .val (.ref w_TRUE), .unset] [(.ref w_TRUE), (.ref w_UNKNOWN)])) rfl (by rw [hml]; rfl) (Steps.refl _) (argsL := [(.ref w_TRUE)]) (rest := []) (lenOf own_pd1 rfl) rfl (by show 2 * 0 + _ ≤ _; exact Nat.le_of_eq rfl) (hb hby at_12) (fun _ _ => ⟨rfl, e75, (by decide : 0 + 0 ≤ _), (by decide : 0 + 0 ≤ _)⟩)
        dsimp only [Pt.U, Pt.locs, Pt.cells, Pt.slots] at X78 l78 y78 z78 st78 hQ78
        subst l78 y78 z78
        obtain ⟨rfl, N78q, e78⟩ := hQ78
        have N78 := Fr.app N75 N78q
        have q78 : (F_conj w_UNKNOWN w_TRUE w_TRUE w_FALSE w_UNKNOWN) = w_UNKNOWN := by rw [F_conj, if_neg ne_UNKNOWN_FALSE, if_neg ne_TRUE_FALSE, if_neg ne_UNKNOWN_TRUE]
        rw [q78] at st78
        obtain ⟨_, _, ⟨T79, L79, k79, n79⟩, -, X79, ⟨Lc79, hQ79, l79, y79, z79⟩, st79⟩ := Jvm.LawKit.callS X78 hx (y := (⟨"com/example/gard/gard/core/TruthAndPinLaw", "rank", "(Lcom/example/gard/gard/core/Truth;)I"⟩ : MethodName)) hown (mvT hZ (hw _ (List.mem_of_getElem? (i := 16) rfl))) (mvT hZ (hw _ (List.mem_of_getElem? (i := 17) rfl))) (mvT hZ (hw _ (List.mem_of_getElem? (i := 2) rfl))) (mvT hZ (hw _ (List.mem_of_getElem? (i := 18) rfl))) (by decide) (backOf (W := 0) (rm_rank l Z a0' hw [] w_UNKNOWN w_TRUE w_UNKNOWN h0 n0 Z0 S_TRUE S_UNKNOWN) hZ (hw _ (List.mem_of_getElem? (i := 18) rfl)) (hw _ (List.mem_of_getElem? (i := 2) rfl)) (by decide) (by decide)) (g := (mkF m 26 #[.val (.int p0), .val (.int p1), .val (.ref w_UNKNOWN), .val (.ref w_TRUE), .val (.ref w_UNKNOWN)] [(.ref w_UNKNOWN)])) rfl (by rw [hml]; rfl) (argsL := [(.ref w_UNKNOWN)]) (rest := []) (lenOf own_pd2 rfl) rfl (by show 2 * 0 + _ ≤ _; exact Nat.le_of_eq rfl) (hb hby at_26) (fun _ _ => ⟨rfl, e78, (by decide : 0 + 0 ≤ _), (by decide : 0 + 0 ≤ _)⟩)
        dsimp only [Pt.U, Pt.locs, Pt.cells, Pt.slots] at X79 l79 y79 z79 st79 hQ79
        subst l79 y79 z79
        obtain ⟨rfl, N79q, e79⟩ := hQ79
        have N79 := Fr.app N78 N79q
        have q79 : (F_rank w_UNKNOWN w_TRUE w_UNKNOWN) = (1 : Int32) := by rw [F_rank, if_neg ne_UNKNOWN_TRUE, if_pos (rfl : w_UNKNOWN = w_UNKNOWN)]
        rw [q79] at st79
        obtain ⟨_, _, ⟨T80, L80, k80, n80⟩, -, X80, ⟨Lc80, hQ80, l80, y80, z80⟩, st80⟩ := Jvm.LawKit.callS X79 hx (y := (⟨"com/example/gard/gard/core/TruthAndPinLaw", "rank", "(Lcom/example/gard/gard/core/Truth;)I"⟩ : MethodName)) hown (mvT hZ (hw _ (List.mem_of_getElem? (i := 16) rfl))) (mvT hZ (hw _ (List.mem_of_getElem? (i := 17) rfl))) (mvT hZ (hw _ (List.mem_of_getElem? (i := 2) rfl))) (mvT hZ (hw _ (List.mem_of_getElem? (i := 18) rfl))) (by decide) (backOf (W := 1) (rm_rank l Z a0' hw [] w_UNKNOWN w_TRUE w_UNKNOWN h0 n0 Z0 S_TRUE S_UNKNOWN) hZ (hw _ (List.mem_of_getElem? (i := 18) rfl)) (hw _ (List.mem_of_getElem? (i := 2) rfl)) (by decide) (by decide)) (g := (mkF m 30 #[.val (.int p0), .val (.int p1), .val (.ref w_UNKNOWN), .val (.ref w_TRUE), .val (.ref w_UNKNOWN)] [(.ref w_UNKNOWN), (.int (1 : Int32))])) rfl (by rw [hml]; rfl) (argsL := [(.ref w_UNKNOWN)]) (rest := [(.int (1 : Int32))]) (lenOf own_pd2 rfl) rfl (by show 2 * 0 + _ ≤ _; exact Nat.le_of_eq rfl) (hb hby at_30) (fun _ _ => ⟨rfl, e79, (by decide : 0 + 0 ≤ _), (by decide : 0 + 0 ≤ _)⟩)
        dsimp only [Pt.U, Pt.locs, Pt.cells, Pt.slots] at X80 l80 y80 z80 st80 hQ80
        subst l80 y80 z80
        obtain ⟨rfl, N80q, e80⟩ := hQ80
        have N80 := Fr.app N79 N80q
        have q80 : (F_rank w_UNKNOWN w_TRUE w_UNKNOWN) = (1 : Int32) := by rw [F_rank, if_neg ne_UNKNOWN_TRUE, if_pos (rfl : w_UNKNOWN = w_UNKNOWN)]
        rw [q80] at st80
        obtain ⟨_, _, ⟨T81, L81, k81, n81⟩, -, X81, ⟨Lc81, hQ81, l81, y81, z81⟩, st81⟩ := Jvm.LawKit.callS X80 hx (y := (⟨"com/example/gard/gard/core/TruthAndPinLaw", "rank", "(Lcom/example/gard/gard/core/Truth;)I"⟩ : MethodName)) hown (mvT hZ (hw _ (List.mem_of_getElem? (i := 16) rfl))) (mvT hZ (hw _ (List.mem_of_getElem? (i := 17) rfl))) (mvT hZ (hw _ (List.mem_of_getElem? (i := 2) rfl))) (mvT hZ (hw _ (List.mem_of_getElem? (i := 18) rfl))) (by decide) (backOf (W := 2) (rm_rank l Z a0' hw [] w_TRUE w_TRUE w_UNKNOWN h0 n0 Z0 S_TRUE S_UNKNOWN) hZ (hw _ (List.mem_of_getElem? (i := 18) rfl)) (hw _ (List.mem_of_getElem? (i := 2) rfl)) (by decide) (by decide)) (g := (mkF m 34 #[.val (.int p0), .val (.int p1), .val (.ref w_UNKNOWN), .val (.ref w_TRUE), .val (.ref w_UNKNOWN)] [(.ref w_TRUE), (.int (1 : Int32)), (.int (1 : Int32))])) rfl (by rw [hml]; rfl) (argsL := [(.ref w_TRUE)]) (rest := [(.int (1 : Int32)), (.int (1 : Int32))]) (lenOf own_pd2 rfl) rfl (by show 2 * 0 + _ ≤ _; exact Nat.le_of_eq rfl) (hb hby at_34) (fun _ _ => ⟨rfl, e80, (by decide : 0 + 0 ≤ _), (by decide : 0 + 0 ≤ _)⟩)
        dsimp only [Pt.U, Pt.locs, Pt.cells, Pt.slots] at X81 l81 y81 z81 st81 hQ81
        subst l81 y81 z81
        obtain ⟨rfl, N81q, e81⟩ := hQ81
        have N81 := Fr.app N80 N81q
        have q81 : (F_rank w_TRUE w_TRUE w_UNKNOWN) = (2 : Int32) := by rw [F_rank, if_pos (rfl : w_TRUE = w_TRUE)]
        rw [q81] at st81
        obtain ⟨_, _, ⟨T82, L82, k82, n82⟩, -, X82, ⟨Lc82, hQ82, l82, y82, z82⟩, st82⟩ := Jvm.LawKit.callS X81 hx (y := (⟨"java/lang/Math", "min", "(II)I"⟩ : MethodName)) hown (mvT hZ (hw _ (List.mem_of_getElem? (i := 19) rfl))) (mvT hZ (hw _ (List.mem_of_getElem? (i := 20) rfl))) (mvT hZ (hw _ (List.mem_of_getElem? (i := 21) rfl))) (mvT hZ (hw _ (List.mem_of_getElem? (i := 22) rfl))) (by decide) (backOf (W := 1) (rm_min l Z a0' hw [] (1 : Int32) (2 : Int32) h0 n0 Z0) hZ (hw _ (List.mem_of_getElem? (i := 22) rfl)) (hw _ (List.mem_of_getElem? (i := 21) rfl)) (by decide) (by decide)) (g := (mkF m 37 #[.val (.int p0), .val (.int p1), .val (.ref w_UNKNOWN), .val (.ref w_TRUE), .val (.ref w_UNKNOWN)] [(.int (2 : Int32)), (.int (1 : Int32)), (.int (1 : Int32))])) rfl (by rw [hml]; rfl) (argsL := [(.int (1 : Int32)), (.int (2 : Int32))]) (rest := [(.int (1 : Int32))]) (lenOf own_pd3 rfl) rfl (by show 2 * 0 + _ ≤ _; exact Nat.le_of_eq rfl) (hb hby at_37) (fun _ _ => ⟨rfl, e81, (by decide : 0 + 0 ≤ _), (by decide : 0 + 0 ≤ _)⟩)
        dsimp only [Pt.U, Pt.locs, Pt.cells, Pt.slots] at X82 l82 y82 z82 st82 hQ82
        subst l82 y82 z82
        obtain ⟨rfl, N82q, e82⟩ := hQ82
        have N82 := Fr.app N81 N82q
        have q82 : (F_min (1 : Int32) (2 : Int32)) = (1 : Int32) := by rw [F_min, if_neg (by decide : ¬ ((2 : Int32) < (1 : Int32)))]
        rw [q82] at st82
        obtain ⟨fs, hr, hrun, hended, hW, hsame⟩ := X82.leave (v := some (.int (1 : Int32))) (fun h => by rw [Bd.returns] at h; cases h)
        refine ⟨_, _, pre76 _ ?_, hrun, hended, _, _, rfl, ?_, ⟨_, rfl⟩, hW, hsame.mono (by decide) (by decide)⟩
        · show Steps p.tables e below (T33.setTop (mkF m 6 #[.val (.int p0), .val (.int p1), .val (.ref w_UNKNOWN), .unset, .unset] [(.int p1)])) _
          refine st75 _ ?_
          show Steps p.tables e below (T75.setTop (mkF m 9 #[.val (.int p0), .val (.int p1), .val (.ref w_UNKNOWN), .unset, .unset] [(.ref w_TRUE)])) _
          refine XS.astoreN X75.here hx rfl (hb hby at_9) rfl rfl (l' := #[.val (.int p0), .val (.int p1), .val (.ref w_UNKNOWN), .val (.ref w_TRUE), .unset]) rfl ?_
          show Steps p.tables e below (T75.setTop (mkF m 10 #[.val (.int p0), .val (.int p1), .val (.ref w_UNKNOWN), .val (.ref w_TRUE), .unset] [])) _
          refine XS.aloadN X75.here hx rfl (hb hby at_10) rfl rfl ?_
          show Steps p.tables e below (T75.setTop (mkF m 11 #[.val (.int p0), .val (.int p1), .val (.ref w_UNKNOWN), .val (.ref w_TRUE), .unset] [(.ref w_UNKNOWN)])) _
          refine XS.aloadN X75.here hx rfl (hb hby at_11) rfl rfl ?_
          show Steps p.tables e below (T75.setTop (mkF m 12 #[.val (.int p0), .val (.int p1), .val (.ref w_UNKNOWN), .val (.ref w_TRUE), .unset] [(.ref w_TRUE), (.ref w_UNKNOWN)])) _
          refine st78.trans ?_
          show Steps p.tables e below (T78.setTop (mkF m 15 #[.val (.int p0), .val (.int p1), .val (.ref w_UNKNOWN), .val (.ref w_TRUE), .unset] [(.ref w_UNKNOWN)])) _
          refine XS.astore X78.here hx rfl (hb hby at_15) rfl rfl (l' := #[.val (.int p0), .val (.int p1), .val (.ref w_UNKNOWN), .val (.ref w_TRUE), .val (.ref w_UNKNOWN)]) rfl ?_
          show Steps p.tables e below (T78.setTop (mkF m 17 #[.val (.int p0), .val (.int p1), .val (.ref w_UNKNOWN), .val (.ref w_TRUE), .val (.ref w_UNKNOWN)] [])) _
          refine XS.aload X78.here hx rfl (hb hby at_17) rfl rfl ?_
          show Steps p.tables e below (T78.setTop (mkF m 19 #[.val (.int p0), .val (.int p1), .val (.ref w_UNKNOWN), .val (.ref w_TRUE), .val (.ref w_UNKNOWN)] [(.ref w_UNKNOWN)])) _
          refine XS.ifnonnullYes X78.here hx rfl (pc0 := 19) (pc' := 24) rfl (hb hby at_19) rfl (by decide) (by decide) ?_
          show Steps p.tables e below (T78.setTop (mkF m 24 #[.val (.int p0), .val (.int p1), .val (.ref w_UNKNOWN), .val (.ref w_TRUE), .val (.ref w_UNKNOWN)] [])) _
          refine XS.aload X78.here hx rfl (hb hby at_24) rfl rfl ?_
          show Steps p.tables e below (T78.setTop (mkF m 26 #[.val (.int p0), .val (.int p1), .val (.ref w_UNKNOWN), .val (.ref w_TRUE), .val (.ref w_UNKNOWN)] [(.ref w_UNKNOWN)])) _
          refine st79 _ ?_
          show Steps p.tables e below (T79.setTop (mkF m 29 #[.val (.int p0), .val (.int p1), .val (.ref w_UNKNOWN), .val (.ref w_TRUE), .val (.ref w_UNKNOWN)] [(.int (1 : Int32))])) _
          refine XS.aloadN X79.here hx rfl (hb hby at_29) rfl rfl ?_
          show Steps p.tables e below (T79.setTop (mkF m 30 #[.val (.int p0), .val (.int p1), .val (.ref w_UNKNOWN), .val (.ref w_TRUE), .val (.ref w_UNKNOWN)] [(.ref w_UNKNOWN), (.int (1 : Int32))])) _
          refine st80 _ ?_
          show Steps p.tables e below (T80.setTop (mkF m 33 #[.val (.int p0), .val (.int p1), .val (.ref w_UNKNOWN), .val (.ref w_TRUE), .val (.ref w_UNKNOWN)] [(.int (1 : Int32)), (.int (1 : Int32))])) _
          refine XS.aloadN X80.here hx rfl (hb hby at_33) rfl rfl ?_
          show Steps p.tables e below (T80.setTop (mkF m 34 #[.val (.int p0), .val (.int p1), .val (.ref w_UNKNOWN), .val (.ref w_TRUE), .val (.ref w_UNKNOWN)] [(.ref w_TRUE), (.int (1 : Int32)), (.int (1 : Int32))])) _
          refine st81 _ ?_
          show Steps p.tables e below (T81.setTop (mkF m 37 #[.val (.int p0), .val (.int p1), .val (.ref w_UNKNOWN), .val (.ref w_TRUE), .val (.ref w_UNKNOWN)] [(.int (2 : Int32)), (.int (1 : Int32)), (.int (1 : Int32))])) _
          refine st82 _ ?_
          show Steps p.tables e below (T82.setTop (mkF m 40 #[.val (.int p0), .val (.int p1), .val (.ref w_UNKNOWN), .val (.ref w_TRUE), .val (.ref w_UNKNOWN)] [(.int (1 : Int32)), (.int (1 : Int32))])) _
          refine XS.icmpNo X82.here hx rfl (hb hby at_40) rfl (teq (by decide : (1 : Int32) = (1 : Int32))).2 ?_
          show Steps p.tables e below (T82.setTop (mkF m 43 #[.val (.int p0), .val (.int p1), .val (.ref w_UNKNOWN), .val (.ref w_TRUE), .val (.ref w_UNKNOWN)] [])) _
          refine XS.iconst X82.here hx rfl (hb hby at_43) ?_
          show Steps p.tables e below (T82.setTop (mkF m 44 #[.val (.int p0), .val (.int p1), .val (.ref w_UNKNOWN), .val (.ref w_TRUE), .val (.ref w_UNKNOWN)] [(.int (1 : Int32))])) _
          refine XS.goto X82.here hx rfl (pc0 := 44) (pc' := 48) rfl (hb hby at_44) (by decide) (by decide) ?_
          show Steps p.tables e below (T82.setTop (mkF m 48 #[.val (.int p0), .val (.int p1), .val (.ref w_UNKNOWN), .val (.ref w_TRUE), .val (.ref w_UNKNOWN)] [(.int (1 : Int32))])) _
          exact retN X82 hx (t := .boolean) Bd.returns (by simp) (hb hby at_48) hr
        · show Q_law Z p0 p1 w_TRUE w_FALSE w_UNKNOWN h0 n0 _ T82.heap _
          refine ⟨?_, N82, trivial⟩
          rw [F_law, if_neg hs_35, if_neg hs_55, if_pos hs_77]
      · by_cases hs_83 : ((p1 &&& (2147483647 : Int32)) % (3 : Int32)) = (1 : Int32)
        · have q75 : (F_pick p1 w_TRUE w_FALSE w_UNKNOWN) = w_FALSE := by rw [F_pick, if_neg hs_77, if_pos hs_83]
          rw [q75] at st75
          obtain ⟨cq84, kq84, q84a, q84b, q84c⟩ := isOf hZ e75 E_UNKNOWN
          obtain ⟨_, _, ⟨T84, L84, k84, n84⟩, -, X84, ⟨Lc84, hQ84, l84, y84, z84⟩, st84⟩ := X75.virtualBack hx (y := (⟨"com/example/gard/gard/core/Truth", "and", "(Lcom/example/gard/gard/core/Truth;)Lcom/example/gard/gard/core/Truth;"⟩ : MethodName)) (z := (⟨"com/example/gard/gard/core/Truth", "and", "(Lcom/example/gard/gard/core/Truth;)Lcom/example/gard/gard/core/Truth;"⟩ : MethodName)) hown (mvT hZ (hw _ (List.mem_of_getElem? (i := 8) rfl))) (mvT hZ (hw _ (List.mem_of_getElem? (i := 9) rfl))) (notFace_of_selects (args := #[]) (mvT hZ (hw _ (List.mem_of_getElem? (i := 11) rfl)))) (mvT hZ (hw _ (List.mem_of_getElem? (i := 11) rfl))) (mvT hZ (hw _ (List.mem_of_getElem? (i := 10) rfl))) (by decide) (backOf (W := 0) (rm_conj l Z a0' hw [] w_UNKNOWN w_FALSE w_TRUE w_FALSE w_UNKNOWN h0 n0 Z0 S_TRUE S_FALSE S_UNKNOWN) hZ (hw _ (List.mem_of_getElem? (i := 12) rfl)) (hw _ (List.mem_of_getElem? (i := 6) rfl)) (by decide) (by decide)) q84a q84c (g := (mkF m 12 #[.val (.int p0), .val (.int p1), .val (.ref w_UNKNOWN), .val (.ref w_FALSE), .unset] [(.ref w_FALSE), (.ref w_UNKNOWN)])) rfl (by rw [hml]; rfl) (Steps.refl _) (argsL := [(.ref w_FALSE)]) (rest := []) (lenOf own_pd1 rfl) rfl (by show 2 * 0 + _ ≤ _; exact Nat.le_of_eq rfl) (hb hby at_12) (fun _ _ => ⟨rfl, e75, (by decide : 0 + 0 ≤ _), (by decide : 0 + 0 ≤ _)⟩)
          dsimp only [Pt.U, Pt.locs, Pt.cells, Pt.slots] at X84 l84 y84 z84 st84 hQ84
          subst l84 y84 z84
          obtain ⟨rfl, N84q, e84⟩ := hQ84
          have N84 := Fr.app N75 N84q
          have q84 : (F_conj w_UNKNOWN w_FALSE w_TRUE w_FALSE w_UNKNOWN) = w_FALSE := by rw [F_conj, if_neg ne_UNKNOWN_FALSE, if_pos (rfl : w_FALSE = w_FALSE)]
          rw [q84] at st84
          obtain ⟨_, _, ⟨T85, L85, k85, n85⟩, -, X85, ⟨Lc85, hQ85, l85, y85, z85⟩, st85⟩ := Jvm.LawKit.callS X84 hx (y := (⟨"com/example/gard/gard/core/TruthAndPinLaw", "rank", "(Lcom/example/gard/gard/core/Truth;)I"⟩ : MethodName)) hown (mvT hZ (hw _ (List.mem_of_getElem? (i := 16) rfl))) (mvT hZ (hw _ (List.mem_of_getElem? (i := 17) rfl))) (mvT hZ (hw _ (List.mem_of_getElem? (i := 2) rfl))) (mvT hZ (hw _ (List.mem_of_getElem? (i := 18) rfl))) (by decide) (backOf (W := 0) (rm_rank l Z a0' hw [] w_FALSE w_TRUE w_UNKNOWN h0 n0 Z0 S_TRUE S_UNKNOWN) hZ (hw _ (List.mem_of_getElem? (i := 18) rfl)) (hw _ (List.mem_of_getElem? (i := 2) rfl)) (by decide) (by decide)) (g := (mkF m 26 #[.val (.int p0), .val (.int p1), .val (.ref w_UNKNOWN), .val (.ref w_FALSE), .val (.ref w_FALSE)] [(.ref w_FALSE)])) rfl (by rw [hml]; rfl) (argsL := [(.ref w_FALSE)]) (rest := []) (lenOf own_pd2 rfl) rfl (by show 2 * 0 + _ ≤ _; exact Nat.le_of_eq rfl) (hb hby at_26) (fun _ _ => ⟨rfl, e84, (by decide : 0 + 0 ≤ _), (by decide : 0 + 0 ≤ _)⟩)
          dsimp only [Pt.U, Pt.locs, Pt.cells, Pt.slots] at X85 l85 y85 z85 st85 hQ85
          subst l85 y85 z85
          obtain ⟨rfl, N85q, e85⟩ := hQ85
          have N85 := Fr.app N84 N85q
          have q85 : (F_rank w_FALSE w_TRUE w_UNKNOWN) = (0 : Int32) := by rw [F_rank, if_neg ne_FALSE_TRUE, if_neg ne_FALSE_UNKNOWN]
          rw [q85] at st85
          obtain ⟨_, _, ⟨T86, L86, k86, n86⟩, -, X86, ⟨Lc86, hQ86, l86, y86, z86⟩, st86⟩ := Jvm.LawKit.callS X85 hx (y := (⟨"com/example/gard/gard/core/TruthAndPinLaw", "rank", "(Lcom/example/gard/gard/core/Truth;)I"⟩ : MethodName)) hown (mvT hZ (hw _ (List.mem_of_getElem? (i := 16) rfl))) (mvT hZ (hw _ (List.mem_of_getElem? (i := 17) rfl))) (mvT hZ (hw _ (List.mem_of_getElem? (i := 2) rfl))) (mvT hZ (hw _ (List.mem_of_getElem? (i := 18) rfl))) (by decide) (backOf (W := 1) (rm_rank l Z a0' hw [] w_UNKNOWN w_TRUE w_UNKNOWN h0 n0 Z0 S_TRUE S_UNKNOWN) hZ (hw _ (List.mem_of_getElem? (i := 18) rfl)) (hw _ (List.mem_of_getElem? (i := 2) rfl)) (by decide) (by decide)) (g := (mkF m 30 #[.val (.int p0), .val (.int p1), .val (.ref w_UNKNOWN), .val (.ref w_FALSE), .val (.ref w_FALSE)] [(.ref w_UNKNOWN), (.int (0 : Int32))])) rfl (by rw [hml]; rfl) (argsL := [(.ref w_UNKNOWN)]) (rest := [(.int (0 : Int32))]) (lenOf own_pd2 rfl) rfl (by show 2 * 0 + _ ≤ _; exact Nat.le_of_eq rfl) (hb hby at_30) (fun _ _ => ⟨rfl, e85, (by decide : 0 + 0 ≤ _), (by decide : 0 + 0 ≤ _)⟩)
          dsimp only [Pt.U, Pt.locs, Pt.cells, Pt.slots] at X86 l86 y86 z86 st86 hQ86
          subst l86 y86 z86
          obtain ⟨rfl, N86q, e86⟩ := hQ86
          have N86 := Fr.app N85 N86q
          have q86 : (F_rank w_UNKNOWN w_TRUE w_UNKNOWN) = (1 : Int32) := by rw [F_rank, if_neg ne_UNKNOWN_TRUE, if_pos (rfl : w_UNKNOWN = w_UNKNOWN)]
          rw [q86] at st86
          obtain ⟨_, _, ⟨T87, L87, k87, n87⟩, -, X87, ⟨Lc87, hQ87, l87, y87, z87⟩, st87⟩ := Jvm.LawKit.callS X86 hx (y := (⟨"com/example/gard/gard/core/TruthAndPinLaw", "rank", "(Lcom/example/gard/gard/core/Truth;)I"⟩ : MethodName)) hown (mvT hZ (hw _ (List.mem_of_getElem? (i := 16) rfl))) (mvT hZ (hw _ (List.mem_of_getElem? (i := 17) rfl))) (mvT hZ (hw _ (List.mem_of_getElem? (i := 2) rfl))) (mvT hZ (hw _ (List.mem_of_getElem? (i := 18) rfl))) (by decide) (backOf (W := 2) (rm_rank l Z a0' hw [] w_FALSE w_TRUE w_UNKNOWN h0 n0 Z0 S_TRUE S_UNKNOWN) hZ (hw _ (List.mem_of_getElem? (i := 18) rfl)) (hw _ (List.mem_of_getElem? (i := 2) rfl)) (by decide) (by decide)) (g := (mkF m 34 #[.val (.int p0), .val (.int p1), .val (.ref w_UNKNOWN), .val (.ref w_FALSE), .val (.ref w_FALSE)] [(.ref w_FALSE), (.int (1 : Int32)), (.int (0 : Int32))])) rfl (by rw [hml]; rfl) (argsL := [(.ref w_FALSE)]) (rest := [(.int (1 : Int32)), (.int (0 : Int32))]) (lenOf own_pd2 rfl) rfl (by show 2 * 0 + _ ≤ _; exact Nat.le_of_eq rfl) (hb hby at_34) (fun _ _ => ⟨rfl, e86, (by decide : 0 + 0 ≤ _), (by decide : 0 + 0 ≤ _)⟩)
          dsimp only [Pt.U, Pt.locs, Pt.cells, Pt.slots] at X87 l87 y87 z87 st87 hQ87
          subst l87 y87 z87
          obtain ⟨rfl, N87q, e87⟩ := hQ87
          have N87 := Fr.app N86 N87q
          have q87 : (F_rank w_FALSE w_TRUE w_UNKNOWN) = (0 : Int32) := by rw [F_rank, if_neg ne_FALSE_TRUE, if_neg ne_FALSE_UNKNOWN]
          rw [q87] at st87
          obtain ⟨_, _, ⟨T88, L88, k88, n88⟩, -, X88, ⟨Lc88, hQ88, l88, y88, z88⟩, st88⟩ := Jvm.LawKit.callS X87 hx (y := (⟨"java/lang/Math", "min", "(II)I"⟩ : MethodName)) hown (mvT hZ (hw _ (List.mem_of_getElem? (i := 19) rfl))) (mvT hZ (hw _ (List.mem_of_getElem? (i := 20) rfl))) (mvT hZ (hw _ (List.mem_of_getElem? (i := 21) rfl))) (mvT hZ (hw _ (List.mem_of_getElem? (i := 22) rfl))) (by decide) (backOf (W := 1) (rm_min l Z a0' hw [] (1 : Int32) (0 : Int32) h0 n0 Z0) hZ (hw _ (List.mem_of_getElem? (i := 22) rfl)) (hw _ (List.mem_of_getElem? (i := 21) rfl)) (by decide) (by decide)) (g := (mkF m 37 #[.val (.int p0), .val (.int p1), .val (.ref w_UNKNOWN), .val (.ref w_FALSE), .val (.ref w_FALSE)] [(.int (0 : Int32)), (.int (1 : Int32)), (.int (0 : Int32))])) rfl (by rw [hml]; rfl) (argsL := [(.int (1 : Int32)), (.int (0 : Int32))]) (rest := [(.int (0 : Int32))]) (lenOf own_pd3 rfl) rfl (by show 2 * 0 + _ ≤ _; exact Nat.le_of_eq rfl) (hb hby at_37) (fun _ _ => ⟨rfl, e87, (by decide : 0 + 0 ≤ _), (by decide : 0 + 0 ≤ _)⟩)
          dsimp only [Pt.U, Pt.locs, Pt.cells, Pt.slots] at X88 l88 y88 z88 st88 hQ88
          subst l88 y88 z88
          obtain ⟨rfl, N88q, e88⟩ := hQ88
          have N88 := Fr.app N87 N88q
          have q88 : (F_min (1 : Int32) (0 : Int32)) = (0 : Int32) := by rw [F_min, if_pos (by decide : (0 : Int32) < (1 : Int32))]
          rw [q88] at st88
          obtain ⟨fs, hr, hrun, hended, hW, hsame⟩ := X88.leave (v := some (.int (1 : Int32))) (fun h => by rw [Bd.returns] at h; cases h)
          refine ⟨_, _, pre76 _ ?_, hrun, hended, _, _, rfl, ?_, ⟨_, rfl⟩, hW, hsame.mono (by decide) (by decide)⟩
          · show Steps p.tables e below (T33.setTop (mkF m 6 #[.val (.int p0), .val (.int p1), .val (.ref w_UNKNOWN), .unset, .unset] [(.int p1)])) _
            refine st75 _ ?_
            show Steps p.tables e below (T75.setTop (mkF m 9 #[.val (.int p0), .val (.int p1), .val (.ref w_UNKNOWN), .unset, .unset] [(.ref w_FALSE)])) _
            refine XS.astoreN X75.here hx rfl (hb hby at_9) rfl rfl (l' := #[.val (.int p0), .val (.int p1), .val (.ref w_UNKNOWN), .val (.ref w_FALSE), .unset]) rfl ?_
            show Steps p.tables e below (T75.setTop (mkF m 10 #[.val (.int p0), .val (.int p1), .val (.ref w_UNKNOWN), .val (.ref w_FALSE), .unset] [])) _
            refine XS.aloadN X75.here hx rfl (hb hby at_10) rfl rfl ?_
            show Steps p.tables e below (T75.setTop (mkF m 11 #[.val (.int p0), .val (.int p1), .val (.ref w_UNKNOWN), .val (.ref w_FALSE), .unset] [(.ref w_UNKNOWN)])) _
            refine XS.aloadN X75.here hx rfl (hb hby at_11) rfl rfl ?_
            show Steps p.tables e below (T75.setTop (mkF m 12 #[.val (.int p0), .val (.int p1), .val (.ref w_UNKNOWN), .val (.ref w_FALSE), .unset] [(.ref w_FALSE), (.ref w_UNKNOWN)])) _
            refine st84.trans ?_
            show Steps p.tables e below (T84.setTop (mkF m 15 #[.val (.int p0), .val (.int p1), .val (.ref w_UNKNOWN), .val (.ref w_FALSE), .unset] [(.ref w_FALSE)])) _
            refine XS.astore X84.here hx rfl (hb hby at_15) rfl rfl (l' := #[.val (.int p0), .val (.int p1), .val (.ref w_UNKNOWN), .val (.ref w_FALSE), .val (.ref w_FALSE)]) rfl ?_
            show Steps p.tables e below (T84.setTop (mkF m 17 #[.val (.int p0), .val (.int p1), .val (.ref w_UNKNOWN), .val (.ref w_FALSE), .val (.ref w_FALSE)] [])) _
            refine XS.aload X84.here hx rfl (hb hby at_17) rfl rfl ?_
            show Steps p.tables e below (T84.setTop (mkF m 19 #[.val (.int p0), .val (.int p1), .val (.ref w_UNKNOWN), .val (.ref w_FALSE), .val (.ref w_FALSE)] [(.ref w_FALSE)])) _
            refine XS.ifnonnullYes X84.here hx rfl (pc0 := 19) (pc' := 24) rfl (hb hby at_19) rfl (by decide) (by decide) ?_
            show Steps p.tables e below (T84.setTop (mkF m 24 #[.val (.int p0), .val (.int p1), .val (.ref w_UNKNOWN), .val (.ref w_FALSE), .val (.ref w_FALSE)] [])) _
            refine XS.aload X84.here hx rfl (hb hby at_24) rfl rfl ?_
            show Steps p.tables e below (T84.setTop (mkF m 26 #[.val (.int p0), .val (.int p1), .val (.ref w_UNKNOWN), .val (.ref w_FALSE), .val (.ref w_FALSE)] [(.ref w_FALSE)])) _
            refine st85 _ ?_
            show Steps p.tables e below (T85.setTop (mkF m 29 #[.val (.int p0), .val (.int p1), .val (.ref w_UNKNOWN), .val (.ref w_FALSE), .val (.ref w_FALSE)] [(.int (0 : Int32))])) _
            refine XS.aloadN X85.here hx rfl (hb hby at_29) rfl rfl ?_
            show Steps p.tables e below (T85.setTop (mkF m 30 #[.val (.int p0), .val (.int p1), .val (.ref w_UNKNOWN), .val (.ref w_FALSE), .val (.ref w_FALSE)] [(.ref w_UNKNOWN), (.int (0 : Int32))])) _
            refine st86 _ ?_
            show Steps p.tables e below (T86.setTop (mkF m 33 #[.val (.int p0), .val (.int p1), .val (.ref w_UNKNOWN), .val (.ref w_FALSE), .val (.ref w_FALSE)] [(.int (1 : Int32)), (.int (0 : Int32))])) _
            refine XS.aloadN X86.here hx rfl (hb hby at_33) rfl rfl ?_
            show Steps p.tables e below (T86.setTop (mkF m 34 #[.val (.int p0), .val (.int p1), .val (.ref w_UNKNOWN), .val (.ref w_FALSE), .val (.ref w_FALSE)] [(.ref w_FALSE), (.int (1 : Int32)), (.int (0 : Int32))])) _
            refine st87 _ ?_
            show Steps p.tables e below (T87.setTop (mkF m 37 #[.val (.int p0), .val (.int p1), .val (.ref w_UNKNOWN), .val (.ref w_FALSE), .val (.ref w_FALSE)] [(.int (0 : Int32)), (.int (1 : Int32)), (.int (0 : Int32))])) _
            refine st88 _ ?_
            show Steps p.tables e below (T88.setTop (mkF m 40 #[.val (.int p0), .val (.int p1), .val (.ref w_UNKNOWN), .val (.ref w_FALSE), .val (.ref w_FALSE)] [(.int (0 : Int32)), (.int (0 : Int32))])) _
            refine XS.icmpNo X88.here hx rfl (hb hby at_40) rfl (teq (by decide : (0 : Int32) = (0 : Int32))).2 ?_
            show Steps p.tables e below (T88.setTop (mkF m 43 #[.val (.int p0), .val (.int p1), .val (.ref w_UNKNOWN), .val (.ref w_FALSE), .val (.ref w_FALSE)] [])) _
            refine XS.iconst X88.here hx rfl (hb hby at_43) ?_
            show Steps p.tables e below (T88.setTop (mkF m 44 #[.val (.int p0), .val (.int p1), .val (.ref w_UNKNOWN), .val (.ref w_FALSE), .val (.ref w_FALSE)] [(.int (1 : Int32))])) _
            refine XS.goto X88.here hx rfl (pc0 := 44) (pc' := 48) rfl (hb hby at_44) (by decide) (by decide) ?_
            show Steps p.tables e below (T88.setTop (mkF m 48 #[.val (.int p0), .val (.int p1), .val (.ref w_UNKNOWN), .val (.ref w_FALSE), .val (.ref w_FALSE)] [(.int (1 : Int32))])) _
            exact retN X88 hx (t := .boolean) Bd.returns (by simp) (hb hby at_48) hr
          · show Q_law Z p0 p1 w_TRUE w_FALSE w_UNKNOWN h0 n0 _ T88.heap _
            refine ⟨?_, N88, trivial⟩
            rw [F_law, if_neg hs_35, if_neg hs_55, if_neg hs_77, if_pos hs_83]
        · have q75 : (F_pick p1 w_TRUE w_FALSE w_UNKNOWN) = w_UNKNOWN := by rw [F_pick, if_neg hs_77, if_neg hs_83]
          rw [q75] at st75
          obtain ⟨cq89, kq89, q89a, q89b, q89c⟩ := isOf hZ e75 E_UNKNOWN
          obtain ⟨_, _, ⟨T89, L89, k89, n89⟩, -, X89, ⟨Lc89, hQ89, l89, y89, z89⟩, st89⟩ := X75.virtualBack hx (y := (⟨"com/example/gard/gard/core/Truth", "and", "(Lcom/example/gard/gard/core/Truth;)Lcom/example/gard/gard/core/Truth;"⟩ : MethodName)) (z := (⟨"com/example/gard/gard/core/Truth", "and", "(Lcom/example/gard/gard/core/Truth;)Lcom/example/gard/gard/core/Truth;"⟩ : MethodName)) hown (mvT hZ (hw _ (List.mem_of_getElem? (i := 8) rfl))) (mvT hZ (hw _ (List.mem_of_getElem? (i := 9) rfl))) (notFace_of_selects (args := #[]) (mvT hZ (hw _ (List.mem_of_getElem? (i := 11) rfl)))) (mvT hZ (hw _ (List.mem_of_getElem? (i := 11) rfl))) (mvT hZ (hw _ (List.mem_of_getElem? (i := 10) rfl))) (by decide) (backOf (W := 0) (rm_conj l Z a0' hw [] w_UNKNOWN w_UNKNOWN w_TRUE w_FALSE w_UNKNOWN h0 n0 Z0 S_TRUE S_FALSE S_UNKNOWN) hZ (hw _ (List.mem_of_getElem? (i := 12) rfl)) (hw _ (List.mem_of_getElem? (i := 6) rfl)) (by decide) (by decide)) q89a q89c (g := (mkF m 12 #[.val (.int p0), .val (.int p1), .val (.ref w_UNKNOWN), .val (.ref w_UNKNOWN), .unset] [(.ref w_UNKNOWN), (.ref w_UNKNOWN)])) rfl (by rw [hml]; rfl) (Steps.refl _) (argsL := [(.ref w_UNKNOWN)]) (rest := []) (lenOf own_pd1 rfl) rfl (by show 2 * 0 + _ ≤ _; exact Nat.le_of_eq rfl) (hb hby at_12) (fun _ _ => ⟨rfl, e75, (by decide : 0 + 0 ≤ _), (by decide : 0 + 0 ≤ _)⟩)
          dsimp only [Pt.U, Pt.locs, Pt.cells, Pt.slots] at X89 l89 y89 z89 st89 hQ89
          subst l89 y89 z89
          obtain ⟨rfl, N89q, e89⟩ := hQ89
          have N89 := Fr.app N75 N89q
          have q89 : (F_conj w_UNKNOWN w_UNKNOWN w_TRUE w_FALSE w_UNKNOWN) = w_UNKNOWN := by rw [F_conj, if_neg ne_UNKNOWN_FALSE, if_neg ne_UNKNOWN_FALSE, if_neg ne_UNKNOWN_TRUE]
          rw [q89] at st89
          obtain ⟨_, _, ⟨T90, L90, k90, n90⟩, -, X90, ⟨Lc90, hQ90, l90, y90, z90⟩, st90⟩ := Jvm.LawKit.callS X89 hx (y := (⟨"com/example/gard/gard/core/TruthAndPinLaw", "rank", "(Lcom/example/gard/gard/core/Truth;)I"⟩ : MethodName)) hown (mvT hZ (hw _ (List.mem_of_getElem? (i := 16) rfl))) (mvT hZ (hw _ (List.mem_of_getElem? (i := 17) rfl))) (mvT hZ (hw _ (List.mem_of_getElem? (i := 2) rfl))) (mvT hZ (hw _ (List.mem_of_getElem? (i := 18) rfl))) (by decide) (backOf (W := 0) (rm_rank l Z a0' hw [] w_UNKNOWN w_TRUE w_UNKNOWN h0 n0 Z0 S_TRUE S_UNKNOWN) hZ (hw _ (List.mem_of_getElem? (i := 18) rfl)) (hw _ (List.mem_of_getElem? (i := 2) rfl)) (by decide) (by decide)) (g := (mkF m 26 #[.val (.int p0), .val (.int p1), .val (.ref w_UNKNOWN), .val (.ref w_UNKNOWN), .val (.ref w_UNKNOWN)] [(.ref w_UNKNOWN)])) rfl (by rw [hml]; rfl) (argsL := [(.ref w_UNKNOWN)]) (rest := []) (lenOf own_pd2 rfl) rfl (by show 2 * 0 + _ ≤ _; exact Nat.le_of_eq rfl) (hb hby at_26) (fun _ _ => ⟨rfl, e89, (by decide : 0 + 0 ≤ _), (by decide : 0 + 0 ≤ _)⟩)
          dsimp only [Pt.U, Pt.locs, Pt.cells, Pt.slots] at X90 l90 y90 z90 st90 hQ90
          subst l90 y90 z90
          obtain ⟨rfl, N90q, e90⟩ := hQ90
          have N90 := Fr.app N89 N90q
          have q90 : (F_rank w_UNKNOWN w_TRUE w_UNKNOWN) = (1 : Int32) := by rw [F_rank, if_neg ne_UNKNOWN_TRUE, if_pos (rfl : w_UNKNOWN = w_UNKNOWN)]
          rw [q90] at st90
          obtain ⟨_, _, ⟨T91, L91, k91, n91⟩, -, X91, ⟨Lc91, hQ91, l91, y91, z91⟩, st91⟩ := Jvm.LawKit.callS X90 hx (y := (⟨"com/example/gard/gard/core/TruthAndPinLaw", "rank", "(Lcom/example/gard/gard/core/Truth;)I"⟩ : MethodName)) hown (mvT hZ (hw _ (List.mem_of_getElem? (i := 16) rfl))) (mvT hZ (hw _ (List.mem_of_getElem? (i := 17) rfl))) (mvT hZ (hw _ (List.mem_of_getElem? (i := 2) rfl))) (mvT hZ (hw _ (List.mem_of_getElem? (i := 18) rfl))) (by decide) (backOf (W := 1) (rm_rank l Z a0' hw [] w_UNKNOWN w_TRUE w_UNKNOWN h0 n0 Z0 S_TRUE S_UNKNOWN) hZ (hw _ (List.mem_of_getElem? (i := 18) rfl)) (hw _ (List.mem_of_getElem? (i := 2) rfl)) (by decide) (by decide)) (g := (mkF m 30 #[.val (.int p0), .val (.int p1), .val (.ref w_UNKNOWN), .val (.ref w_UNKNOWN), .val (.ref w_UNKNOWN)] [(.ref w_UNKNOWN), (.int (1 : Int32))])) rfl (by rw [hml]; rfl) (argsL := [(.ref w_UNKNOWN)]) (rest := [(.int (1 : Int32))]) (lenOf own_pd2 rfl) rfl (by show 2 * 0 + _ ≤ _; exact Nat.le_of_eq rfl) (hb hby at_30) (fun _ _ => ⟨rfl, e90, (by decide : 0 + 0 ≤ _), (by decide : 0 + 0 ≤ _)⟩)
          dsimp only [Pt.U, Pt.locs, Pt.cells, Pt.slots] at X91 l91 y91 z91 st91 hQ91
          subst l91 y91 z91
          obtain ⟨rfl, N91q, e91⟩ := hQ91
          have N91 := Fr.app N90 N91q
          have q91 : (F_rank w_UNKNOWN w_TRUE w_UNKNOWN) = (1 : Int32) := by rw [F_rank, if_neg ne_UNKNOWN_TRUE, if_pos (rfl : w_UNKNOWN = w_UNKNOWN)]
          rw [q91] at st91
          obtain ⟨_, _, ⟨T92, L92, k92, n92⟩, -, X92, ⟨Lc92, hQ92, l92, y92, z92⟩, st92⟩ := Jvm.LawKit.callS X91 hx (y := (⟨"com/example/gard/gard/core/TruthAndPinLaw", "rank", "(Lcom/example/gard/gard/core/Truth;)I"⟩ : MethodName)) hown (mvT hZ (hw _ (List.mem_of_getElem? (i := 16) rfl))) (mvT hZ (hw _ (List.mem_of_getElem? (i := 17) rfl))) (mvT hZ (hw _ (List.mem_of_getElem? (i := 2) rfl))) (mvT hZ (hw _ (List.mem_of_getElem? (i := 18) rfl))) (by decide) (backOf (W := 2) (rm_rank l Z a0' hw [] w_UNKNOWN w_TRUE w_UNKNOWN h0 n0 Z0 S_TRUE S_UNKNOWN) hZ (hw _ (List.mem_of_getElem? (i := 18) rfl)) (hw _ (List.mem_of_getElem? (i := 2) rfl)) (by decide) (by decide)) (g := (mkF m 34 #[.val (.int p0), .val (.int p1), .val (.ref w_UNKNOWN), .val (.ref w_UNKNOWN), .val (.ref w_UNKNOWN)] [(.ref w_UNKNOWN), (.int (1 : Int32)), (.int (1 : Int32))])) rfl (by rw [hml]; rfl) (argsL := [(.ref w_UNKNOWN)]) (rest := [(.int (1 : Int32)), (.int (1 : Int32))]) (lenOf own_pd2 rfl) rfl (by show 2 * 0 + _ ≤ _; exact Nat.le_of_eq rfl) (hb hby at_34) (fun _ _ => ⟨rfl, e91, (by decide : 0 + 0 ≤ _), (by decide : 0 + 0 ≤ _)⟩)
          dsimp only [Pt.U, Pt.locs, Pt.cells, Pt.slots] at X92 l92 y92 z92 st92 hQ92
          subst l92 y92 z92
          obtain ⟨rfl, N92q, e92⟩ := hQ92
          have N92 := Fr.app N91 N92q
          have q92 : (F_rank w_UNKNOWN w_TRUE w_UNKNOWN) = (1 : Int32) := by rw [F_rank, if_neg ne_UNKNOWN_TRUE, if_pos (rfl : w_UNKNOWN = w_UNKNOWN)]
          rw [q92] at st92
          obtain ⟨_, _, ⟨T93, L93, k93, n93⟩, -, X93, ⟨Lc93, hQ93, l93, y93, z93⟩, st93⟩ := Jvm.LawKit.callS X92 hx (y := (⟨"java/lang/Math", "min", "(II)I"⟩ : MethodName)) hown (mvT hZ (hw _ (List.mem_of_getElem? (i := 19) rfl))) (mvT hZ (hw _ (List.mem_of_getElem? (i := 20) rfl))) (mvT hZ (hw _ (List.mem_of_getElem? (i := 21) rfl))) (mvT hZ (hw _ (List.mem_of_getElem? (i := 22) rfl))) (by decide) (backOf (W := 1) (rm_min l Z a0' hw [] (1 : Int32) (1 : Int32) h0 n0 Z0) hZ (hw _ (List.mem_of_getElem? (i := 22) rfl)) (hw _ (List.mem_of_getElem? (i := 21) rfl)) (by decide) (by decide)) (g := (mkF m 37 #[.val (.int p0), .val (.int p1), .val (.ref w_UNKNOWN), .val (.ref w_UNKNOWN), .val (.ref w_UNKNOWN)] [(.int (1 : Int32)), (.int (1 : Int32)), (.int (1 : Int32))])) rfl (by rw [hml]; rfl) (argsL := [(.int (1 : Int32)), (.int (1 : Int32))]) (rest := [(.int (1 : Int32))]) (lenOf own_pd3 rfl) rfl (by show 2 * 0 + _ ≤ _; exact Nat.le_of_eq rfl) (hb hby at_37) (fun _ _ => ⟨rfl, e92, (by decide : 0 + 0 ≤ _), (by decide : 0 + 0 ≤ _)⟩)
          dsimp only [Pt.U, Pt.locs, Pt.cells, Pt.slots] at X93 l93 y93 z93 st93 hQ93
          subst l93 y93 z93
          obtain ⟨rfl, N93q, e93⟩ := hQ93
          have N93 := Fr.app N92 N93q
          have q93 : (F_min (1 : Int32) (1 : Int32)) = (1 : Int32) := by rw [F_min, if_neg (by decide : ¬ ((1 : Int32) < (1 : Int32)))]
          rw [q93] at st93
          obtain ⟨fs, hr, hrun, hended, hW, hsame⟩ := X93.leave (v := some (.int (1 : Int32))) (fun h => by rw [Bd.returns] at h; cases h)
          refine ⟨_, _, pre76 _ ?_, hrun, hended, _, _, rfl, ?_, ⟨_, rfl⟩, hW, hsame.mono (by decide) (by decide)⟩
          · show Steps p.tables e below (T33.setTop (mkF m 6 #[.val (.int p0), .val (.int p1), .val (.ref w_UNKNOWN), .unset, .unset] [(.int p1)])) _
            refine st75 _ ?_
            show Steps p.tables e below (T75.setTop (mkF m 9 #[.val (.int p0), .val (.int p1), .val (.ref w_UNKNOWN), .unset, .unset] [(.ref w_UNKNOWN)])) _
            refine XS.astoreN X75.here hx rfl (hb hby at_9) rfl rfl (l' := #[.val (.int p0), .val (.int p1), .val (.ref w_UNKNOWN), .val (.ref w_UNKNOWN), .unset]) rfl ?_
            show Steps p.tables e below (T75.setTop (mkF m 10 #[.val (.int p0), .val (.int p1), .val (.ref w_UNKNOWN), .val (.ref w_UNKNOWN), .unset] [])) _
            refine XS.aloadN X75.here hx rfl (hb hby at_10) rfl rfl ?_
            show Steps p.tables e below (T75.setTop (mkF m 11 #[.val (.int p0), .val (.int p1), .val (.ref w_UNKNOWN), .val (.ref w_UNKNOWN), .unset] [(.ref w_UNKNOWN)])) _
            refine XS.aloadN X75.here hx rfl (hb hby at_11) rfl rfl ?_
            show Steps p.tables e below (T75.setTop (mkF m 12 #[.val (.int p0), .val (.int p1), .val (.ref w_UNKNOWN), .val (.ref w_UNKNOWN), .unset] [(.ref w_UNKNOWN), (.ref w_UNKNOWN)])) _
            refine st89.trans ?_
            show Steps p.tables e below (T89.setTop (mkF m 15 #[.val (.int p0), .val (.int p1), .val (.ref w_UNKNOWN), .val (.ref w_UNKNOWN), .unset] [(.ref w_UNKNOWN)])) _
            refine XS.astore X89.here hx rfl (hb hby at_15) rfl rfl (l' := #[.val (.int p0), .val (.int p1), .val (.ref w_UNKNOWN), .val (.ref w_UNKNOWN), .val (.ref w_UNKNOWN)]) rfl ?_
            show Steps p.tables e below (T89.setTop (mkF m 17 #[.val (.int p0), .val (.int p1), .val (.ref w_UNKNOWN), .val (.ref w_UNKNOWN), .val (.ref w_UNKNOWN)] [])) _
            refine XS.aload X89.here hx rfl (hb hby at_17) rfl rfl ?_
            show Steps p.tables e below (T89.setTop (mkF m 19 #[.val (.int p0), .val (.int p1), .val (.ref w_UNKNOWN), .val (.ref w_UNKNOWN), .val (.ref w_UNKNOWN)] [(.ref w_UNKNOWN)])) _
            refine XS.ifnonnullYes X89.here hx rfl (pc0 := 19) (pc' := 24) rfl (hb hby at_19) rfl (by decide) (by decide) ?_
            show Steps p.tables e below (T89.setTop (mkF m 24 #[.val (.int p0), .val (.int p1), .val (.ref w_UNKNOWN), .val (.ref w_UNKNOWN), .val (.ref w_UNKNOWN)] [])) _
            refine XS.aload X89.here hx rfl (hb hby at_24) rfl rfl ?_
            show Steps p.tables e below (T89.setTop (mkF m 26 #[.val (.int p0), .val (.int p1), .val (.ref w_UNKNOWN), .val (.ref w_UNKNOWN), .val (.ref w_UNKNOWN)] [(.ref w_UNKNOWN)])) _
            refine st90 _ ?_
            show Steps p.tables e below (T90.setTop (mkF m 29 #[.val (.int p0), .val (.int p1), .val (.ref w_UNKNOWN), .val (.ref w_UNKNOWN), .val (.ref w_UNKNOWN)] [(.int (1 : Int32))])) _
            refine XS.aloadN X90.here hx rfl (hb hby at_29) rfl rfl ?_
            show Steps p.tables e below (T90.setTop (mkF m 30 #[.val (.int p0), .val (.int p1), .val (.ref w_UNKNOWN), .val (.ref w_UNKNOWN), .val (.ref w_UNKNOWN)] [(.ref w_UNKNOWN), (.int (1 : Int32))])) _
            refine st91 _ ?_
            show Steps p.tables e below (T91.setTop (mkF m 33 #[.val (.int p0), .val (.int p1), .val (.ref w_UNKNOWN), .val (.ref w_UNKNOWN), .val (.ref w_UNKNOWN)] [(.int (1 : Int32)), (.int (1 : Int32))])) _
            refine XS.aloadN X91.here hx rfl (hb hby at_33) rfl rfl ?_
            show Steps p.tables e below (T91.setTop (mkF m 34 #[.val (.int p0), .val (.int p1), .val (.ref w_UNKNOWN), .val (.ref w_UNKNOWN), .val (.ref w_UNKNOWN)] [(.ref w_UNKNOWN), (.int (1 : Int32)), (.int (1 : Int32))])) _
            refine st92 _ ?_
            show Steps p.tables e below (T92.setTop (mkF m 37 #[.val (.int p0), .val (.int p1), .val (.ref w_UNKNOWN), .val (.ref w_UNKNOWN), .val (.ref w_UNKNOWN)] [(.int (1 : Int32)), (.int (1 : Int32)), (.int (1 : Int32))])) _
            refine st93 _ ?_
            show Steps p.tables e below (T93.setTop (mkF m 40 #[.val (.int p0), .val (.int p1), .val (.ref w_UNKNOWN), .val (.ref w_UNKNOWN), .val (.ref w_UNKNOWN)] [(.int (1 : Int32)), (.int (1 : Int32))])) _
            refine XS.icmpNo X93.here hx rfl (hb hby at_40) rfl (teq (by decide : (1 : Int32) = (1 : Int32))).2 ?_
            show Steps p.tables e below (T93.setTop (mkF m 43 #[.val (.int p0), .val (.int p1), .val (.ref w_UNKNOWN), .val (.ref w_UNKNOWN), .val (.ref w_UNKNOWN)] [])) _
            refine XS.iconst X93.here hx rfl (hb hby at_43) ?_
            show Steps p.tables e below (T93.setTop (mkF m 44 #[.val (.int p0), .val (.int p1), .val (.ref w_UNKNOWN), .val (.ref w_UNKNOWN), .val (.ref w_UNKNOWN)] [(.int (1 : Int32))])) _
            refine XS.goto X93.here hx rfl (pc0 := 44) (pc' := 48) rfl (hb hby at_44) (by decide) (by decide) ?_
            show Steps p.tables e below (T93.setTop (mkF m 48 #[.val (.int p0), .val (.int p1), .val (.ref w_UNKNOWN), .val (.ref w_UNKNOWN), .val (.ref w_UNKNOWN)] [(.int (1 : Int32))])) _
            exact retN X93 hx (t := .boolean) Bd.returns (by simp) (hb hby at_48) hr
          · show Q_law Z p0 p1 w_TRUE w_FALSE w_UNKNOWN h0 n0 _ T93.heap _
            refine ⟨?_, N93, trivial⟩
            rw [F_law, if_neg hs_35, if_neg hs_55, if_neg hs_77, if_neg hs_83]
theorem own_law (p0 : Int32) (p1 : Int32) : F_law p0 p1 = 1 := by
  unfold F_law
  repeat' split
  all_goals rfl
set_option maxRecDepth 65536 in
set_option maxHeartbeats 40000000 in
theorem own_comes {Post : Tables → Env → Array Value → State → Outcome → State → Prop} (hpost : ∀ tb e args s v u, (limb_1_1.after args s (.returned v) u = true ∧ limb_1_2.after args s (.returned v) u = true ∧ True) → FrameEnd s (.returned v) u (Jvm.fieldLocs frame_1_writes args s ++ Jvm.arrayLocs frame_1_arrays args s ++ Jvm.staticLocs frame_1_statics s) 0 0 → Post tb e args s (.returned v) u) :
    ArmFor flags0 classFile x code maxLocals ret World_1 tables_1 room_1 Calls_1 rest_1 Pre_1 Post := by
  intro l hfl _ _ p e ha hc hk s m args below hf hA hF happ hP
  obtain ⟨hcalls, hrest, hpre⟩ := hP
  obtain ⟨-, -, -, hnamed, -, -, -, hat⟩ := (Spec.applies_iff hf).mp happ
  obtain ⟨hg, hn⟩ := and_e (Cond.before_iff.mp (show (Jvm.Cond.and given_1 narrow_1).before args s = true from hpre))
  obtain ⟨g1, g1'⟩ := and_e hg
  obtain ⟨g2, g2'⟩ := and_e g1'
  obtain ⟨g3, g3'⟩ := and_e hn
  obtain ⟨g4, g4'⟩ := and_e g3'
  obtain ⟨g5, g5'⟩ := and_e g4'
  obtain ⟨g6, g6'⟩ := and_e g5'
  obtain ⟨g7, g7'⟩ := and_e g6'
  obtain ⟨u0, u1, rfl⟩ : ∃ u0 u1 : Value, args = #[u0, u1] := by
    have hs : args.size = 2 := by simpa [Cond.value, given_1] using g1
    obtain ⟨L⟩ := args
    match L, hs with
    | [u0, u1], _ => exact ⟨u0, u1, rfl⟩
  have hw := fun d (hd : d ∈ tables_1) => atoms_spec (ws := Jvm.Cond.code x code maxLocals ret :: tables_1) hat d (List.mem_cons_of_mem _ hd)
  obtain ⟨i0, ei0⟩ := is_v g2
  obtain rfl : u0 = (.int i0) := Option.some.inj ei0
  obtain ⟨i1, ei1⟩ := is_v g2'
  obtain rfl : u1 = (.int i1) := Option.some.inj ei1
  obtain ⟨w_TRUE, ev_TRUE⟩ := exa_v g3
  have E_TRUE := Exa.start ev_TRUE g3
  have S_TRUE := Sta.start ev_TRUE (Or.inr ⟨(hw _ (List.mem_of_getElem? (i := 6) rfl)), (hw _ (List.mem_of_getElem? (i := 7) rfl))⟩)
  obtain ⟨w_FALSE, ev_FALSE⟩ := exa_v g4
  have E_FALSE := Exa.start ev_FALSE g4
  have S_FALSE := Sta.start ev_FALSE (Or.inr ⟨(hw _ (List.mem_of_getElem? (i := 6) rfl)), (hw _ (List.mem_of_getElem? (i := 14) rfl))⟩)
  obtain ⟨w_UNKNOWN, ev_UNKNOWN⟩ := exa_v g7
  have E_UNKNOWN := Exa.start ev_UNKNOWN g7
  have S_UNKNOWN := Sta.start ev_UNKNOWN (Or.inr ⟨(hw _ (List.mem_of_getElem? (i := 6) rfl)), (hw _ (List.mem_of_getElem? (i := 24) rfl))⟩)
  have o_TRUE := (fld_at ev_TRUE).symm.trans (own_eqk g5)
  have o_FALSE := (fld_at ev_FALSE).symm.trans (own_eqk g6)
  have o_UNKNOWN := (fld_at ev_UNKNOWN).symm.trans (own_eqk g7')
  have ne_TRUE_FALSE : ¬ (w_TRUE = w_FALSE) := fun q => by
    have q2 : s.fieldOf? w_TRUE "java/lang/Enum" "ordinal" "I" = s.fieldOf? w_FALSE "java/lang/Enum" "ordinal" "I" := by rw [q]
    rw [o_TRUE, o_FALSE] at q2
    simp at q2
  have ne_FALSE_TRUE : ¬ (w_FALSE = w_TRUE) := fun q => by
    have q2 : s.fieldOf? w_FALSE "java/lang/Enum" "ordinal" "I" = s.fieldOf? w_TRUE "java/lang/Enum" "ordinal" "I" := by rw [q]
    rw [o_FALSE, o_TRUE] at q2
    simp at q2
  have ne_FALSE_UNKNOWN : ¬ (w_FALSE = w_UNKNOWN) := fun q => by
    have q2 : s.fieldOf? w_FALSE "java/lang/Enum" "ordinal" "I" = s.fieldOf? w_UNKNOWN "java/lang/Enum" "ordinal" "I" := by rw [q]
    rw [o_FALSE, o_UNKNOWN] at q2
    simp at q2
  have ne_UNKNOWN_TRUE : ¬ (w_UNKNOWN = w_TRUE) := fun q => by
    have q2 : s.fieldOf? w_UNKNOWN "java/lang/Enum" "ordinal" "I" = s.fieldOf? w_TRUE "java/lang/Enum" "ordinal" "I" := by rw [q]
    rw [o_UNKNOWN, o_TRUE] at q2
    simp at q2
  have ne_UNKNOWN_FALSE : ¬ (w_UNKNOWN = w_FALSE) := fun q => by
    have q2 : s.fieldOf? w_UNKNOWN "java/lang/Enum" "ordinal" "I" = s.fieldOf? w_FALSE "java/lang/Enum" "ordinal" "I" := by rw [q]
    rw [o_UNKNOWN, o_FALSE] at q2
    simp at q2
  have hlaw := own_law i0 i1
  obtain ⟨n, o, h1, h2, h3, v, L, rfl, ⟨hv, N, -⟩, hq⟩ := rm_law l s _ hw tables_1 i0 i1 w_TRUE w_FALSE w_UNKNOWN s.heap s.heap.size (Nat.le_refl _) S_TRUE E_TRUE S_FALSE E_FALSE S_UNKNOWN E_UNKNOWN ne_TRUE_FALSE ne_FALSE_TRUE ne_FALSE_UNKNOWN ne_UNKNOWN_TRUE ne_UNKNOWN_FALSE p e ha hc hk s m _ below hf ((Spec.applies_iff_loose hf).mp happ).1 ⟨rfl, State.Warmed39.refl s, rfl⟩ trivial
  rw [hlaw] at hv
  subst hv
  refine ⟨n, _, h1, h2, h3, hpost _ _ _ _ _ _ ⟨Cond.after_iff.mpr rfl, Cond.after_iff.mpr (eq_i res_at (Term.int_eval (1)) rfl), trivial⟩ ⟨hq.1, hq.2.1, (hq.2.2.sift fun y hy => Or.inr (N y hy)).mono (by decide) (by decide)⟩⟩
theorem main_1_1 : Claimed_1_1 := own_comes fun _ _ _ _ _ _ h hF => ⟨h.1, hF⟩
theorem main_1_2 : Claimed_1_2 := own_comes fun _ _ _ _ _ _ h hF => ⟨h.2.1, hF⟩
end Jvm.Pilot.@@N@@
namespace Jvm.Pilot.@@N@@
open Jvm Jvm.ClassFile Sem Op Lib Jvm.Free Jvm.Stand Jvm.Pilot.@@N@@.Jvm.D
/-! MADE BY PROGRAM (witnessworld.py) out of the Statement's table words and the real class files: 13 classes; the members and pool entries that the words name. The judged class is class 1, her method 3. -/
namespace start1
open Jvm.ClassFile
def u (s : String) : CpInfo := .utf8 (stringToUtf16 s)
/-- a pool by its gaps: so many unusable entries, then the entry; so many at the end -/
def gap : Nat → List CpInfo → List CpInfo
  | 0, r => r
  | n + 1, r => .unusable :: gap n r
def poolList (es : List (Nat × CpInfo)) (last : Nat) : List CpInfo := es.foldr (fun e r => gap e.1 (e.2 :: r)) (gap last [])
def pool (es : List (Nat × CpInfo)) (last : Nat) : Array CpInfo := ⟨poolList es last⟩
def fileOf (pool : Array CpInfo) (this : Nat) (attrs : Array Attribute := #[]) (ms : Array MethodInfo := #[]) (fl : Nat := 33) (sup : Nat := 0) (ifs : Array Nat := #[]) (fds : Array FieldInfo := #[]) : ClassFile where
  minorVersion := 0
  majorVersion := 65
  constantPool := pool
  accessFlags := fl
  thisClass := this
  superClass := sup
  interfaces := ifs
  fields := fds
  methods := ms
  attributes := attrs
def plain (name : String) (sup : Option ClassId) : Class where
  name := name
  kind := .ordinary
  loader := none
  accessFlags := 33
  super := sup
  interfaces := #[]
  cf := none
  fields := #[]
  methods := #[]
  instanceTypes := #[]
  staticTypes := #[]
  resolved := #[]
  callSites := []
  init := .initialized
  statics := none
  mirror := none

def pool0 : Array CpInfo := pool [(5, u "<init>"), (0, u "()V"), (1, .class_ 10), (1, u "java/lang/Object")] 113

def k0m0 : Method := { name := "<init>", desc := "()V", sig := { parameters := [], returnType := none }, accessFlags := 1, code := none }
/-- java/lang/Object -/
def k0 : Class := { plain "java/lang/Object" none with
  accessFlags := 33
  interfaces := #[]
  cf := some (fileOf pool0 8 #[] #[{ accessFlags := 1, nameIndex := 5, descriptorIndex := 6, attributes := #[] }] 33 0 #[] #[])
  fields := #[]
  methods := #[k0m0]
  instanceTypes := #[]
  staticTypes := #[]
  resolved := Array.replicate 124 none
  statics := none }

def pool1 : Array CpInfo := pool [(2, .class_ 4), (1, u "java/lang/Object"), (0, u "<init>"), (0, u "()V"), (0, .integer 2147483647), (0, .fieldref 9 10), (0, .class_ 11), (0, .nameAndType 12 13), (0, u "com/example/gard/gard/core/Truth"), (0, u "TRUE"), (0, u "Lcom/example/gard/gard/core/Truth;"), (0, .fieldref 9 15), (0, .nameAndType 16 13), (0, u "FALSE"), (0, .fieldref 9 18), (0, .nameAndType 19 13), (0, u "UNKNOWN"), (0, .methodref 21 22), (0, .class_ 23), (0, .nameAndType 24 25), (0, u "com/example/gard/gard/core/TruthAndPinLaw"), (0, u "pick"), (0, u "(I)Lcom/example/gard/gard/core/Truth;"), (0, .methodref 9 27), (0, .nameAndType 28 29), (0, u "and"), (0, u "(Lcom/example/gard/gard/core/Truth;)Lcom/example/gard/gard/core/Truth;"), (0, .methodref 21 31), (0, .nameAndType 32 33), (0, u "rank"), (0, u "(Lcom/example/gard/gard/core/Truth;)I"), (0, .methodref 35 36), (0, .class_ 37), (0, .nameAndType 38 39), (0, u "java/lang/Math"), (0, u "min"), (0, u "(II)I"), (3, u "law"), (0, u "(II)Z")] 2

def k1m0 : Method := { name := "<init>", desc := "()V", sig := { parameters := [], returnType := none }, accessFlags := 2, code := none }
def k1c1 : Code := { maxStack := 2, maxLocals := 2, code := method_2_code, exceptionTable := #[], attributes := #[] }
def k1m1 : Method := { name := "pick", desc := "(I)Lcom/example/gard/gard/core/Truth;", sig := { parameters := [.int], returnType := some (.object "com/example/gard/gard/core/Truth") }, accessFlags := 10, code := some k1c1 }
def k1c2 : Code := { maxStack := 2, maxLocals := 1, code := method_3_code, exceptionTable := #[], attributes := #[] }
def k1m2 : Method := { name := "rank", desc := "(Lcom/example/gard/gard/core/Truth;)I", sig := { parameters := [(.object "com/example/gard/gard/core/Truth")], returnType := some .int }, accessFlags := 10, code := some k1c2 }
def k1c3 : Code := { maxStack := 3, maxLocals := 5, code := code, exceptionTable := #[], attributes := #[] }
def k1m3 : Method := { name := "law", desc := "(II)Z", sig := { parameters := [.int, .int], returnType := some .boolean }, accessFlags := 9, code := some k1c3 }
/-- com/example/gard/gard/core/TruthAndPinLaw -/
def k1 : Class := { plain "com/example/gard/gard/core/TruthAndPinLaw" (some 0) with
  accessFlags := 49
  interfaces := #[]
  cf := some (fileOf pool1 21 #[] #[{ accessFlags := 2, nameIndex := 5, descriptorIndex := 6, attributes := #[] }, { accessFlags := 10, nameIndex := 24, descriptorIndex := 25, attributes := #[] }, { accessFlags := 10, nameIndex := 32, descriptorIndex := 33, attributes := #[] }, { accessFlags := 9, nameIndex := 43, descriptorIndex := 44, attributes := #[] }] 49 2 #[] #[])
  fields := #[]
  methods := #[k1m0, k1m1, k1m2, k1m3]
  instanceTypes := #[]
  staticTypes := #[]
  resolved := Array.replicate 47 none
  statics := none }

def pool2 : Array CpInfo := pool [(1, .class_ 2), (0, u "java/lang/constant/Constable"), (0, .class_ 4), (0, u "java/lang/Object")] 6

/-- java/lang/constant/Constable -/
def k2 : Class := { plain "java/lang/constant/Constable" (some 0) with
  accessFlags := 1537
  interfaces := #[]
  cf := some (fileOf pool2 1 #[] #[] 1537 3 #[] #[])
  fields := #[]
  methods := #[]
  instanceTypes := #[]
  staticTypes := #[]
  resolved := Array.replicate 11 none
  statics := none }

def pool3 : Array CpInfo := pool [(1, .class_ 2), (0, u "java/lang/Comparable"), (0, .class_ 4), (0, u "java/lang/Object")] 7

/-- java/lang/Comparable -/
def k3 : Class := { plain "java/lang/Comparable" (some 0) with
  accessFlags := 1537
  interfaces := #[]
  cf := some (fileOf pool3 1 #[] #[] 1537 3 #[] #[])
  fields := #[]
  methods := #[]
  instanceTypes := #[]
  staticTypes := #[]
  resolved := Array.replicate 12 none
  statics := none }

def pool4 : Array CpInfo := pool [(1, .class_ 2), (0, u "java/io/Serializable"), (0, .class_ 4), (0, u "java/lang/Object")] 2

/-- java/io/Serializable -/
def k4 : Class := { plain "java/io/Serializable" (some 0) with
  accessFlags := 1537
  interfaces := #[]
  cf := some (fileOf pool4 1 #[] #[] 1537 3 #[] #[])
  fields := #[]
  methods := #[]
  instanceTypes := #[]
  staticTypes := #[]
  resolved := Array.replicate 7 none
  statics := none }

def pool5 : Array CpInfo := pool [(2, .class_ 4), (1, u "java/lang/Enum"), (0, u "name"), (0, u "Ljava/lang/String;"), (2, u "ordinal"), (0, u "I"), (1, .class_ 14), (1, u "java/lang/Object"), (4, u "hash"), (86, .class_ 108), (1, u "java/lang/Enum$EnumDesc"), (2, .class_ 112), (0, u "java/lang/constant/Constable"), (0, .class_ 114), (0, u "java/lang/Comparable"), (0, .class_ 116), (0, u "java/io/Serializable")] 87

/-- java/lang/Enum -/
def k5 : Class := { plain "java/lang/Enum" (some 0) with
  accessFlags := 1057
  interfaces := #[2, 3, 4]
  cf := some (fileOf pool5 2 #[.nestMembers #[106]] #[] 1057 12 #[111, 113, 115] #[{ accessFlags := 18, nameIndex := 5, descriptorIndex := 6, attributes := #[] }, { accessFlags := 18, nameIndex := 9, descriptorIndex := 10, attributes := #[] }, { accessFlags := 2, nameIndex := 19, descriptorIndex := 10, attributes := #[] }])
  fields := #[{ name := "name", type := (.object "java/lang/String"), accessFlags := 18, slot := 0, constantValue := 0 }, { name := "ordinal", type := .int, accessFlags := 18, slot := 1, constantValue := 0 }, { name := "hash", type := .int, accessFlags := 2, slot := 2, constantValue := 0 }]
  methods := #[]
  instanceTypes := #[(.object "java/lang/String"), .int, .int]
  staticTypes := #[]
  resolved := Array.replicate 204 none
  statics := none }

def pool6 : Array CpInfo := pool [(1, .class_ 2), (0, u "com/example/gard/gard/core/Truth"), (0, .fieldref 1 4), (0, .nameAndType 5 6), (0, u "TRUE"), (0, u "Lcom/example/gard/gard/core/Truth;"), (0, .fieldref 1 8), (0, .nameAndType 9 6), (0, u "FALSE"), (0, .fieldref 1 11), (0, .nameAndType 12 6), (0, u "UNKNOWN"), (2, u "$VALUES"), (0, u "[Lcom/example/gard/gard/core/Truth;"), (6, .class_ 25), (1, u "java/lang/Enum"), (35, u "and"), (0, u "(Lcom/example/gard/gard/core/Truth;)Lcom/example/gard/gard/core/Truth;")] 5

def k6c0 : Code := { maxStack := 2, maxLocals := 3, code := prog_57_method_6_code, exceptionTable := #[], attributes := #[] }
def k6m0 : Method := { name := "and", desc := "(Lcom/example/gard/gard/core/Truth;)Lcom/example/gard/gard/core/Truth;", sig := { parameters := [(.object "com/example/gard/gard/core/Truth")], returnType := some (.object "com/example/gard/gard/core/Truth") }, accessFlags := 1, code := some k6c0 }
/-- com/example/gard/gard/core/Truth -/
def k6 : Class := { plain "com/example/gard/gard/core/Truth" (some 5) with
  accessFlags := 16433
  interfaces := #[]
  cf := some (fileOf pool6 1 #[] #[{ accessFlags := 1, nameIndex := 61, descriptorIndex := 62, attributes := #[] }] 16433 23 #[] #[{ accessFlags := 16409, nameIndex := 5, descriptorIndex := 6, attributes := #[] }, { accessFlags := 16409, nameIndex := 9, descriptorIndex := 6, attributes := #[] }, { accessFlags := 16409, nameIndex := 12, descriptorIndex := 6, attributes := #[] }, { accessFlags := 4122, nameIndex := 15, descriptorIndex := 16, attributes := #[] }])
  fields := #[{ name := "TRUE", type := (.object "com/example/gard/gard/core/Truth"), accessFlags := 16409, slot := 0, constantValue := 0 }, { name := "FALSE", type := (.object "com/example/gard/gard/core/Truth"), accessFlags := 16409, slot := 1, constantValue := 0 }, { name := "UNKNOWN", type := (.object "com/example/gard/gard/core/Truth"), accessFlags := 16409, slot := 2, constantValue := 0 }, { name := "$VALUES", type := (.array (.object "com/example/gard/gard/core/Truth")), accessFlags := 4122, slot := 3, constantValue := 0 }]
  methods := #[k6m0]
  instanceTypes := #[(.object "java/lang/String"), .int, .int]
  staticTypes := #[(.object "com/example/gard/gard/core/Truth"), (.object "com/example/gard/gard/core/Truth"), (.object "com/example/gard/gard/core/Truth"), (.array (.object "com/example/gard/gard/core/Truth"))]
  resolved := Array.replicate 68 none
  statics := some 0 }

def pool7 : Array CpInfo := pool [(1, .class_ 2), (0, u "java/lang/Math"), (1, .class_ 6), (1, u "java/lang/Object"), (0, u "<init>"), (0, u "()V"), (89, .class_ 100), (1, u "java/lang/Math$RandomNumberGeneratorHolder"), (71, u "negativeZeroFloatBits"), (0, u "J"), (2, u "negativeZeroDoubleBits"), (24, u "min"), (43, u "$assertionsDisabled"), (0, u "Z"), (88, u "(II)I"), (2, u "twoToTheDoubleScaleDown"), (0, u "D"), (4, u "twoToTheDoubleScaleUp"), (9, u "E"), (3, u "PI"), (2, u "TAU"), (2, u "DEGREES_TO_RADIANS"), (0, u "RADIANS_TO_DEGREES")] 94

def k7m0 : Method := { name := "<init>", desc := "()V", sig := { parameters := [], returnType := none }, accessFlags := 2, code := none }
def k7c1 : Code := { maxStack := 2, maxLocals := 2, code := jdk_29_method_69_code, exceptionTable := #[], attributes := #[] }
def k7m1 : Method := { name := "min", desc := "(II)I", sig := { parameters := [.int, .int], returnType := some .int }, accessFlags := 9, code := some k7c1 }
/-- java/lang/Math -/
def k7 : Class := { plain "java/lang/Math" (some 0) with
  accessFlags := 49
  interfaces := #[]
  cf := some (fileOf pool7 1 #[.nestMembers #[98]] #[{ accessFlags := 2, nameIndex := 7, descriptorIndex := 8, attributes := #[] }, { accessFlags := 9, nameIndex := 201, descriptorIndex := 335, attributes := #[] }] 49 4 #[] #[{ accessFlags := 25, nameIndex := 354, descriptorIndex := 339, attributes := #[] }, { accessFlags := 25, nameIndex := 358, descriptorIndex := 339, attributes := #[] }, { accessFlags := 25, nameIndex := 361, descriptorIndex := 339, attributes := #[] }, { accessFlags := 26, nameIndex := 364, descriptorIndex := 339, attributes := #[] }, { accessFlags := 26, nameIndex := 365, descriptorIndex := 339, attributes := #[] }, { accessFlags := 26, nameIndex := 172, descriptorIndex := 173, attributes := #[] }, { accessFlags := 26, nameIndex := 176, descriptorIndex := 173, attributes := #[] }, { accessFlags := 8, nameIndex := 344, descriptorIndex := 339, attributes := #[] }, { accessFlags := 8, nameIndex := 338, descriptorIndex := 339, attributes := #[] }, { accessFlags := 4120, nameIndex := 245, descriptorIndex := 246, attributes := #[] }])
  fields := #[{ name := "E", type := .double, accessFlags := 25, slot := 0, constantValue := 0 }, { name := "PI", type := .double, accessFlags := 25, slot := 1, constantValue := 0 }, { name := "TAU", type := .double, accessFlags := 25, slot := 2, constantValue := 0 }, { name := "DEGREES_TO_RADIANS", type := .double, accessFlags := 26, slot := 3, constantValue := 0 }, { name := "RADIANS_TO_DEGREES", type := .double, accessFlags := 26, slot := 4, constantValue := 0 }, { name := "negativeZeroFloatBits", type := .long, accessFlags := 26, slot := 5, constantValue := 0 }, { name := "negativeZeroDoubleBits", type := .long, accessFlags := 26, slot := 6, constantValue := 0 }, { name := "twoToTheDoubleScaleUp", type := .double, accessFlags := 8, slot := 7, constantValue := 0 }, { name := "twoToTheDoubleScaleDown", type := .double, accessFlags := 8, slot := 8, constantValue := 0 }, { name := "$assertionsDisabled", type := .boolean, accessFlags := 4120, slot := 9, constantValue := 0 }]
  methods := #[k7m0, k7m1]
  instanceTypes := #[]
  staticTypes := #[.double, .double, .double, .double, .double, .long, .long, .double, .double, .boolean]
  resolved := Array.replicate 460 none
  statics := none }

def pool8 : Array CpInfo := pool [(1, u "java/lang/Cloneable"), (0, .class_ 1), (0, u "java/lang/Object"), (0, .class_ 3)] 3

/-- java/lang/Cloneable -/
def k8 : Class := { plain "java/lang/Cloneable" (some 0) with
  accessFlags := 1537
  interfaces := #[]
  cf := some (fileOf pool8 2 #[] #[] 1537 4 #[] #[])
  fields := #[]
  methods := #[]
  instanceTypes := #[]
  staticTypes := #[]
  resolved := Array.replicate 8 none
  statics := none }

/-- the primitive byte -/
def k9 : Class := { plain "byte" none with kind := .primitive 'B', accessFlags := 0x411 }
/-- [B -/
def k10 : Class := { plain "[B" (some 0) with kind := .array 9 .byte, interfaces := #[8, 4], accessFlags := 1041 }

/-- the primitive int -/
def k11 : Class := { plain "int" none with kind := .primitive 'I', accessFlags := 0x411 }
/-- [I -/
def k12 : Class := { plain "[I" (some 0) with kind := .array 11 .int, interfaces := #[8, 4], accessFlags := 1041 }

def heap : Heap := #[{ cls := 6, slots := #[.ref 1, .ref 2, .ref 3, .null], vm := .statics 6 },
  { cls := 6, slots := #[.null, .int 0, .int 0], vm := .none },
  { cls := 6, slots := #[.null, .int 1, .int 0], vm := .none },
  { cls := 6, slots := #[.null, .int 2, .int 0], vm := .none }]
def classes : Array Class := #[k0, k1, k2, k3, k4, k5, k6, k7, k8, k9, k10, k11, k12]
def interned : List (Array UInt16 × Addr) := []
def slotsUsed : Nat := 13
def theMethod : MethodId := ⟨1, 3⟩
def args0 : Array Value := #[.int 5, .int 7]
def aboutOver (below : List Frame) : State where
  vm := { classes := classes, interned := interned.toArray }
  heap := heap
  slotsUsed := slotsUsed
  threads := #[{ frames := .invoking theMethod args0 :: below }]
def below0 : List Frame := [.native { method := ⟨0, 0⟩, args := #[] }]
def about1 : State := aboutOver below0
def p0 : Program := .bare "" "" ""
def e0 : Env := launch0.env 0 0 0
theorem w_frames : about1.frames = Frame.invoking theMethod args0 :: below0 := rfl
set_option maxRecDepth 65536 in
theorem w_args : argsFit about1.vm theMethod args0 = true := by decide +kernel
set_option maxRecDepth 65536 in
theorem w_heap : heapFits about1 = true := by decide +kernel
set_option maxRecDepth 65536 in
theorem w_runnable : about1.curStatus? = some .runnable := by decide +kernel
set_option maxRecDepth 65536 in
theorem w_alone : about1.alone = true := by decide +kernel
set_option maxRecDepth 65536 in
theorem w_named : about1.methodNamed? x = some theMethod := by decide +kernel
set_option maxRecDepth 65536 in
theorem w_hears : about1.hears theMethod below0 = true := by decide +kernel
set_option maxRecDepth 65536 in
theorem w_ripe : about1.ripe theMethod args0 below0 = true := by decide +kernel
theorem w_running : about1.status = .running := rfl
set_option maxRecDepth 65536 in
theorem w_room : about1.hasRoom e0.platform room_1 = true :=
  launch0.hasRoom_least _ room_1 (by decide +kernel) (by decide +kernel) (by decide +kernel) (by decide +kernel) (by decide +kernel) (by decide +kernel)
theorem allAtoms_all (ts : List Jvm.Cond) (a : Array Jvm.Value) (st : Jvm.State) : (allAtoms ts).before a st = ts.all (fun c => c.before a st) := by
  induction ts with
  | nil => rfl
  | cons c t ih =>
    show (Jvm.Cond.and c (allAtoms t)).before a st = _
    rw [Jvm.Cond.before_and, ih, List.all_cons]
def words1 : List Jvm.Cond := Jvm.Cond.code x code maxLocals ret :: tables_1
/-- a 'code' word, met by the world's own term for the bytes: nothing is compared byte by byte -/
theorem code_word {y : MethodName} {bytes : ByteArray} {mx : Nat} {rt : Option FieldType} {a : Array Value} {s : State} {m : MethodId} {meth : Method} {c : Code} (h1 : s.methodNamed? y = some m) (h2 : s.vm.method? m = some meth) (h3 : meth.code = some c) (h4 : c.code = bytes)
    (h5 : (c.maxLocals == mx && c.exceptionTable.isEmpty && decide (c.maxStack ≤ mostOperands) && decide (meth.sig.returnType = rt) && !meth.locks && decide (parseMethodDescriptor y.desc = some meth.sig)) = true) : (Jvm.Cond.code y bytes mx rt).before a s = true := by
  simp only [Bool.and_eq_true, beq_iff_eq, Bool.not_eq_true', decide_eq_true_eq] at h5
  obtain ⟨⟨⟨⟨⟨g1, g2⟩, g3⟩, g4⟩, g5⟩, g6⟩ := h5
  simp [Cond.before, Cond.holds, Cond.value, h1, h2, h3, h4, g1, g2, g3, g4, g5, g6]
def isCode : Jvm.Cond → Bool
  | .code _ _ _ _ => true
  | _ => false
theorem all_split {L : List Jvm.Cond} {P : Jvm.Cond → Bool} (h1 : L.all (fun c => isCode c || P c) = true) (h2 : ∀ c ∈ L.filter isCode, P c = true) : L.all P = true := by
  refine List.all_eq_true.mpr fun c hc => ?_
  have h := List.all_eq_true.mp h1 c hc
  rcases Bool.eq_false_or_eq_true (isCode c) with hi | hi
  · exact h2 c (List.mem_filter.mpr ⟨hc, hi⟩)
  · simpa [hi] using h
set_option maxRecDepth 65536 in
theorem w_c0 : (Jvm.Cond.code x code maxLocals ret).before args0 about1 = true := code_word (m := ⟨1, 3⟩) (meth := k1m3) (c := k1c3) (by decide +kernel) rfl rfl rfl (by decide +kernel)
set_option maxRecDepth 65536 in
theorem w_c1 : (Jvm.Cond.code ({ cls := "com/example/gard/gard/core/TruthAndPinLaw", name := "pick", desc := "(I)Lcom/example/gard/gard/core/Truth;" } : Jvm.MethodName) method_2_code (2 : Nat) (Option.some (Jvm.ClassFile.FieldType.object "com/example/gard/gard/core/Truth"))).before args0 about1 = true := code_word (m := ⟨1, 1⟩) (meth := k1m1) (c := k1c1) (by decide +kernel) rfl rfl rfl (by decide +kernel)
set_option maxRecDepth 65536 in
theorem w_c2 : (Jvm.Cond.code ({ cls := "com/example/gard/gard/core/Truth", name := "and", desc := "(Lcom/example/gard/gard/core/Truth;)Lcom/example/gard/gard/core/Truth;" } : Jvm.MethodName) prog_57_method_6_code (3 : Nat) (Option.some (Jvm.ClassFile.FieldType.object "com/example/gard/gard/core/Truth"))).before args0 about1 = true := code_word (m := ⟨6, 0⟩) (meth := k6m0) (c := k6c0) (by decide +kernel) rfl rfl rfl (by decide +kernel)
set_option maxRecDepth 65536 in
theorem w_c3 : (Jvm.Cond.code ({ cls := "com/example/gard/gard/core/TruthAndPinLaw", name := "rank", desc := "(Lcom/example/gard/gard/core/Truth;)I" } : Jvm.MethodName) method_3_code (1 : Nat) (Option.some Jvm.ClassFile.FieldType.int)).before args0 about1 = true := code_word (m := ⟨1, 2⟩) (meth := k1m2) (c := k1c2) (by decide +kernel) rfl rfl rfl (by decide +kernel)
set_option maxRecDepth 65536 in
theorem w_c4 : (Jvm.Cond.code ({ cls := "java/lang/Math", name := "min", desc := "(II)I" } : Jvm.MethodName) jdk_29_method_69_code (2 : Nat) (Option.some Jvm.ClassFile.FieldType.int)).before args0 about1 = true := code_word (m := ⟨7, 1⟩) (meth := k7m1) (c := k7c1) (by decide +kernel) rfl rfl rfl (by decide +kernel)
def codes1 : List Jvm.Cond := [Jvm.Cond.code x code maxLocals ret, Jvm.Cond.code ({ cls := "com/example/gard/gard/core/TruthAndPinLaw", name := "pick", desc := "(I)Lcom/example/gard/gard/core/Truth;" } : Jvm.MethodName) method_2_code (2 : Nat) (Option.some (Jvm.ClassFile.FieldType.object "com/example/gard/gard/core/Truth")), Jvm.Cond.code ({ cls := "com/example/gard/gard/core/Truth", name := "and", desc := "(Lcom/example/gard/gard/core/Truth;)Lcom/example/gard/gard/core/Truth;" } : Jvm.MethodName) prog_57_method_6_code (3 : Nat) (Option.some (Jvm.ClassFile.FieldType.object "com/example/gard/gard/core/Truth")), Jvm.Cond.code ({ cls := "com/example/gard/gard/core/TruthAndPinLaw", name := "rank", desc := "(Lcom/example/gard/gard/core/Truth;)I" } : Jvm.MethodName) method_3_code (1 : Nat) (Option.some Jvm.ClassFile.FieldType.int), Jvm.Cond.code ({ cls := "java/lang/Math", name := "min", desc := "(II)I" } : Jvm.MethodName) jdk_29_method_69_code (2 : Nat) (Option.some Jvm.ClassFile.FieldType.int)]
set_option maxRecDepth 65536 in
theorem codes_eq : words1.filter isCode = codes1 := rfl
theorem w_codes : ∀ c ∈ words1.filter isCode, c.before args0 about1 = true := by
  rw [codes_eq]
  intro c hc
  simp only [codes1, List.mem_cons, List.not_mem_nil, or_false] at hc
  rcases hc with rfl | rfl | rfl | rfl | rfl
  · exact w_c0
  · exact w_c1
  · exact w_c2
  · exact w_c3
  · exact w_c4
set_option maxRecDepth 65536 in
theorem w_t1 : (words1.take 24).all (fun c => isCode c || c.before args0 about1) = true := by decide +kernel
set_option maxRecDepth 65536 in
theorem w_t2 : (words1.drop 24).all (fun c => isCode c || c.before args0 about1) = true := by decide +kernel
theorem w_tables : (allAtoms (Jvm.Cond.code x code maxLocals ret :: tables_1)).before args0 about1 = true := by
  rw [allAtoms_all]
  show words1.all (fun c => c.before args0 about1) = true
  refine all_split ?_ w_codes
  rw [← List.take_append_drop 24 words1, List.all_append, w_t1, w_t2]
  rfl
set_option maxRecDepth 65536 in
theorem w_case : (Jvm.Cond.and given_1 narrow_1).before args0 about1 = true := by decide +kernel
theorem w_applies : (headSpec (Jvm.Cond.code x code maxLocals ret :: tables_1) room_1).applies x e0.platform about1 = true :=
  (Spec.applies_iff w_frames).mpr ⟨w_running, w_runnable, w_alone, w_named, w_hears, w_ripe, w_room, w_tables⟩
theorem atStart : AtStart classFile x code maxLocals ret World_1 tables_1 room_1 Calls_1 rest_1 Pre_1 launch0 p0 e0 about1 theMethod args0 below0 :=
  ⟨lists_1, trivial, launch0.admits_env _ _ _, launch0.least_env, fairChoices_fair.cas, fairChoices_fair.clock, w_frames, w_args, w_heap, w_applies, trivial, trivial, w_case⟩
end start1
theorem witness_1 : WitnessClaimed_1 := ⟨start1.p0, start1.e0, start1.about1, start1.theMethod, start1.args0, start1.below0, start1.atStart⟩
end Jvm.Pilot.@@N@@
