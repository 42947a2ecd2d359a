import JvmDerived
import JvmDerived.Pilot.@@N@@Statement
import JvmDerived.Pilot.@@N@@Code
set_option linter.unusedVariables false
set_option linter.unusedSimpArgs false
@@BLOCK:NumsL.lean.txt@@
namespace Jvm.Pilot.@@N@@
open Jvm Jvm.ClassFile Sem Op Lib Jvm.Free Jvm.Stand Jvm.LawKit Jvm.RoadKit Bundle Jvm.Pilot.@@N@@.Jvm.D
theorem ow {Z : State} {a0' : Array Value} (hw : ∀ d ∈ tables_1, d.before a0' Z = true) {d : Jvm.Cond} (i : Nat) (h : tables_1[i]? = some d) : d.before a0' Z = true := hw _ (List.mem_of_getElem? h)
theorem own_retI {p : Program} {l : Launch} {e : Env} {R : Room} {s : State} {m : MethodId} {args : Array Value} {below : List Frame} {meth : Method} {c : Code} {T : State} {locs : List Loc} {cells slots : Nat} (X : Stand p l e R s m args below meth c T locs cells slots) (hx : p.tables.exec = Jvm.exec) {pc : Nat} {Ls : Array Slot} {z : Int32} {rest : List Value} (hret : meth.sig.returnType = some .int) (hd : decode c.code pc = .ok (.ireturn, 1)) {fs : List Frame}
    (hl : ∀ (f : JFrame) (acts : List Action), f.method = m → f.locked = none → f.entered = [] → (doReturn e (T.setTop f) acts (some (.int z))).1 = T.setFrames fs) : Steps p.tables e below (T.setTop (mkF m pc Ls (.int z :: rest))) (T.setFrames fs) :=
  retOut X hx hret rfl (Or.inl ⟨rfl, Or.inl rfl, z, rfl⟩) hd hl
theorem own_retA {p : Program} {l : Launch} {e : Env} {R : Room} {s : State} {m : MethodId} {args : Array Value} {below : List Frame} {meth : Method} {c : Code} {T : State} {locs : List Loc} {cells slots : Nat} (X : Stand p l e R s m args below meth c T locs cells slots) (hx : p.tables.exec = Jvm.exec) {pc : Nat} {Ls : Array Slot} {w : Value} {t : FieldType} {rest : List Value} (hret : meth.sig.returnType = some t) (ht : t.isReference = true) (hw : w.isRef = true) (hn : narrow t w = w) (hd : decode c.code pc = .ok (.areturn, 1)) {fs : List Frame}
    (hl : ∀ (f : JFrame) (acts : List Action), f.method = m → f.locked = none → f.entered = [] → (doReturn e (T.setTop f) acts (some w)).1 = T.setFrames fs) : Steps p.tables e below (T.setTop (mkF m pc Ls (w :: rest))) (T.setFrames fs) :=
  retOut X hx hret hn (Or.inr (Or.inr (Or.inr (Or.inr ⟨rfl, ht, hw⟩)))) hd hl
theorem own_retJ {p : Program} {l : Launch} {e : Env} {R : Room} {s : State} {m : MethodId} {args : Array Value} {below : List Frame} {meth : Method} {c : Code} {T : State} {locs : List Loc} {cells slots : Nat} (X : Stand p l e R s m args below meth c T locs cells slots) (hx : p.tables.exec = Jvm.exec) {pc : Nat} {Ls : Array Slot} {z : Int64} {rest : List Value} (hret : meth.sig.returnType = some .long) (hd : decode c.code pc = .ok (.lreturn, 1)) {fs : List Frame}
    (hl : ∀ (f : JFrame) (acts : List Action), f.method = m → f.locked = none → f.entered = [] → (doReturn e (T.setTop f) acts (some (.long z))).1 = T.setFrames fs) : Steps p.tables e below (T.setTop (mkF m pc Ls (.long z :: rest))) (T.setFrames fs) :=
  retOut X hx hret rfl (Or.inr (Or.inl ⟨rfl, rfl, z, rfl⟩)) hd hl
theorem own_exttr {h0 h h' : Heap} (E : Ext h0 h) (E' : Ext h h') : Ext h0 h' := ⟨Nat.le_trans E.1 E'.1, fun a c q => E'.2 _ _ (E.2 _ _ q)⟩
theorem own_extwr {h0 h h' : Heap} {a : Addr} {sl : Nat} {v : Value} (E : Ext h0 h) (W : Wr h h' a sl v) (q : h0.size ≤ a) : Ext h0 h' := by
  refine ⟨Nat.le_trans E.1 (Nat.le_of_eq W.size.symm), fun x c hc => ?_⟩
  obtain ⟨c', e1, -, -, -, e5, -⟩ := wr_at W (E.2 x c hc)
  have hx : x < h0.size := (Array.getElem?_eq_some_iff.mp hc).1
  rw [e5 (Nat.ne_of_lt (Nat.lt_of_lt_of_le hx q))] at e1
  exact e1
theorem own_wmono {s t : State} {o : Outcome} {L : List Loc} {k n k' n' : Nat} (h : ReturnedEndW s o t L k n) (hk : k ≤ k') (hn : n ≤ n') : ReturnedEndW s o t L k' n' := ⟨h.1, h.2.1, h.2.2.1, h.2.2.2.mono hk hn⟩
theorem own_strAtoms {Z : State} {a0 : Array Value} (w1 : (Jvm.Cond.initialized "java/lang/String").before a0 Z = true) (w2 : (Jvm.Cond.instantiable "java/lang/String" 4).before a0 Z = true) (w3 : (Jvm.Cond.arrayClass .byte).before a0 Z = true) (w4 : (Jvm.Cond.laysFinal "java/lang/String" "java/lang/String" "value" "[B").before a0 Z = true) (w5 : (Jvm.Cond.laysFinal "java/lang/String" "java/lang/String" "coder" "B").before a0 Z = true) (w6 : (Jvm.Cond.soleField "java/lang/String" "value").before a0 Z = true) (w7 : (Jvm.Cond.soleField "java/lang/String" "coder").before a0 Z = true) : ∀ a ∈ Bundle.stringAtoms, a.before a0 Z = true := by
  intro a ha
  simp only [Bundle.stringAtoms, List.mem_cons, List.not_mem_nil, or_false] at ha
  rcases ha with rfl | rfl | rfl | rfl | rfl | rfl | rfl <;> assumption
theorem own_extkeep {h0 h h' : Heap} {a : Addr} (E : Ext h0 h) (K : Keep h h' [a]) (q : h0.size ≤ a) : Ext h0 h' := ⟨Nat.le_trans E.1 K.1, fun x c hc => K.2.1 x c (E.2 x c hc) (fun hm => absurd (List.mem_singleton.mp hm) (Nat.ne_of_lt (Nat.lt_of_lt_of_le (Array.getElem?_eq_some_iff.mp hc).1 q)))⟩
theorem own_fld2 {Z : State} {h : Heap} {a : Addr} {C O n d O1 n1 d1 : String} {v1 : Value} {a0 : Array Value} {k : Nat} (E : Exa Z h a C) (F : Fld Z h a O1 n1 d1 v1) (L : Laid Z a0 C O n d) (wi : (Jvm.Cond.instantiable C k).before a0 Z = true) : ∃ v, Fld Z h a O n d v := by
  obtain ⟨cell, kc, h1, h2, h3, h4, h5⟩ := E
  obtain ⟨cell', cf', k', i', f', g1, -, -, g4, g5, -, -⟩ := F
  cases h1.symm.trans g1
  obtain ⟨c, k2, cf, kf, i, f, a1, a2, a3, a4, a5, a6, -⟩ := L.spec
  cases h2.symm.trans a1
  cases h3.symm.trans a2
  obtain ⟨c2, k3, i1, i2, i3, -⟩ := Cond.instantiable_spec wi
  cases h2.symm.trans i1
  cases h3.symm.trans i2
  have hs := h5 i3
  have hlt : f.slot < cell.slots.size := by rw [hs]; exact (Array.getElem?_eq_some_iff.mp a6).1
  exact ⟨cell.slots[f.slot], cell, cf, kf, i, f, h1, a3, a4, g4, g5, a5, Array.getElem?_eq_getElem hlt⟩
theorem own_retD {p : Program} {l : Launch} {e : Env} {R : Room} {s : State} {m : MethodId} {args : Array Value} {below : List Frame} {meth : Method} {c : Code} {T : State} {locs : List Loc} {cells slots : Nat} (X : Stand p l e R s m args below meth c T locs cells slots) (hx : p.tables.exec = Jvm.exec) {pc : Nat} {Ls : Array Slot} {z : UInt64} {rest : List Value} (hret : meth.sig.returnType = some .double) (hd : decode c.code pc = .ok (.dreturn, 1)) {fs : List Frame}
    (hl : ∀ (f : JFrame) (acts : List Action), f.method = m → f.locked = none → f.entered = [] → (doReturn e (T.setTop f) acts (some (.double z))).1 = T.setFrames fs) : Steps p.tables e below (T.setTop (mkF m pc Ls (.double z :: rest))) (T.setFrames fs) :=
  retOut X hx hret rfl (Or.inr (Or.inr (Or.inl ⟨rfl, rfl, z, rfl⟩))) hd hl
theorem own_eqk {args : Array Value} {first s : State} {o : Option Outcome} {idx : List Nat} {t : Term} {k : Int32} (h : (Jvm.Cond.eq t (.int k)).value args first o s idx = some true) : t.eval args first o idx s = some (.int k) := by
  have hk : (Term.int k).eval args first o idx s = some (.int k) := Term.int_eval k
  cases ht : t.eval args first o idx s with
  | none => simp [Cond.value, ht] at h
  | some x => cases x <;> simp [Cond.value, ht, hk] at h ⊢ <;> exact h
theorem own_safe {Z : State} {EL : List (String × Nat)} {vm : Vm} {h h' : Heap} {x : Addr} (C : CHv Z EL vm h) (E : Ext h h') (q : h.size ≤ x) : Safe Z EL vm h' x := fun B => by
  obtain ⟨cell, hc⟩ := ((C.step fun _ _ _ r => E.2 _ _ r).2 _ B).there
  exact absurd (Array.getElem?_eq_some_iff.mp hc).1 (Nat.not_lt.mpr q)
theorem own_backW {p : Program} {l : Launch} {e : Env} {R : Room} {s : State} {args : Array Value} {below : List Frame} {Z : State} {a0 : Array Value} {EL : List (String × Nat)} {h : Heap} {vm0 : Vm} {y : MethodName} {bytes : ByteArray} {maxL : Nat} {ret : Option FieldType} {rm : Room} {len W : Nat} {as' : Array Value} {Q : Option Value → Heap → List Loc → Prop} {xs : List Addr}
    (hM : MetFree l y (head1 [Jvm.Cond.code y bytes maxL ret] rm) (fun a U => a = as' ∧ Z.Warmed39 U.vm ∧ U.heap = h ∧ CHv Z EL U.vm h ∧ ∀ x ∈ xs, Safe Z EL U.vm h x) (fun _ _ _ _ _ => True) (fun _ U o U' => ∃ v L, o = .returned v ∧ Q v U'.heap L ∧ CHr Z EL U.vm U.heap U'.vm U'.heap ∧ ReturnedEndW U o U' L rm.cells rm.slots))
    (hZ : Z.Warmed39 vm0) (wc : (Jvm.Cond.code y bytes maxL ret).before a0 Z = true) (wz : (Jvm.Cond.initialized y.cls).before a0 Z = true) (hf : rm.frames + 1 ≤ R.frames) (hl : W + (maxL + 11) + rm.locals ≤ R.locals) (hEL : EW Z a0 EL) (H : CHv Z EL vm0 h) (hS : ∀ x ∈ xs, x < h.size ∧ Safe Z EL vm0 h x) :
    BackS l R p e below (s.setVm vm0) args y len W (fun A a => a = as' ∧ A.U.heap = h ∧ A.cells + rm.cells ≤ R.cells ∧ A.slots + rm.slots ≤ R.slots)
      (fun A _ v B => ∃ L, Q v B.U.heap L ∧ B.locs = A.locs ++ L ∧ B.cells = A.cells + rm.cells ∧ B.slots = A.slots + rm.slots ∧ CHr Z EL vm0 h B.U.vm B.U.heap) := by
  refine BackS.of_freeW (bytes := bytes) (maxL := maxL) (ret := ret) (E := fun _ first o t L k n => k = rm.cells ∧ n = rm.slots ∧ (∃ v, o = .returned v ∧ Q v t.heap L) ∧ CHr Z EL first.vm first.heap t.vm t.heap) hM hf hl ?_ ?_ (fun _ _ _ _ _ _ _ _ _ => trivial) ?_ ?_
  · intro m meth c A a Y hp
    have hU : Z.Warmed39 A.U.vm := wtrans (s := s.setVm vm0) hZ Y.warmed
    exact ⟨by show (Jvm.Cond.and _ .tt).before a A.U = true; rw [Cond.before_and, mv hU wc]; rfl, mv hU wc, mv hU wz, hp.2.2.1, hp.2.2.2⟩
  · intro m meth c A a g mk Y hp
    have A1 := CHv.at Y hZ hEL H
    exact ⟨hp.1, wtrans (s := s.setVm vm0) hZ Y.warmed, hp.2.1, A1.1, fun x hx => A1.safe (hS x hx).1 (hS x hx).2⟩
  · rintro _ _ _ _ ⟨v, L, h1, h2, h3, h4⟩
    exact ⟨L, _, _, h4, rfl, rfl, ⟨v, h1, h2⟩, h3⟩
  · rintro m meth c A a g mk v t L k n Y hp - - ⟨e1, e2, ⟨v', e3, e4⟩, e5⟩
    cases e3
    subst e1 e2
    refine ⟨L, e4, rfl, rfl, rfl, (CHv.at Y hZ hEL H).trans ?_⟩
    rw [← hp.2.1]
    exact e5
theorem own_mono {l : Launch} {y : MethodName} {S : Spec} {P : Array Value → State → Prop} {K : Program → Env → List Frame → State → Array Value → Prop} {Q Q' : Array Value → State → Outcome → State → Prop} (h : MetFree l y S P K Q) (hq : ∀ a U o U', Q a U o U' → Q' a U o U') : MetFree l y S P K Q' := by
  intro p e ha hc hk s m args below hf happ hP hK
  obtain ⟨n, o, h1, h2, h3, h4⟩ := h p e ha hc hk s m args below hf happ hP hK
  exact ⟨n, o, h1, h2, h3, hq _ _ _ _ h4⟩

def own_EL : List (String × Nat) := [("java/lang/String", 7)]
theorem own_EW {Z : State} {a0' : Array Value} (hw : ∀ d ∈ tables_1, d.before a0' Z = true) : EW Z a0' own_EL := (EW.cons (ow hw 18 rfl) (by decide) EW.nil)
theorem own_pn0 : plainName "java/lang/StringUTF16" = true := by first | (simp [plainName, overriddenIn]; done) | decide +kernel
theorem own_d_cmpI1_0 : decode jdk_52_method_21_code 0 = .ok (.iconst 0, 1) := by decide +kernel
theorem own_d_cmpI1_1 : decode jdk_52_method_21_code 1 = .ok (.istore 5, 2) := by decide +kernel
theorem own_d_cmpI1_3 : decode jdk_52_method_21_code 3 = .ok (.iload 5, 2) := by decide +kernel
theorem own_d_cmpI1_5 : decode jdk_52_method_21_code 5 = .ok (.iload 4, 2) := by decide +kernel
theorem own_d_cmpI1_7 : decode jdk_52_method_21_code 7 = .ok (.if_icmp .ge 37, 3) := by decide +kernel
theorem own_d_cmpI1_10 : decode jdk_52_method_21_code 10 = .ok (.aload_n 0, 1) := by decide +kernel
theorem own_d_cmpI1_11 : decode jdk_52_method_21_code 11 = .ok (.iload_n 1, 1) := by decide +kernel
theorem own_d_cmpI1_12 : decode jdk_52_method_21_code 12 = .ok (.caload, 1) := by decide +kernel
theorem own_d_cmpI1_13 : decode jdk_52_method_21_code 13 = .ok (.istore 6, 2) := by decide +kernel
theorem own_d_cmpI1_15 : decode jdk_52_method_21_code 15 = .ok (.iload 6, 2) := by decide +kernel
theorem own_d_cmpI1_17 : decode jdk_52_method_21_code 17 = .ok (.sipush 255, 3) := by decide +kernel
theorem own_d_cmpI1_20 : decode jdk_52_method_21_code 20 = .ok (.if_icmp .le 6, 3) := by decide +kernel
theorem own_d_cmpI1_26 : decode jdk_52_method_21_code 26 = .ok (.aload_n 2, 1) := by decide +kernel
theorem own_d_cmpI1_27 : decode jdk_52_method_21_code 27 = .ok (.iload_n 3, 1) := by decide +kernel
theorem own_d_cmpI1_28 : decode jdk_52_method_21_code 28 = .ok (.iload 6, 2) := by decide +kernel
theorem own_d_cmpI1_30 : decode jdk_52_method_21_code 30 = .ok (.i2b, 1) := by decide +kernel
theorem own_d_cmpI1_31 : decode jdk_52_method_21_code 31 = .ok (.bastore, 1) := by decide +kernel
theorem own_d_cmpI1_32 : decode jdk_52_method_21_code 32 = .ok (.iinc 1 1, 3) := by decide +kernel
theorem own_d_cmpI1_35 : decode jdk_52_method_21_code 35 = .ok (.iinc 3 1, 3) := by decide +kernel
theorem own_d_cmpI1_38 : decode jdk_52_method_21_code 38 = .ok (.iinc 5 1, 3) := by decide +kernel
theorem own_d_cmpI1_41 : decode jdk_52_method_21_code 41 = .ok (.goto (-38), 3) := by decide +kernel
theorem own_d_cmpI1_44 : decode jdk_52_method_21_code 44 = .ok (.iload 4, 2) := by decide +kernel
theorem own_d_cmpI1_46 : decode jdk_52_method_21_code 46 = .ok (.ireturn, 1) := by decide +kernel
theorem own_ef_cmpI1 (m : MethodId) (a0 : Addr) (a2 : Addr) : entryFrame m #[(.ref a0), (.int (0 : Int32)), (.ref a2), (.int (0 : Int32)), (.int (1 : Int32))] 7 = mkF m 0 #[.val (.ref a0), .val (.int (0 : Int32)), .val (.ref a2), .val (.int (0 : Int32)), .val (.int (1 : Int32)), .unset, .unset] [] := by first | (simp [entryFrame, mkF, argsToLocals, Value.category]; done) | rfl
def Q_cmpI1 (Z : State) (a0 : Addr) (a2 : Addr) (kc1 : ClassId) (c0 : Int32) (kb1 : ClassId) (h0 : Heap) (n0 : Nat) (v : Option Value) (h : Heap) (L : List Loc) : Prop := v = some (.int (1 : Int32)) ∧ Fr n0 L ∧ Keep h0 h [a2] ∧ Arv Z h a2 kb1 .byte (1 : Int32) [(.int (nar .byte (c0.toInt8.toInt32)))] (.int (0 : Int32))
set_option maxRecDepth 65536 in
set_option maxHeartbeats 40000000 in
theorem rm_cmpI1 (l : Launch) (Z : State) (a0' : Array Value) (hw : ∀ d ∈ tables_1, d.before a0' Z = true) (ws : List Jvm.Cond) (a0 : Addr) (a2 : Addr) (kc1 : ClassId) (c0 : Int32) (kb1 : ClassId) (h0 : Heap) (n0 : Nat) (Z0 : n0 ≤ h0.size) (VA : Arv Z h0 a0 kc1 .char (1 : Int32) [(.int c0)] (.int (0 : Int32))) (VB : Arv Z h0 a2 kb1 .byte (1 : Int32) [(.int (0 : Int32))] (.int (0 : Int32))) (nab : a0 ≠ a2) (g2 : n0 ≤ a2) (hc_c0 : ¬ ((255 : Int32) < c0)) :
    MetFree l (⟨"java/lang/StringUTF16", "compress", "([CI[BII)I"⟩ : MethodName) (head1 (Jvm.Cond.code (⟨"java/lang/StringUTF16", "compress", "([CI[BII)I"⟩ : MethodName) jdk_52_method_21_code 7 (some .int) :: ws) ({ frames := 0, cells := 0, slots := 0, locals := 0 } : Room)) (fun a U => a = #[(.ref a0), (.int (0 : Int32)), (.ref a2), (.int (0 : Int32)), (.int (1 : Int32))] ∧ Z.Warmed39 U.vm ∧ U.heap = h0) (fun _ _ _ _ _ => True) (fun _ U o U' => ∃ v L, o = .returned v ∧ Q_cmpI1 Z a0 a2 kc1 c0 kb1 h0 n0 v U'.heap L ∧ FrameEnd U o U' L ({ frames := 0, cells := 0, slots := 0, locals := 0 } : Room).cells ({ frames := 0, cells := 0, slots := 0, locals := 0 } : Room).slots) := by
  refine MetFree.of_bodySF (plainFor_of_name own_pn0) hisR ?_
  intro p e s m args below meth c s₁ Bd hml0 hP hK
  obtain ⟨rfl, hZ, hh⟩ := hP
  have hx := Bd.exec
  have hby := Bd.bytes
  have hml : c.maxLocals = 7 := hml0
  have hown : s.vm.findClass "java/lang/StringUTF16" = some m.cls := findClass_of_methodNamed Bd.named
  have hnm := (name_of_methodNamed Bd.named Bd.method).1
  have X0 : Stand p l e ({ frames := 0, cells := 0, slots := 0, locals := 0 } : Room) s m #[(.ref a0), (.int (0 : Int32)), (.ref a2), (.int (0 : Int32)), (.int (1 : Int32))] below meth c s₁ [] 0 0 := Stand.of_body Bd
  have e0 : s₁.heap = h0 := by rw [← hh, Bd.state]; rfl
  have N0 := Fr.nil n0
  have pre0 : ∀ t, Steps p.tables e below (s₁.setTop (mkF m 0 #[.val (.ref a0), .val (.int (0 : Int32)), .val (.ref a2), .val (.int (0 : Int32)), .val (.int (1 : Int32)), .unset, .unset] [])) t → Steps p.tables e below (s₁.setTop (entryFrame m #[(.ref a0), (.int (0 : Int32)), (.ref a2), (.int (0 : Int32)), (.int (1 : Int32))] 7)) t := fun t k => castTop (own_ef_cmpI1 m a0 a2) k
  have Vc1 := VA
  obtain ⟨cl1, Ar1, q1, S1, N_1, H1, G1⟩ := Vc1
  have hin1 : ¬ ((0 : Int32) < 0 ∨ cl1.slots.size ≤ ((0 : Int32)).toNatClampNeg) := inb_of S1 ⟨by decide, by decide⟩
  have hat1 : cl1.slots[((0 : Int32)).toNatClampNeg]? = some (.int c0) := H1 0 (by rw [S1]; decide)
  have Vc2 := VB
  obtain ⟨cl2, Ar2, q2, S2, N_2, H2, G2⟩ := Vc2
  have hin2 : ¬ ((0 : Int32) < 0 ∨ cl2.slots.size ≤ ((0 : Int32)).toNatClampNeg) := inb_of S2 ⟨by decide, by decide⟩
  obtain ⟨T3, h3, X3, e3, W3, st3⟩ := stB X0 hx hZ e0 Ar2 (j := (0 : Int32)) hin2 (g := (mkF m 31 #[.val (.ref a0), .val (.int (0 : Int32)), .val (.ref a2), .val (.int (0 : Int32)), .val (.int (1 : Int32)), .val (.int (0 : Int32)), .val (.int c0)] [(.int (c0.toInt8.toInt32)), (.int (0 : Int32)), (.ref a2)])) rfl rfl (hb hby own_d_cmpI1_31)
  have V_a2_3 : Arv Z h3 a2 kb1 .byte (1 : Int32) [(.int (nar .byte (c0.toInt8.toInt32)))] (.int (0 : Int32)) := Arv.set Ar2 q2 S2 N_2 H2 G2 (fits_nar_byte _) W3 0 rfl (Nat.le_of_ble_eq_true rfl)
  have N3 := Fr.snoc X3 N0 g2
  have KP3 : Keep h0 h3 [a2] := (Keep.refl h0 [a2]).wr W3 (Or.inl (List.mem_of_getElem? (i := 0) rfl))
  have SZ3 : h0.size ≤ h3.size := KP3.1
  have Z3 : n0 ≤ h3.size := Nat.le_trans Z0 SZ3
  obtain ⟨fs, hr, hrun, hended, hW, hsame⟩ := X3.leave (v := some (.int (1 : Int32))) (fun h => by rw [Bd.returns] at h; cases h)
  refine ⟨_, _, pre0 _ ?_, hrun, hended, _, _, rfl, ?_, ⟨_, rfl⟩, hW, hsame.mono (by decide) (by decide)⟩
  · show Steps p.tables e below (s₁.setTop (mkF m 0 #[.val (.ref a0), .val (.int (0 : Int32)), .val (.ref a2), .val (.int (0 : Int32)), .val (.int (1 : Int32)), .unset, .unset] [])) _
    refine XS.iconst X0.here hx rfl (hb hby own_d_cmpI1_0) ?_
    refine XS.istore X0.here hx rfl (hb hby own_d_cmpI1_1) rfl (l' := #[.val (.ref a0), .val (.int (0 : Int32)), .val (.ref a2), .val (.int (0 : Int32)), .val (.int (1 : Int32)), .val (.int (0 : Int32)), .unset]) rfl ?_
    refine XS.iload X0.here hx rfl (hb hby own_d_cmpI1_3) rfl ?_
    refine XS.iload X0.here hx rfl (hb hby own_d_cmpI1_5) rfl ?_
    refine XS.icmpNo X0.here hx rfl (hb hby own_d_cmpI1_7) rfl (tlt (by decide : (0 : Int32) < (1 : Int32))).2.1 ?_
    refine XS.aloadN X0.here hx rfl (hb hby own_d_cmpI1_10) rfl rfl ?_
    refine XS.iloadN X0.here hx rfl (hb hby own_d_cmpI1_11) rfl ?_
    refine X0.caload hx (j := (0 : Int32)) (v := (.int c0)) (by rw [e0]; exact Ar1.1) (State.isArrayOf_alike hZ.alike Ar1.2.1) Ar1.2.2 hin1 hat1 (g := (mkF m 12 #[.val (.ref a0), .val (.int (0 : Int32)), .val (.ref a2), .val (.int (0 : Int32)), .val (.int (1 : Int32)), .val (.int (0 : Int32)), .unset] [(.int (0 : Int32)), (.ref a0)])) rfl rfl (hb hby own_d_cmpI1_12) _ ?_
    refine XS.istore X0.here hx rfl (hb hby own_d_cmpI1_13) rfl (l' := #[.val (.ref a0), .val (.int (0 : Int32)), .val (.ref a2), .val (.int (0 : Int32)), .val (.int (1 : Int32)), .val (.int (0 : Int32)), .val (.int c0)]) rfl ?_
    refine XS.iload X0.here hx rfl (hb hby own_d_cmpI1_15) rfl ?_
    refine XS.sipush X0.here hx rfl (hb hby own_d_cmpI1_17) ?_
    refine XS.icmpYes X0.here hx rfl (pc0 := 20) (pc' := 26) rfl (hb hby own_d_cmpI1_20) rfl (flt hc_c0).2.2.2 (by decide) (by decide) ?_
    refine XS.aloadN X0.here hx rfl (hb hby own_d_cmpI1_26) rfl rfl ?_
    refine XS.iloadN X0.here hx rfl (hb hby own_d_cmpI1_27) rfl ?_
    refine XS.iload X0.here hx rfl (hb hby own_d_cmpI1_28) rfl ?_
    refine XS.i2b X0.here hx rfl (hb hby own_d_cmpI1_30) rfl ?_
    refine st3 _ ?_
    refine XS.iinc X3.here hx rfl (hb hby own_d_cmpI1_32) rfl (l' := #[.val (.ref a0), .val (.int ((0 : Int32) + (1 : Int32))), .val (.ref a2), .val (.int (0 : Int32)), .val (.int (1 : Int32)), .val (.int (0 : Int32)), .val (.int c0)]) rfl ?_
    refine XS.iinc X3.here hx rfl (hb hby own_d_cmpI1_35) rfl (l' := #[.val (.ref a0), .val (.int ((0 : Int32) + (1 : Int32))), .val (.ref a2), .val (.int ((0 : Int32) + (1 : Int32))), .val (.int (1 : Int32)), .val (.int (0 : Int32)), .val (.int c0)]) rfl ?_
    refine XS.iinc X3.here hx rfl (hb hby own_d_cmpI1_38) rfl (l' := #[.val (.ref a0), .val (.int ((0 : Int32) + (1 : Int32))), .val (.ref a2), .val (.int ((0 : Int32) + (1 : Int32))), .val (.int (1 : Int32)), .val (.int ((0 : Int32) + (1 : Int32))), .val (.int c0)]) rfl ?_
    refine XS.goto X3.here hx rfl (pc0 := 41) (pc' := 3) rfl (hb hby own_d_cmpI1_41) (by decide) (by decide) ?_
    refine XS.iload X3.here hx rfl (hb hby own_d_cmpI1_3) rfl ?_
    refine XS.iload X3.here hx rfl (hb hby own_d_cmpI1_5) rfl ?_
    refine XS.icmpYes X3.here hx rfl (pc0 := 7) (pc' := 44) rfl (hb hby own_d_cmpI1_7) rfl (flt (by decide : ¬ (((0 : Int32) + (1 : Int32)) < (1 : Int32)))).2.1 (by decide) (by decide) ?_
    refine XS.iload X3.here hx rfl (hb hby own_d_cmpI1_44) rfl ?_
    exact own_retI X3 hx Bd.returns (hb hby own_d_cmpI1_46) hr
  · show Q_cmpI1 Z a0 a2 kc1 c0 kb1 h0 n0 _ T3.heap _
    rw [e3]
    exact ⟨rfl, N3, KP3, V_a2_3⟩
theorem own_d_cmpA1_0 : decode jdk_52_method_16_code 0 = .ok (.iload_n 2, 1) := by decide +kernel
theorem own_d_cmpA1_1 : decode jdk_52_method_16_code 1 = .ok (.newarray .byte, 2) := by decide +kernel
theorem own_d_cmpA1_3 : decode jdk_52_method_16_code 3 = .ok (.astore_n 3, 1) := by decide +kernel
theorem own_d_cmpA1_4 : decode jdk_52_method_16_code 4 = .ok (.aload_n 0, 1) := by decide +kernel
theorem own_d_cmpA1_5 : decode jdk_52_method_16_code 5 = .ok (.iload_n 1, 1) := by decide +kernel
theorem own_d_cmpA1_6 : decode jdk_52_method_16_code 6 = .ok (.aload_n 3, 1) := by decide +kernel
theorem own_d_cmpA1_7 : decode jdk_52_method_16_code 7 = .ok (.iconst 0, 1) := by decide +kernel
theorem own_d_cmpA1_8 : decode jdk_52_method_16_code 8 = .ok (.iload_n 2, 1) := by decide +kernel
theorem own_d_cmpA1_9 : decode jdk_52_method_16_code 9 = .ok (.invokestatic 115, 3) := by decide +kernel
theorem own_pd0 : parseMethodDescriptor "([CI[BII)I" = some ⟨[(.array .char), .int, (.array .byte), .int, .int], some .int⟩ := by decide +kernel
theorem own_d_cmpA1_12 : decode jdk_52_method_16_code 12 = .ok (.istore 4, 2) := by decide +kernel
theorem own_d_cmpA1_14 : decode jdk_52_method_16_code 14 = .ok (.iload 4, 2) := by decide +kernel
theorem own_d_cmpA1_16 : decode jdk_52_method_16_code 16 = .ok (.iload_n 2, 1) := by decide +kernel
theorem own_d_cmpA1_17 : decode jdk_52_method_16_code 17 = .ok (.if_icmp .eq 40, 3) := by decide +kernel
theorem own_d_cmpA1_57 : decode jdk_52_method_16_code 57 = .ok (.aload_n 3, 1) := by decide +kernel
theorem own_d_cmpA1_58 : decode jdk_52_method_16_code 58 = .ok (.areturn, 1) := by decide +kernel
theorem own_ef_cmpA1 (m : MethodId) (a0 : Addr) : entryFrame m #[(.ref a0), (.int (0 : Int32)), (.int (1 : Int32))] 6 = mkF m 0 #[.val (.ref a0), .val (.int (0 : Int32)), .val (.int (1 : Int32)), .unset, .unset, .unset] [] := by first | (simp [entryFrame, mkF, argsToLocals, Value.category]; done) | rfl
def Q_cmpA1 (Z : State) (a0 : Addr) (kc1 : ClassId) (c0 : Int32) (h0 : Heap) (n0 : Nat) (v : Option Value) (h : Heap) (L : List Loc) : Prop := ∃ (r : Addr) (k : ClassId), v = some (.ref r) ∧ Fr n0 L ∧ Ext h0 h ∧ h0.size ≤ r ∧ Arv Z h r k .byte (1 : Int32) [(.int (nar .byte (c0.toInt8.toInt32)))] (.int (0 : Int32))
set_option maxRecDepth 65536 in
set_option maxHeartbeats 40000000 in
theorem rm_cmpA1 (l : Launch) (Z : State) (a0' : Array Value) (hw : ∀ d ∈ tables_1, d.before a0' Z = true) (ws : List Jvm.Cond) (a0 : Addr) (kc1 : ClassId) (c0 : Int32) (h0 : Heap) (n0 : Nat) (Z0 : n0 ≤ h0.size) (VA : Arv Z h0 a0 kc1 .char (1 : Int32) [(.int c0)] (.int (0 : Int32))) (hc_c0 : ¬ ((255 : Int32) < c0)) :
    MetFree l (⟨"java/lang/StringUTF16", "compress", "([CII)[B"⟩ : MethodName) (head1 (Jvm.Cond.code (⟨"java/lang/StringUTF16", "compress", "([CII)[B"⟩ : MethodName) jdk_52_method_16_code 6 (some (.array .byte)) :: ws) ({ frames := 1, cells := 1, slots := 1, locals := 18 } : Room)) (fun a U => a = #[(.ref a0), (.int (0 : Int32)), (.int (1 : Int32))] ∧ Z.Warmed39 U.vm ∧ U.heap = h0) (fun _ _ _ _ _ => True) (fun _ U o U' => ∃ v L, o = .returned v ∧ Q_cmpA1 Z a0 kc1 c0 h0 n0 v U'.heap L ∧ FrameEnd U o U' L ({ frames := 1, cells := 1, slots := 1, locals := 18 } : Room).cells ({ frames := 1, cells := 1, slots := 1, locals := 18 } : Room).slots) := by
  refine MetFree.of_bodySF (plainFor_of_name own_pn0) hisR ?_
  intro p e s m args below meth c s₁ Bd hml0 hP hK
  obtain ⟨rfl, hZ, hh⟩ := hP
  have hx := Bd.exec
  have hby := Bd.bytes
  have hml : c.maxLocals = 6 := hml0
  have hown : s.vm.findClass "java/lang/StringUTF16" = some m.cls := findClass_of_methodNamed Bd.named
  have hnm := (name_of_methodNamed Bd.named Bd.method).1
  have X0 : Stand p l e ({ frames := 1, cells := 1, slots := 1, locals := 18 } : Room) s m #[(.ref a0), (.int (0 : Int32)), (.int (1 : Int32))] below meth c s₁ [] 0 0 := Stand.of_body Bd
  have e0 : s₁.heap = h0 := by rw [← hh, Bd.state]; rfl
  have N0 := Fr.nil n0
  have pre0 : ∀ t, Steps p.tables e below (s₁.setTop (mkF m 0 #[.val (.ref a0), .val (.int (0 : Int32)), .val (.int (1 : Int32)), .unset, .unset, .unset] [])) t → Steps p.tables e below (s₁.setTop (entryFrame m #[(.ref a0), (.int (0 : Int32)), (.int (1 : Int32))] 6)) t := fun t k => castTop (own_ef_cmpA1 m a0) k
  obtain ⟨T4, h4, k4, X4, e4, E4, A4, st4⟩ := newP X0 hx hZ (ow hw 19 rfl) e0 (g := (mkF m 1 #[.val (.ref a0), .val (.int (0 : Int32)), .val (.int (1 : Int32)), .unset, .unset, .unset] [(.int (1 : Int32))])) rfl (hb hby own_d_cmpA1_1) rfl (by decide) (cap := 1) (by decide) (by decide) (by decide) (by decide)
  obtain ⟨b4, g4⟩ : ∃ z, z = h0.size := ⟨_, rfl⟩
  rw [← g4] at A4 st4
  have ne4_a0_b4 : a0 ≠ b4 := Nat.ne_of_lt (Nat.lt_of_lt_of_le VA.lt (Nat.le_of_eq g4.symm))
  have V_b4 : Arv Z h4 b4 k4 .byte (1 : Int32) [(.int (0 : Int32))] (.int (0 : Int32)) := (Arv.new A4 (by decide)).pad (pad_rep [] (.int (0 : Int32)) 1)
  have g_b4 : n0 ≤ b4 := Nat.le_trans Z0 (Nat.le_of_eq g4.symm)
  have sz_b4 : h0.size ≤ b4 := Nat.le_trans (Nat.le_refl _) (Nat.le_of_eq g4.symm)
  have EX4 : Ext h0 h4 := E4
  have SZ4 : h0.size ≤ h4.size := EX4.1
  have Z4 : n0 ≤ h4.size := Nat.le_trans Z0 SZ4
  have fx6 := (VA.ext E4)
  obtain ⟨_, _, ⟨T5, L5, k5, n5⟩, -, X5, ⟨Lc5, hQ5, l5, y5, z5⟩, st5⟩ := Jvm.LawKit.callS X4 hx (y := (⟨"java/lang/StringUTF16", "compress", "([CI[BII)I"⟩ : MethodName)) hown (mvT hZ (ow hw 74 rfl)) (mvT hZ (ow hw 75 rfl)) (mvT hZ (ow hw 72 rfl)) (mvT hZ (ow hw 76 rfl)) (by decide) (backOf (W := 0) (rm_cmpI1 l Z a0' hw [] a0 b4 kc1 c0 k4 h4 n0 Z4 fx6 V_b4 ne4_a0_b4 g_b4 hc_c0) hZ (ow hw 76 rfl) (ow hw 72 rfl) (by decide) (by decide)) (g := (mkF m 9 #[.val (.ref a0), .val (.int (0 : Int32)), .val (.int (1 : Int32)), .val (.ref b4), .unset, .unset] [(.int (1 : Int32)), (.int (0 : Int32)), (.ref b4), (.int (0 : Int32)), (.ref a0)])) rfl (by rw [hml]; rfl) (argsL := [(.ref a0), (.int (0 : Int32)), (.ref b4), (.int (0 : Int32)), (.int (1 : Int32))]) (rest := []) (lenOf own_pd0 rfl) rfl (by show 2 * 0 + _ ≤ _; exact Nat.le_of_eq rfl) (hb hby own_d_cmpA1_9) (fun _ _ => ⟨rfl, e4, (by decide : 1 + 0 ≤ _), (by decide : 1 + 0 ≤ _)⟩)
  dsimp only [Pt.U, Pt.locs, Pt.cells, Pt.slots] at X5 l5 y5 z5 st5 hQ5
  subst l5 y5 z5
  obtain ⟨rfl, N5q, K5, V5⟩ := hQ5
  have N5 := Fr.app N0 N5q
  have EX5 : Ext h0 T5.heap := own_extkeep EX4 K5 sz_b4
  have SZ5 : h0.size ≤ T5.heap.size := EX5.1
  have Z5 : n0 ≤ T5.heap.size := Nat.le_trans Z0 SZ5
  obtain ⟨fs, hr, hrun, hended, hW, hsame⟩ := X5.leave (v := some (.ref b4)) (fun h => by rw [Bd.returns] at h; cases h)
  refine ⟨_, _, pre0 _ ?_, hrun, hended, _, _, rfl, ?_, ⟨_, rfl⟩, hW, hsame.mono (by decide) (by decide)⟩
  · show Steps p.tables e below (s₁.setTop (mkF m 0 #[.val (.ref a0), .val (.int (0 : Int32)), .val (.int (1 : Int32)), .unset, .unset, .unset] [])) _
    refine XS.iloadN X0.here hx rfl (hb hby own_d_cmpA1_0) rfl ?_
    refine st4 _ ?_
    refine XS.astoreN X4.here hx rfl (hb hby own_d_cmpA1_3) rfl rfl (l' := #[.val (.ref a0), .val (.int (0 : Int32)), .val (.int (1 : Int32)), .val (.ref b4), .unset, .unset]) rfl ?_
    refine XS.aloadN X4.here hx rfl (hb hby own_d_cmpA1_4) rfl rfl ?_
    refine XS.iloadN X4.here hx rfl (hb hby own_d_cmpA1_5) rfl ?_
    refine XS.aloadN X4.here hx rfl (hb hby own_d_cmpA1_6) rfl rfl ?_
    refine XS.iconst X4.here hx rfl (hb hby own_d_cmpA1_7) ?_
    refine XS.iloadN X4.here hx rfl (hb hby own_d_cmpA1_8) rfl ?_
    refine st5 _ ?_
    refine XS.istore X5.here hx rfl (hb hby own_d_cmpA1_12) rfl (l' := #[.val (.ref a0), .val (.int (0 : Int32)), .val (.int (1 : Int32)), .val (.ref b4), .val (.int (1 : Int32)), .unset]) rfl ?_
    refine XS.iload X5.here hx rfl (hb hby own_d_cmpA1_14) rfl ?_
    refine XS.iloadN X5.here hx rfl (hb hby own_d_cmpA1_16) rfl ?_
    refine XS.icmpYes X5.here hx rfl (pc0 := 17) (pc' := 57) rfl (hb hby own_d_cmpA1_17) rfl (teq (by decide : (1 : Int32) = (1 : Int32))).1 (by decide) (by decide) ?_
    refine XS.aloadN X5.here hx rfl (hb hby own_d_cmpA1_57) rfl rfl ?_
    exact own_retA X5 hx Bd.returns rfl rfl rfl (hb hby own_d_cmpA1_58) hr
  · show Q_cmpA1 Z a0 kc1 c0 h0 n0 _ T5.heap _
    exact ⟨_, _, rfl, N5, EX5, sz_b4, V5⟩
theorem own_d_cfl1_0 : decode jdk_52_method_15_code 0 = .ok (.iload_n 1, 1) := by decide +kernel
theorem own_d_cfl1_1 : decode jdk_52_method_15_code 1 = .ok (.aload_n 0, 1) := by decide +kernel
theorem own_d_cfl1_2 : decode jdk_52_method_15_code 2 = .ok (.arraylength, 1) := by decide +kernel
theorem own_d_cfl1_3 : decode jdk_52_method_15_code 3 = .ok (.isub, 1) := by decide +kernel
theorem own_d_cfl1_4 : decode jdk_52_method_15_code 4 = .ok (.bipush 31, 2) := by decide +kernel
theorem own_d_cfl1_6 : decode jdk_52_method_15_code 6 = .ok (.iushr, 1) := by decide +kernel
theorem own_d_cfl1_7 : decode jdk_52_method_15_code 7 = .ok (.i2b, 1) := by decide +kernel
theorem own_d_cfl1_8 : decode jdk_52_method_15_code 8 = .ok (.ireturn, 1) := by decide +kernel
def F_cfl1  : Int32 := (nar .byte (((((1 : Int32) - (1 : Int32)).toUInt32 >>> ((31 : Int32) &&& 31).toUInt32).toInt32).toInt8.toInt32))
theorem own_ef_cfl1 (m : MethodId) (a0 : Addr) : entryFrame m #[(.ref a0), (.int (1 : Int32))] 2 = mkF m 0 #[.val (.ref a0), .val (.int (1 : Int32))] [] := by first | (simp [entryFrame, mkF, argsToLocals, Value.category]; done) | rfl
def Q_cfl1 (Z : State) (a0 : Addr) (kb1 : ClassId) (vs1 : List Value) (dv1 : Value) (h0 : Heap) (n0 : Nat) (v : Option Value) (h : Heap) (L : List Loc) : Prop := v = some (.int F_cfl1) ∧ Fr n0 L ∧ h = h0
set_option maxRecDepth 65536 in
set_option maxHeartbeats 40000000 in
theorem rm_cfl1 (l : Launch) (Z : State) (a0' : Array Value) (hw : ∀ d ∈ tables_1, d.before a0' Z = true) (ws : List Jvm.Cond) (a0 : Addr) (kb1 : ClassId) (vs1 : List Value) (dv1 : Value) (h0 : Heap) (n0 : Nat) (Z0 : n0 ≤ h0.size) (VB : Arv Z h0 a0 kb1 .byte (1 : Int32) vs1 dv1) :
    MetFree l (⟨"java/lang/StringUTF16", "coderFromArrayLen", "([BI)B"⟩ : MethodName) (head1 (Jvm.Cond.code (⟨"java/lang/StringUTF16", "coderFromArrayLen", "([BI)B"⟩ : MethodName) jdk_52_method_15_code 2 (some .byte) :: ws) ({ frames := 0, cells := 0, slots := 0, locals := 0 } : Room)) (fun a U => a = #[(.ref a0), (.int (1 : Int32))] ∧ Z.Warmed39 U.vm ∧ U.heap = h0) (fun _ _ _ _ _ => True) (fun _ U o U' => ∃ v L, o = .returned v ∧ Q_cfl1 Z a0 kb1 vs1 dv1 h0 n0 v U'.heap L ∧ FrameEnd U o U' L ({ frames := 0, cells := 0, slots := 0, locals := 0 } : Room).cells ({ frames := 0, cells := 0, slots := 0, locals := 0 } : Room).slots) := by
  refine MetFree.of_bodySF (plainFor_of_name own_pn0) hisR ?_
  intro p e s m args below meth c s₁ Bd hml0 hP hK
  obtain ⟨rfl, hZ, hh⟩ := hP
  have hx := Bd.exec
  have hby := Bd.bytes
  have hml : c.maxLocals = 2 := hml0
  have hown : s.vm.findClass "java/lang/StringUTF16" = some m.cls := findClass_of_methodNamed Bd.named
  have hnm := (name_of_methodNamed Bd.named Bd.method).1
  have X0 : Stand p l e ({ frames := 0, cells := 0, slots := 0, locals := 0 } : Room) s m #[(.ref a0), (.int (1 : Int32))] below meth c s₁ [] 0 0 := Stand.of_body Bd
  have e0 : s₁.heap = h0 := by rw [← hh, Bd.state]; rfl
  have N0 := Fr.nil n0
  have pre0 : ∀ t, Steps p.tables e below (s₁.setTop (mkF m 0 #[.val (.ref a0), .val (.int (1 : Int32))] [])) t → Steps p.tables e below (s₁.setTop (entryFrame m #[(.ref a0), (.int (1 : Int32))] 2)) t := fun t k => castTop (own_ef_cfl1 m a0) k
  have Vc7 := VB
  obtain ⟨cl7, Ar7, q7, S7, N_7, H7, G7⟩ := Vc7
  obtain ⟨fs, hr, hrun, hended, hW, hsame⟩ := X0.leave (v := some (.int (nar .byte (((((1 : Int32) - (1 : Int32)).toUInt32 >>> ((31 : Int32) &&& 31).toUInt32).toInt32).toInt8.toInt32)))) (fun h => by rw [Bd.returns] at h; cases h)
  refine ⟨_, _, pre0 _ ?_, hrun, hended, _, _, rfl, ?_, ⟨_, rfl⟩, hW, hsame.mono (by decide) (by decide)⟩
  · show Steps p.tables e below (s₁.setTop (mkF m 0 #[.val (.ref a0), .val (.int (1 : Int32))] [])) _
    refine XS.iloadN X0.here hx rfl (hb hby own_d_cfl1_0) rfl ?_
    refine XS.aloadN X0.here hx rfl (hb hby own_d_cfl1_1) rfl rfl ?_
    refine X0.arraylength hx (by rw [e0]; exact Ar7.1) (State.isArrayOf_alike hZ.alike Ar7.2.1) (g := (mkF m 2 #[.val (.ref a0), .val (.int (1 : Int32))] [(.ref a0), (.int (1 : Int32))])) rfl rfl (hb hby own_d_cfl1_2) _ ?_
    rw [len_of S7 N_7]
    refine XS.isub X0.here hx rfl (hb hby own_d_cfl1_3) rfl ?_
    refine XS.bipush X0.here hx rfl (hb hby own_d_cfl1_4) ?_
    refine XS.iushr X0.here hx rfl (hb hby own_d_cfl1_6) rfl ?_
    refine XS.i2b X0.here hx rfl (hb hby own_d_cfl1_7) rfl ?_
    exact retN X0 hx (t := .byte) Bd.returns (by simp) (hb hby own_d_cfl1_8) hr
  · show Q_cfl1 Z a0 kb1 vs1 dv1 h0 n0 _ s₁.heap _
    refine ⟨?_, N0, e0⟩
    rw [F_cfl1]
theorem own_pn1 : plainName "java/lang/String" = true := by first | (simp [plainName, overriddenIn]; done) | decide +kernel
theorem own_d_in4_1_0 : decode jdk_42_method_149_code 0 = .ok (.aload_n 0, 1) := by decide +kernel
theorem own_d_in4_1_1 : decode jdk_42_method_149_code 1 = .ok (.invokespecial 1, 3) := by decide +kernel
theorem own_d_in4_1_4 : decode jdk_42_method_149_code 4 = .ok (.iload_n 3, 1) := by decide +kernel
theorem own_d_in4_1_5 : decode jdk_42_method_149_code 5 = .ok (.ifCond .ne 22, 3) := by decide +kernel
theorem own_d_in4_1_27 : decode jdk_42_method_149_code 27 = .ok (.getstatic 38, 3) := by decide +kernel
theorem own_d_in4_1_30 : decode jdk_42_method_149_code 30 = .ok (.ifCond .eq 28, 3) := by decide +kernel
theorem own_d_in4_1_33 : decode jdk_42_method_149_code 33 = .ok (.aload_n 1, 1) := by decide +kernel
theorem own_d_in4_1_34 : decode jdk_42_method_149_code 34 = .ok (.iload_n 2, 1) := by decide +kernel
theorem own_d_in4_1_35 : decode jdk_42_method_149_code 35 = .ok (.iload_n 3, 1) := by decide +kernel
theorem own_d_in4_1_36 : decode jdk_42_method_149_code 36 = .ok (.invokestatic 177, 3) := by decide +kernel
theorem own_pd1 : parseMethodDescriptor "([CII)[B" = some ⟨[(.array .char), .int, .int], some (.array .byte)⟩ := by decide +kernel
theorem own_d_in4_1_39 : decode jdk_42_method_149_code 39 = .ok (.astore 5, 2) := by decide +kernel
theorem own_d_in4_1_41 : decode jdk_42_method_149_code 41 = .ok (.aload_n 0, 1) := by decide +kernel
theorem own_d_in4_1_42 : decode jdk_42_method_149_code 42 = .ok (.aload 5, 2) := by decide +kernel
theorem own_d_in4_1_44 : decode jdk_42_method_149_code 44 = .ok (.iload_n 3, 1) := by decide +kernel
theorem own_d_in4_1_45 : decode jdk_42_method_149_code 45 = .ok (.invokestatic 47, 3) := by decide +kernel
theorem own_pd2 : parseMethodDescriptor "([BI)B" = some ⟨[(.array .byte), .int], some .byte⟩ := by decide +kernel
theorem own_d_in4_1_48 : decode jdk_42_method_149_code 48 = .ok (.putfield 15, 3) := by decide +kernel
theorem own_d_in4_1_51 : decode jdk_42_method_149_code 51 = .ok (.aload_n 0, 1) := by decide +kernel
theorem own_d_in4_1_52 : decode jdk_42_method_149_code 52 = .ok (.aload 5, 2) := by decide +kernel
theorem own_d_in4_1_54 : decode jdk_42_method_149_code 54 = .ok (.putfield 9, 3) := by decide +kernel
theorem own_d_in4_1_57 : decode jdk_42_method_149_code 57 = .ok (.return_, 1) := by decide +kernel
theorem own_ef_in4_1 (m : MethodId) (a0 : Addr) (a1 : Addr) : entryFrame m #[(.ref a0), (.ref a1), (.int (0 : Int32)), (.int (1 : Int32)), .null] 6 = mkF m 0 #[.val (.ref a0), .val (.ref a1), .val (.int (0 : Int32)), .val (.int (1 : Int32)), .val .null, .unset] [] := by first | (simp [entryFrame, mkF, argsToLocals, Value.category]; done) | rfl
def Q_in4_1 (Z : State) (a0 : Addr) (a1 : Addr) (kc1 : ClassId) (c0 : Int32) (kc : Int32) (h0 : Heap) (n0 : Nat) (v : Option Value) (h : Heap) (L : List Loc) : Prop := v = none ∧ Fr n0 L ∧ Keep h0 h [a0] ∧ Exa Z h a0 "java/lang/String" ∧ Fld Z h a0 "java/lang/String" "coder" "B" (.int (0 : Int32)) ∧ ∃ (b : Addr) (k : ClassId), Fld Z h a0 "java/lang/String" "value" "[B" (.ref b) ∧ Arv Z h b k .byte (1 : Int32) [(.int (nar .byte (c0.toInt8.toInt32)))] (.int (0 : Int32))
set_option maxRecDepth 65536 in
set_option maxHeartbeats 40000000 in
theorem rm_in4_1 (l : Launch) (Z : State) (a0' : Array Value) (hw : ∀ d ∈ tables_1, d.before a0' Z = true) (ws : List Jvm.Cond) (a0 : Addr) (a1 : Addr) (kc1 : ClassId) (c0 : Int32) (kc : Int32) (h0 : Heap) (n0 : Nat) (Z0 : n0 ≤ h0.size) (E_t : Exa Z h0 a0 "java/lang/String") (F0v : Fld Z h0 a0 "java/lang/String" "value" "[B" .null) (F0c : Fld Z h0 a0 "java/lang/String" "coder" "B" (.int (0 : Int32))) (g_t : n0 ≤ a0) (VA : Arv Z h0 a1 kc1 .char (1 : Int32) [(.int c0)] (.int (0 : Int32))) (na1 : a0 ≠ a1) (hc_c0 : ¬ ((255 : Int32) < c0)) (S_cs : Sta Z h0 "java/lang/String" "COMPACT_STRINGS" "Z" (.int kc)) (hkc : ¬ (kc = (0 : Int32))) :
    MetFree l (⟨"java/lang/String", "<init>", "([CIILjava/lang/Void;)V"⟩ : MethodName) (head1 (Jvm.Cond.code (⟨"java/lang/String", "<init>", "([CIILjava/lang/Void;)V"⟩ : MethodName) jdk_42_method_149_code 6 none :: ws) ({ frames := 2, cells := 1, slots := 1, locals := 35 } : Room)) (fun a U => a = #[(.ref a0), (.ref a1), (.int (0 : Int32)), (.int (1 : Int32)), .null] ∧ Z.Warmed39 U.vm ∧ U.heap = h0) (fun _ _ _ _ _ => True) (fun _ U o U' => ∃ v L, o = .returned v ∧ Q_in4_1 Z a0 a1 kc1 c0 kc h0 n0 v U'.heap L ∧ FrameEnd U o U' L ({ frames := 2, cells := 1, slots := 1, locals := 35 } : Room).cells ({ frames := 2, cells := 1, slots := 1, locals := 35 } : Room).slots) := by
  refine MetFree.of_bodySF (plainFor_of_name own_pn1) hisR ?_
  intro p e s m args below meth c s₁ Bd hml0 hP hK
  obtain ⟨rfl, hZ, hh⟩ := hP
  have hx := Bd.exec
  have hby := Bd.bytes
  have hml : c.maxLocals = 6 := hml0
  have hown : s.vm.findClass "java/lang/String" = some m.cls := findClass_of_methodNamed Bd.named
  have hnm := (name_of_methodNamed Bd.named Bd.method).1
  have X0 : Stand p l e ({ frames := 2, cells := 1, slots := 1, locals := 35 } : Room) s m #[(.ref a0), (.ref a1), (.int (0 : Int32)), (.int (1 : Int32)), .null] below meth c s₁ [] 0 0 := Stand.of_body Bd
  have e0 : s₁.heap = h0 := by rw [← hh, Bd.state]; rfl
  have N0 := Fr.nil n0
  have pre0 : ∀ t, Steps p.tables e below (s₁.setTop (mkF m 0 #[.val (.ref a0), .val (.ref a1), .val (.int (0 : Int32)), .val (.int (1 : Int32)), .val .null, .unset] [])) t → Steps p.tables e below (s₁.setTop (entryFrame m #[(.ref a0), (.ref a1), (.int (0 : Int32)), (.int (1 : Int32)), .null] 6)) t := fun t k => castTop (own_ef_in4_1 m a0 a1) k
  obtain ⟨T8, X8, e8, st8⟩ := initO X0 hx hZ hown (ow hw 15 rfl) (ow hw 16 rfl) (ow hw 17 rfl) e0 (g := (mkF m 1 #[.val (.ref a0), .val (.ref a1), .val (.int (0 : Int32)), .val (.int (1 : Int32)), .val .null, .unset] [(.ref a0)])) rfl (by rw [hml]; rfl) rfl (hb hby own_d_in4_1_1) (by decide) (W := 0) (by show 2 * 0 + _ ≤ _; exact Nat.le_of_eq rfl) (by decide)
  obtain ⟨T9, X9, e9, st9⟩ := getS2 X8 hx hZ hown (host := "") (Or.inl (ow hw 63 rfl)) Via.refl e8 S_cs (g := (mkF m 27 #[.val (.ref a0), .val (.ref a1), .val (.int (0 : Int32)), .val (.int (1 : Int32)), .val .null, .unset] [])) rfl (hb hby own_d_in4_1_27)
  obtain ⟨_, _, ⟨T10, L10, k10, n10⟩, -, X10, ⟨Lc10, hQ10, l10, y10, z10⟩, st10⟩ := Jvm.LawKit.callS X9 hx (y := (⟨"java/lang/StringUTF16", "compress", "([CII)[B"⟩ : MethodName)) hown (mvT hZ (ow hw 70 rfl)) (mvT hZ (ow hw 71 rfl)) (mvT hZ (ow hw 72 rfl)) (mvT hZ (ow hw 73 rfl)) (by decide) (backOf (W := 0) (rm_cmpA1 l Z a0' hw [] a1 kc1 c0 h0 n0 Z0 VA hc_c0) hZ (ow hw 73 rfl) (ow hw 72 rfl) (by decide) (by decide)) (g := (mkF m 36 #[.val (.ref a0), .val (.ref a1), .val (.int (0 : Int32)), .val (.int (1 : Int32)), .val .null, .unset] [(.int (1 : Int32)), (.int (0 : Int32)), (.ref a1)])) rfl (by rw [hml]; rfl) (argsL := [(.ref a1), (.int (0 : Int32)), (.int (1 : Int32))]) (rest := []) (lenOf own_pd1 rfl) rfl (by show 2 * 0 + _ ≤ _; exact Nat.le_of_eq rfl) (hb hby own_d_in4_1_36) (fun _ _ => ⟨rfl, e9, (by decide : 0 + 1 ≤ _), (by decide : 0 + 1 ≤ _)⟩)
  dsimp only [Pt.U, Pt.locs, Pt.cells, Pt.slots] at X10 l10 y10 z10 st10 hQ10
  subst l10 y10 z10
  obtain ⟨r10, kk10, rfl, N10q, E10, zz10, V10⟩ := hQ10
  have N10 := Fr.app N0 N10q
  have ne10_a0_r10 : a0 ≠ r10 := Nat.ne_of_lt (Nat.lt_of_lt_of_le E_t.lt zz10)
  have ne10_a1_r10 : a1 ≠ r10 := Nat.ne_of_lt (Nat.lt_of_lt_of_le VA.lt zz10)
  have g_r10 : n0 ≤ r10 := Nat.le_trans Z0 zz10
  have sz_r10 : h0.size ≤ r10 := Nat.le_trans (Nat.le_refl _) zz10
  have KP10 : Keep h0 T10.heap [a0] := (Keep.refl h0 [a0]).ext E10
  have SZ10 : h0.size ≤ T10.heap.size := KP10.1
  have Z10 : n0 ≤ T10.heap.size := Nat.le_trans Z0 SZ10
  obtain ⟨_, _, ⟨T11, L11, k11, n11⟩, -, X11, ⟨Lc11, hQ11, l11, y11, z11⟩, st11⟩ := Jvm.LawKit.callS X10 hx (y := (⟨"java/lang/StringUTF16", "coderFromArrayLen", "([BI)B"⟩ : MethodName)) hown (mvT hZ (ow hw 77 rfl)) (mvT hZ (ow hw 78 rfl)) (mvT hZ (ow hw 72 rfl)) (mvT hZ (ow hw 79 rfl)) (by decide) (backOf (W := 1) (rm_cfl1 l Z a0' hw [] r10 kk10 _ _ T10.heap n0 Z10 V10) hZ (ow hw 79 rfl) (ow hw 72 rfl) (by decide) (by decide)) (g := (mkF m 45 #[.val (.ref a0), .val (.ref a1), .val (.int (0 : Int32)), .val (.int (1 : Int32)), .val .null, .val (.ref r10)] [(.int (1 : Int32)), (.ref r10), (.ref a0)])) rfl (by rw [hml]; rfl) (argsL := [(.ref r10), (.int (1 : Int32))]) (rest := [(.ref a0)]) (lenOf own_pd2 rfl) rfl (by show 2 * 0 + _ ≤ _; exact Nat.le_of_eq rfl) (hb hby own_d_in4_1_45) (fun _ _ => ⟨rfl, rfl, (by decide : 1 + 0 ≤ _), (by decide : 1 + 0 ≤ _)⟩)
  dsimp only [Pt.U, Pt.locs, Pt.cells, Pt.slots] at X11 l11 y11 z11 st11 hQ11
  subst l11 y11 z11
  obtain ⟨rfl, N11q, e11⟩ := hQ11
  have N11 := Fr.app N10 N11q
  have q11 : F_cfl1 = (0 : Int32) := by decide
  rw [q11] at st11
  have fx13 := (E_t.ext E10)
  have fx14 := (F0c.ext E10)
  have Fo12 := fx14
  obtain ⟨T15, h15, X15, e15, W15, st15⟩ := putFN X11 hx hZ hown (ow hw 25 rfl) Via.refl e11 Fo12 fx13 (Or.inr ⟨(ow hw 21 rfl), rfl, hnm⟩) (ow hw 5 rfl) (ty := .byte) (v' := (.int (nar .byte (0 : Int32)))) (by decide) rfl (fits_nar_byte _) (g := (mkF m 48 #[.val (.ref a0), .val (.ref a1), .val (.int (0 : Int32)), .val (.int (1 : Int32)), .val .null, .val (.ref r10)] [(.int (0 : Int32)), (.ref a0)])) rfl rfl (hb hby own_d_in4_1_48)
  have Fw15 : Fld Z h15 a0 "java/lang/String" "coder" "B" (.int (0 : Int32)) := Fo12.same W15
  have N15 := Fr.snoc X15 N11 g_t
  have KP15 : Keep h0 h15 [a0] := KP10.wr W15 (Or.inl (List.mem_of_getElem? (i := 0) rfl))
  have SZ15 : h0.size ≤ h15.size := KP15.1
  have Z15 : n0 ≤ h15.size := Nat.le_trans Z0 SZ15
  have fx17 := (fx13.wr W15)
  have fx18 := ((F0v.ext E10).other W15 (Or.inr (slot_ne (a0 := a0') (Or.inr (ow hw 20 rfl)) (Or.inr (ow hw 21 rfl)) (by decide) (t := (.array .byte)) (t' := .byte) (by decide) (by decide))))
  have Fo16 := fx18
  obtain ⟨T19, h19, X19, e19, W19, st19⟩ := putF X15 hx hZ hown (host := "") (Or.inl (ow hw 24 rfl)) Via.refl e15 Fo16 fx17 (Or.inr ⟨(ow hw 20 rfl), rfl, hnm⟩) (ow hw 5 rfl) (ty := (.array .byte)) (by decide) rfl rfl (g := (mkF m 54 #[.val (.ref a0), .val (.ref a1), .val (.int (0 : Int32)), .val (.int (1 : Int32)), .val .null, .val (.ref r10)] [(.ref r10), (.ref a0)])) rfl rfl (hb hby own_d_in4_1_54)
  have Fw19 : Fld Z h19 a0 "java/lang/String" "value" "[B" (.ref r10) := Fo16.same W19
  have N19 := Fr.snoc X19 N15 g_t
  have KP19 : Keep h0 h19 [a0] := KP15.wr W19 (Or.inl (List.mem_of_getElem? (i := 0) rfl))
  have SZ19 : h0.size ≤ h19.size := KP19.1
  have Z19 : n0 ≤ h19.size := Nat.le_trans Z0 SZ19
  have fx20 := (fx17.wr W19)
  have fx21 := (Fw15.other W19 (Or.inr (slot_ne (a0 := a0') (Or.inr (ow hw 21 rfl)) (Or.inr (ow hw 20 rfl)) (by decide) (t := .byte) (t' := (.array .byte)) (by decide) (by decide))))
  have fx22 := ((V10.other W15 (Ne.symm ne10_a0_r10)).other W19 (Ne.symm ne10_a0_r10))
  obtain ⟨fs, hr, hrun, hended, hW, hsame⟩ := X19.leave (v := none) (fun _ => rfl)
  refine ⟨_, _, pre0 _ ?_, hrun, hended, _, _, rfl, ?_, ⟨_, rfl⟩, hW, hsame.mono (by decide) (by decide)⟩
  · show Steps p.tables e below (s₁.setTop (mkF m 0 #[.val (.ref a0), .val (.ref a1), .val (.int (0 : Int32)), .val (.int (1 : Int32)), .val .null, .unset] [])) _
    refine XS.aloadN X0.here hx rfl (hb hby own_d_in4_1_0) rfl rfl ?_
    refine st8 _ ?_
    refine XS.iloadN X8.here hx rfl (hb hby own_d_in4_1_4) rfl ?_
    refine XS.ifYes X8.here hx rfl (pc0 := 5) (pc' := 27) rfl (hb hby own_d_in4_1_5) rfl ((if0 _ _).trans (feq (by decide : ¬ ((1 : Int32) = (0 : Int32)))).2) (by decide) (by decide) ?_
    refine st9 _ ?_
    refine XS.ifNo X9.here hx rfl (hb hby own_d_in4_1_30) rfl ((if0 _ _).trans (feq hkc).1) ?_
    refine XS.aloadN X9.here hx rfl (hb hby own_d_in4_1_33) rfl rfl ?_
    refine XS.iloadN X9.here hx rfl (hb hby own_d_in4_1_34) rfl ?_
    refine XS.iloadN X9.here hx rfl (hb hby own_d_in4_1_35) rfl ?_
    refine st10 _ ?_
    refine XS.astore X10.here hx rfl (hb hby own_d_in4_1_39) rfl rfl (l' := #[.val (.ref a0), .val (.ref a1), .val (.int (0 : Int32)), .val (.int (1 : Int32)), .val .null, .val (.ref r10)]) rfl ?_
    refine XS.aloadN X10.here hx rfl (hb hby own_d_in4_1_41) rfl rfl ?_
    refine XS.aload X10.here hx rfl (hb hby own_d_in4_1_42) rfl rfl ?_
    refine XS.iloadN X10.here hx rfl (hb hby own_d_in4_1_44) rfl ?_
    refine st11 _ ?_
    refine st15 _ ?_
    refine XS.aloadN X15.here hx rfl (hb hby own_d_in4_1_51) rfl rfl ?_
    refine XS.aload X15.here hx rfl (hb hby own_d_in4_1_52) rfl rfl ?_
    refine st19 _ ?_
    exact X19.returnOut hx Bd.returns (hb hby own_d_in4_1_57) hr
  · show Q_in4_1 Z a0 a1 kc1 c0 kc h0 n0 _ T19.heap _
    rw [e19]
    exact ⟨rfl, N19, KP19, fx20, fx21, _, _, Fw19, fx22⟩
theorem own_d_in1_1_0 : decode jdk_42_method_3_code 0 = .ok (.aload_n 0, 1) := by decide +kernel
theorem own_d_in1_1_1 : decode jdk_42_method_3_code 1 = .ok (.aload_n 1, 1) := by decide +kernel
theorem own_d_in1_1_2 : decode jdk_42_method_3_code 2 = .ok (.iconst 0, 1) := by decide +kernel
theorem own_d_in1_1_3 : decode jdk_42_method_3_code 3 = .ok (.aload_n 1, 1) := by decide +kernel
theorem own_d_in1_1_4 : decode jdk_42_method_3_code 4 = .ok (.arraylength, 1) := by decide +kernel
theorem own_d_in1_1_5 : decode jdk_42_method_3_code 5 = .ok (.aconst_null, 1) := by decide +kernel
theorem own_d_in1_1_6 : decode jdk_42_method_3_code 6 = .ok (.invokespecial 27, 3) := by decide +kernel
theorem own_pd3 : parseMethodDescriptor "([CIILjava/lang/Void;)V" = some ⟨[(.array .char), .int, .int, (.object "java/lang/Void")], none⟩ := by decide +kernel
theorem own_d_in1_1_9 : decode jdk_42_method_3_code 9 = .ok (.return_, 1) := by decide +kernel
theorem own_ef_in1_1 (m : MethodId) (a0 : Addr) (a1 : Addr) : entryFrame m #[(.ref a0), (.ref a1)] 2 = mkF m 0 #[.val (.ref a0), .val (.ref a1)] [] := by first | (simp [entryFrame, mkF, argsToLocals, Value.category]; done) | rfl
def Q_in1_1 (Z : State) (a0 : Addr) (a1 : Addr) (kc1 : ClassId) (c0 : Int32) (kc : Int32) (h0 : Heap) (n0 : Nat) (v : Option Value) (h : Heap) (L : List Loc) : Prop := v = none ∧ Fr n0 L ∧ Keep h0 h [a0] ∧ Exa Z h a0 "java/lang/String" ∧ Fld Z h a0 "java/lang/String" "coder" "B" (.int (0 : Int32)) ∧ ∃ (b : Addr) (k : ClassId), Fld Z h a0 "java/lang/String" "value" "[B" (.ref b) ∧ Arv Z h b k .byte (1 : Int32) [(.int (nar .byte (c0.toInt8.toInt32)))] (.int (0 : Int32))
set_option maxRecDepth 65536 in
set_option maxHeartbeats 40000000 in
theorem rm_in1_1 (l : Launch) (Z : State) (a0' : Array Value) (hw : ∀ d ∈ tables_1, d.before a0' Z = true) (ws : List Jvm.Cond) (a0 : Addr) (a1 : Addr) (kc1 : ClassId) (c0 : Int32) (kc : Int32) (h0 : Heap) (n0 : Nat) (Z0 : n0 ≤ h0.size) (E_t : Exa Z h0 a0 "java/lang/String") (F0v : Fld Z h0 a0 "java/lang/String" "value" "[B" .null) (F0c : Fld Z h0 a0 "java/lang/String" "coder" "B" (.int (0 : Int32))) (g_t : n0 ≤ a0) (VA : Arv Z h0 a1 kc1 .char (1 : Int32) [(.int c0)] (.int (0 : Int32))) (na1 : a0 ≠ a1) (hc_c0 : ¬ ((255 : Int32) < c0)) (S_cs : Sta Z h0 "java/lang/String" "COMPACT_STRINGS" "Z" (.int kc)) (hkc : ¬ (kc = (0 : Int32))) :
    MetFree l (⟨"java/lang/String", "<init>", "([C)V"⟩ : MethodName) (head1 (Jvm.Cond.code (⟨"java/lang/String", "<init>", "([C)V"⟩ : MethodName) jdk_42_method_3_code 2 none :: ws) ({ frames := 3, cells := 1, slots := 1, locals := 52 } : Room)) (fun a U => a = #[(.ref a0), (.ref a1)] ∧ Z.Warmed39 U.vm ∧ U.heap = h0) (fun _ _ _ _ _ => True) (fun _ U o U' => ∃ v L, o = .returned v ∧ Q_in1_1 Z a0 a1 kc1 c0 kc h0 n0 v U'.heap L ∧ FrameEnd U o U' L ({ frames := 3, cells := 1, slots := 1, locals := 52 } : Room).cells ({ frames := 3, cells := 1, slots := 1, locals := 52 } : Room).slots) := by
  refine MetFree.of_bodySF (plainFor_of_name own_pn1) hisR ?_
  intro p e s m args below meth c s₁ Bd hml0 hP hK
  obtain ⟨rfl, hZ, hh⟩ := hP
  have hx := Bd.exec
  have hby := Bd.bytes
  have hml : c.maxLocals = 2 := hml0
  have hown : s.vm.findClass "java/lang/String" = some m.cls := findClass_of_methodNamed Bd.named
  have hnm := (name_of_methodNamed Bd.named Bd.method).1
  have X0 : Stand p l e ({ frames := 3, cells := 1, slots := 1, locals := 52 } : Room) s m #[(.ref a0), (.ref a1)] below meth c s₁ [] 0 0 := Stand.of_body Bd
  have e0 : s₁.heap = h0 := by rw [← hh, Bd.state]; rfl
  have N0 := Fr.nil n0
  have pre0 : ∀ t, Steps p.tables e below (s₁.setTop (mkF m 0 #[.val (.ref a0), .val (.ref a1)] [])) t → Steps p.tables e below (s₁.setTop (entryFrame m #[(.ref a0), (.ref a1)] 2)) t := fun t k => castTop (own_ef_in1_1 m a0 a1) k
  have Vc23 := VA
  obtain ⟨cl23, Ar23, q23, S23, N_23, H23, G23⟩ := Vc23
  obtain ⟨_, _, ⟨T24, L24, k24, n24⟩, -, X24, ⟨Lc24, hQ24, l24, y24, z24⟩, st24⟩ := X0.specialBack hx (y := (⟨"java/lang/String", "<init>", "([CIILjava/lang/Void;)V"⟩ : MethodName)) rfl hown (mvT hZ (ow hw 11 rfl)) (mvT hZ (ow hw 12 rfl)) (mvT hZ (ow hw 14 rfl)) (by decide) (backOf (W := 0) (rm_in4_1 l Z a0' hw [] a0 a1 kc1 c0 kc h0 n0 Z0 E_t F0v F0c g_t VA na1 hc_c0 S_cs hkc) hZ (ow hw 14 rfl) (ow hw 6 rfl) (by decide) (by decide)) (g := (mkF m 6 #[.val (.ref a0), .val (.ref a1)] [.null, (.int (1 : Int32)), (.int (0 : Int32)), (.ref a1), (.ref a0)])) rfl (by rw [hml]; rfl) (Steps.refl _) (a := a0) (argsL := [(.ref a1), (.int (0 : Int32)), (.int (1 : Int32)), .null]) (rest := []) (lenOf own_pd3 rfl) rfl (by show 2 * 0 + _ ≤ _; exact Nat.le_of_eq rfl) (hb hby own_d_in1_1_6) (fun _ _ => ⟨rfl, e0, (by decide : 0 + 1 ≤ _), (by decide : 0 + 1 ≤ _)⟩)
  dsimp only [Pt.U, Pt.locs, Pt.cells, Pt.slots] at X24 l24 y24 z24 st24 hQ24
  subst l24 y24 z24
  obtain ⟨rfl, N24q, K24, Ei24, Ci24, bi24, ki24, Fi24, Vi24⟩ := hQ24
  have N24 := Fr.app N0 N24q
  have KP24 : Keep h0 T24.heap [a0] := (Keep.refl h0 [a0]).trans K24 (allS (Or.inl (List.mem_of_getElem? (i := 0) rfl)) all0)
  have SZ24 : h0.size ≤ T24.heap.size := KP24.1
  have Z24 : n0 ≤ T24.heap.size := Nat.le_trans Z0 SZ24
  obtain ⟨fs, hr, hrun, hended, hW, hsame⟩ := X24.leave (v := none) (fun _ => rfl)
  refine ⟨_, _, pre0 _ ?_, hrun, hended, _, _, rfl, ?_, ⟨_, rfl⟩, hW, hsame.mono (by decide) (by decide)⟩
  · show Steps p.tables e below (s₁.setTop (mkF m 0 #[.val (.ref a0), .val (.ref a1)] [])) _
    refine XS.aloadN X0.here hx rfl (hb hby own_d_in1_1_0) rfl rfl ?_
    refine XS.aloadN X0.here hx rfl (hb hby own_d_in1_1_1) rfl rfl ?_
    refine XS.iconst X0.here hx rfl (hb hby own_d_in1_1_2) ?_
    refine XS.aloadN X0.here hx rfl (hb hby own_d_in1_1_3) rfl rfl ?_
    refine X0.arraylength hx (by rw [e0]; exact Ar23.1) (State.isArrayOf_alike hZ.alike Ar23.2.1) (g := (mkF m 4 #[.val (.ref a0), .val (.ref a1)] [(.ref a1), (.int (0 : Int32)), (.ref a1), (.ref a0)])) rfl rfl (hb hby own_d_in1_1_4) _ ?_
    rw [len_of S23 N_23]
    refine XS.aconstNull X0.here hx rfl (hb hby own_d_in1_1_5) ?_
    refine st24.trans ?_
    exact X24.returnOut hx Bd.returns (hb hby own_d_in1_1_9) hr
  · show Q_in1_1 Z a0 a1 kc1 c0 kc h0 n0 _ T24.heap _
    exact ⟨rfl, N24, KP24, Ei24, Ci24, _, _, Fi24, Vi24⟩
theorem own_d_cmpI2_0 : decode jdk_52_method_21_code 0 = .ok (.iconst 0, 1) := by decide +kernel
theorem own_d_cmpI2_1 : decode jdk_52_method_21_code 1 = .ok (.istore 5, 2) := by decide +kernel
theorem own_d_cmpI2_3 : decode jdk_52_method_21_code 3 = .ok (.iload 5, 2) := by decide +kernel
theorem own_d_cmpI2_5 : decode jdk_52_method_21_code 5 = .ok (.iload 4, 2) := by decide +kernel
theorem own_d_cmpI2_7 : decode jdk_52_method_21_code 7 = .ok (.if_icmp .ge 37, 3) := by decide +kernel
theorem own_d_cmpI2_10 : decode jdk_52_method_21_code 10 = .ok (.aload_n 0, 1) := by decide +kernel
theorem own_d_cmpI2_11 : decode jdk_52_method_21_code 11 = .ok (.iload_n 1, 1) := by decide +kernel
theorem own_d_cmpI2_12 : decode jdk_52_method_21_code 12 = .ok (.caload, 1) := by decide +kernel
theorem own_d_cmpI2_13 : decode jdk_52_method_21_code 13 = .ok (.istore 6, 2) := by decide +kernel
theorem own_d_cmpI2_15 : decode jdk_52_method_21_code 15 = .ok (.iload 6, 2) := by decide +kernel
theorem own_d_cmpI2_17 : decode jdk_52_method_21_code 17 = .ok (.sipush 255, 3) := by decide +kernel
theorem own_d_cmpI2_20 : decode jdk_52_method_21_code 20 = .ok (.if_icmp .le 6, 3) := by decide +kernel
theorem own_d_cmpI2_26 : decode jdk_52_method_21_code 26 = .ok (.aload_n 2, 1) := by decide +kernel
theorem own_d_cmpI2_27 : decode jdk_52_method_21_code 27 = .ok (.iload_n 3, 1) := by decide +kernel
theorem own_d_cmpI2_28 : decode jdk_52_method_21_code 28 = .ok (.iload 6, 2) := by decide +kernel
theorem own_d_cmpI2_30 : decode jdk_52_method_21_code 30 = .ok (.i2b, 1) := by decide +kernel
theorem own_d_cmpI2_31 : decode jdk_52_method_21_code 31 = .ok (.bastore, 1) := by decide +kernel
theorem own_d_cmpI2_32 : decode jdk_52_method_21_code 32 = .ok (.iinc 1 1, 3) := by decide +kernel
theorem own_d_cmpI2_35 : decode jdk_52_method_21_code 35 = .ok (.iinc 3 1, 3) := by decide +kernel
theorem own_d_cmpI2_38 : decode jdk_52_method_21_code 38 = .ok (.iinc 5 1, 3) := by decide +kernel
theorem own_d_cmpI2_41 : decode jdk_52_method_21_code 41 = .ok (.goto (-38), 3) := by decide +kernel
theorem own_d_cmpI2_44 : decode jdk_52_method_21_code 44 = .ok (.iload 4, 2) := by decide +kernel
theorem own_d_cmpI2_46 : decode jdk_52_method_21_code 46 = .ok (.ireturn, 1) := by decide +kernel
theorem own_ef_cmpI2 (m : MethodId) (a0 : Addr) (a2 : Addr) : entryFrame m #[(.ref a0), (.int (0 : Int32)), (.ref a2), (.int (0 : Int32)), (.int (2 : Int32))] 7 = mkF m 0 #[.val (.ref a0), .val (.int (0 : Int32)), .val (.ref a2), .val (.int (0 : Int32)), .val (.int (2 : Int32)), .unset, .unset] [] := by first | (simp [entryFrame, mkF, argsToLocals, Value.category]; done) | rfl
def Q_cmpI2 (Z : State) (a0 : Addr) (a2 : Addr) (kc1 : ClassId) (c0 : Int32) (c1 : Int32) (kb1 : ClassId) (h0 : Heap) (n0 : Nat) (v : Option Value) (h : Heap) (L : List Loc) : Prop := v = some (.int (2 : Int32)) ∧ Fr n0 L ∧ Keep h0 h [a2] ∧ Arv Z h a2 kb1 .byte (2 : Int32) [(.int (nar .byte (c0.toInt8.toInt32))), (.int (nar .byte (c1.toInt8.toInt32)))] (.int (0 : Int32))
set_option maxRecDepth 65536 in
set_option maxHeartbeats 40000000 in
theorem rm_cmpI2 (l : Launch) (Z : State) (a0' : Array Value) (hw : ∀ d ∈ tables_1, d.before a0' Z = true) (ws : List Jvm.Cond) (a0 : Addr) (a2 : Addr) (kc1 : ClassId) (c0 : Int32) (c1 : Int32) (kb1 : ClassId) (h0 : Heap) (n0 : Nat) (Z0 : n0 ≤ h0.size) (VA : Arv Z h0 a0 kc1 .char (2 : Int32) [(.int c0), (.int c1)] (.int (0 : Int32))) (VB : Arv Z h0 a2 kb1 .byte (2 : Int32) [(.int (0 : Int32)), (.int (0 : Int32))] (.int (0 : Int32))) (nab : a0 ≠ a2) (g2 : n0 ≤ a2) (hc_c0 : ¬ ((255 : Int32) < c0)) (hc_c1 : ¬ ((255 : Int32) < c1)) :
    MetFree l (⟨"java/lang/StringUTF16", "compress", "([CI[BII)I"⟩ : MethodName) (head1 (Jvm.Cond.code (⟨"java/lang/StringUTF16", "compress", "([CI[BII)I"⟩ : MethodName) jdk_52_method_21_code 7 (some .int) :: ws) ({ frames := 0, cells := 0, slots := 0, locals := 0 } : Room)) (fun a U => a = #[(.ref a0), (.int (0 : Int32)), (.ref a2), (.int (0 : Int32)), (.int (2 : Int32))] ∧ Z.Warmed39 U.vm ∧ U.heap = h0) (fun _ _ _ _ _ => True) (fun _ U o U' => ∃ v L, o = .returned v ∧ Q_cmpI2 Z a0 a2 kc1 c0 c1 kb1 h0 n0 v U'.heap L ∧ FrameEnd U o U' L ({ frames := 0, cells := 0, slots := 0, locals := 0 } : Room).cells ({ frames := 0, cells := 0, slots := 0, locals := 0 } : Room).slots) := by
  refine MetFree.of_bodySF (plainFor_of_name own_pn0) hisR ?_
  intro p e s m args below meth c s₁ Bd hml0 hP hK
  obtain ⟨rfl, hZ, hh⟩ := hP
  have hx := Bd.exec
  have hby := Bd.bytes
  have hml : c.maxLocals = 7 := hml0
  have hown : s.vm.findClass "java/lang/StringUTF16" = some m.cls := findClass_of_methodNamed Bd.named
  have hnm := (name_of_methodNamed Bd.named Bd.method).1
  have X0 : Stand p l e ({ frames := 0, cells := 0, slots := 0, locals := 0 } : Room) s m #[(.ref a0), (.int (0 : Int32)), (.ref a2), (.int (0 : Int32)), (.int (2 : Int32))] below meth c s₁ [] 0 0 := Stand.of_body Bd
  have e0 : s₁.heap = h0 := by rw [← hh, Bd.state]; rfl
  have N0 := Fr.nil n0
  have pre0 : ∀ t, Steps p.tables e below (s₁.setTop (mkF m 0 #[.val (.ref a0), .val (.int (0 : Int32)), .val (.ref a2), .val (.int (0 : Int32)), .val (.int (2 : Int32)), .unset, .unset] [])) t → Steps p.tables e below (s₁.setTop (entryFrame m #[(.ref a0), (.int (0 : Int32)), (.ref a2), (.int (0 : Int32)), (.int (2 : Int32))] 7)) t := fun t k => castTop (own_ef_cmpI2 m a0 a2) k
  have Vc25 := VA
  obtain ⟨cl25, Ar25, q25, S25, N_25, H25, G25⟩ := Vc25
  have hin25 : ¬ ((0 : Int32) < 0 ∨ cl25.slots.size ≤ ((0 : Int32)).toNatClampNeg) := inb_of S25 ⟨by decide, by decide⟩
  have hat25 : cl25.slots[((0 : Int32)).toNatClampNeg]? = some (.int c0) := H25 0 (by rw [S25]; decide)
  have Vc26 := VB
  obtain ⟨cl26, Ar26, q26, S26, N_26, H26, G26⟩ := Vc26
  have hin26 : ¬ ((0 : Int32) < 0 ∨ cl26.slots.size ≤ ((0 : Int32)).toNatClampNeg) := inb_of S26 ⟨by decide, by decide⟩
  obtain ⟨T27, h27, X27, e27, W27, st27⟩ := stB X0 hx hZ e0 Ar26 (j := (0 : Int32)) hin26 (g := (mkF m 31 #[.val (.ref a0), .val (.int (0 : Int32)), .val (.ref a2), .val (.int (0 : Int32)), .val (.int (2 : Int32)), .val (.int (0 : Int32)), .val (.int c0)] [(.int (c0.toInt8.toInt32)), (.int (0 : Int32)), (.ref a2)])) rfl rfl (hb hby own_d_cmpI2_31)
  have V_a2_27 : Arv Z h27 a2 kb1 .byte (2 : Int32) [(.int (nar .byte (c0.toInt8.toInt32))), (.int (0 : Int32))] (.int (0 : Int32)) := Arv.set Ar26 q26 S26 N_26 H26 G26 (fits_nar_byte _) W27 0 rfl (Nat.le_of_ble_eq_true rfl)
  have N27 := Fr.snoc X27 N0 g2
  have KP27 : Keep h0 h27 [a2] := (Keep.refl h0 [a2]).wr W27 (Or.inl (List.mem_of_getElem? (i := 0) rfl))
  have SZ27 : h0.size ≤ h27.size := KP27.1
  have Z27 : n0 ≤ h27.size := Nat.le_trans Z0 SZ27
  have fx28 := (VA.other W27 nab)
  have Vc29 := fx28
  obtain ⟨cl29, Ar29, q29, S29, N_29, H29, G29⟩ := Vc29
  have hin29 : ¬ (((0 : Int32) + (1 : Int32)) < 0 ∨ cl29.slots.size ≤ (((0 : Int32) + (1 : Int32))).toNatClampNeg) := inb_of S29 ⟨by decide, by decide⟩
  have hat29 : cl29.slots[(((0 : Int32) + (1 : Int32))).toNatClampNeg]? = some (.int c1) := H29 1 (by rw [S29]; decide)
  have Vc30 := V_a2_27
  obtain ⟨cl30, Ar30, q30, S30, N_30, H30, G30⟩ := Vc30
  have hin30 : ¬ (((0 : Int32) + (1 : Int32)) < 0 ∨ cl30.slots.size ≤ (((0 : Int32) + (1 : Int32))).toNatClampNeg) := inb_of S30 ⟨by decide, by decide⟩
  obtain ⟨T31, h31, X31, e31, W31, st31⟩ := stB X27 hx hZ e27 Ar30 (j := ((0 : Int32) + (1 : Int32))) hin30 (g := (mkF m 31 #[.val (.ref a0), .val (.int ((0 : Int32) + (1 : Int32))), .val (.ref a2), .val (.int ((0 : Int32) + (1 : Int32))), .val (.int (2 : Int32)), .val (.int ((0 : Int32) + (1 : Int32))), .val (.int c1)] [(.int (c1.toInt8.toInt32)), (.int ((0 : Int32) + (1 : Int32))), (.ref a2)])) rfl rfl (hb hby own_d_cmpI2_31)
  have V_a2_31 : Arv Z h31 a2 kb1 .byte (2 : Int32) [(.int (nar .byte (c0.toInt8.toInt32))), (.int (nar .byte (c1.toInt8.toInt32)))] (.int (0 : Int32)) := Arv.set Ar30 q30 S30 N_30 H30 G30 (fits_nar_byte _) W31 1 rfl (Nat.le_of_ble_eq_true rfl)
  have N31 := Fr.snoc X31 N27 g2
  have KP31 : Keep h0 h31 [a2] := KP27.wr W31 (Or.inl (List.mem_of_getElem? (i := 0) rfl))
  have SZ31 : h0.size ≤ h31.size := KP31.1
  have Z31 : n0 ≤ h31.size := Nat.le_trans Z0 SZ31
  obtain ⟨fs, hr, hrun, hended, hW, hsame⟩ := X31.leave (v := some (.int (2 : Int32))) (fun h => by rw [Bd.returns] at h; cases h)
  refine ⟨_, _, pre0 _ ?_, hrun, hended, _, _, rfl, ?_, ⟨_, rfl⟩, hW, hsame.mono (by decide) (by decide)⟩
  · show Steps p.tables e below (s₁.setTop (mkF m 0 #[.val (.ref a0), .val (.int (0 : Int32)), .val (.ref a2), .val (.int (0 : Int32)), .val (.int (2 : Int32)), .unset, .unset] [])) _
    refine XS.iconst X0.here hx rfl (hb hby own_d_cmpI2_0) ?_
    refine XS.istore X0.here hx rfl (hb hby own_d_cmpI2_1) rfl (l' := #[.val (.ref a0), .val (.int (0 : Int32)), .val (.ref a2), .val (.int (0 : Int32)), .val (.int (2 : Int32)), .val (.int (0 : Int32)), .unset]) rfl ?_
    refine XS.iload X0.here hx rfl (hb hby own_d_cmpI2_3) rfl ?_
    refine XS.iload X0.here hx rfl (hb hby own_d_cmpI2_5) rfl ?_
    refine XS.icmpNo X0.here hx rfl (hb hby own_d_cmpI2_7) rfl (tlt (by decide : (0 : Int32) < (2 : Int32))).2.1 ?_
    refine XS.aloadN X0.here hx rfl (hb hby own_d_cmpI2_10) rfl rfl ?_
    refine XS.iloadN X0.here hx rfl (hb hby own_d_cmpI2_11) rfl ?_
    refine X0.caload hx (j := (0 : Int32)) (v := (.int c0)) (by rw [e0]; exact Ar25.1) (State.isArrayOf_alike hZ.alike Ar25.2.1) Ar25.2.2 hin25 hat25 (g := (mkF m 12 #[.val (.ref a0), .val (.int (0 : Int32)), .val (.ref a2), .val (.int (0 : Int32)), .val (.int (2 : Int32)), .val (.int (0 : Int32)), .unset] [(.int (0 : Int32)), (.ref a0)])) rfl rfl (hb hby own_d_cmpI2_12) _ ?_
    refine XS.istore X0.here hx rfl (hb hby own_d_cmpI2_13) rfl (l' := #[.val (.ref a0), .val (.int (0 : Int32)), .val (.ref a2), .val (.int (0 : Int32)), .val (.int (2 : Int32)), .val (.int (0 : Int32)), .val (.int c0)]) rfl ?_
    refine XS.iload X0.here hx rfl (hb hby own_d_cmpI2_15) rfl ?_
    refine XS.sipush X0.here hx rfl (hb hby own_d_cmpI2_17) ?_
    refine XS.icmpYes X0.here hx rfl (pc0 := 20) (pc' := 26) rfl (hb hby own_d_cmpI2_20) rfl (flt hc_c0).2.2.2 (by decide) (by decide) ?_
    refine XS.aloadN X0.here hx rfl (hb hby own_d_cmpI2_26) rfl rfl ?_
    refine XS.iloadN X0.here hx rfl (hb hby own_d_cmpI2_27) rfl ?_
    refine XS.iload X0.here hx rfl (hb hby own_d_cmpI2_28) rfl ?_
    refine XS.i2b X0.here hx rfl (hb hby own_d_cmpI2_30) rfl ?_
    refine st27 _ ?_
    refine XS.iinc X27.here hx rfl (hb hby own_d_cmpI2_32) rfl (l' := #[.val (.ref a0), .val (.int ((0 : Int32) + (1 : Int32))), .val (.ref a2), .val (.int (0 : Int32)), .val (.int (2 : Int32)), .val (.int (0 : Int32)), .val (.int c0)]) rfl ?_
    refine XS.iinc X27.here hx rfl (hb hby own_d_cmpI2_35) rfl (l' := #[.val (.ref a0), .val (.int ((0 : Int32) + (1 : Int32))), .val (.ref a2), .val (.int ((0 : Int32) + (1 : Int32))), .val (.int (2 : Int32)), .val (.int (0 : Int32)), .val (.int c0)]) rfl ?_
    refine XS.iinc X27.here hx rfl (hb hby own_d_cmpI2_38) rfl (l' := #[.val (.ref a0), .val (.int ((0 : Int32) + (1 : Int32))), .val (.ref a2), .val (.int ((0 : Int32) + (1 : Int32))), .val (.int (2 : Int32)), .val (.int ((0 : Int32) + (1 : Int32))), .val (.int c0)]) rfl ?_
    refine XS.goto X27.here hx rfl (pc0 := 41) (pc' := 3) rfl (hb hby own_d_cmpI2_41) (by decide) (by decide) ?_
    refine XS.iload X27.here hx rfl (hb hby own_d_cmpI2_3) rfl ?_
    refine XS.iload X27.here hx rfl (hb hby own_d_cmpI2_5) rfl ?_
    refine XS.icmpNo X27.here hx rfl (hb hby own_d_cmpI2_7) rfl (tlt (by decide : ((0 : Int32) + (1 : Int32)) < (2 : Int32))).2.1 ?_
    refine XS.aloadN X27.here hx rfl (hb hby own_d_cmpI2_10) rfl rfl ?_
    refine XS.iloadN X27.here hx rfl (hb hby own_d_cmpI2_11) rfl ?_
    refine X27.caload hx (j := ((0 : Int32) + (1 : Int32))) (v := (.int c1)) (by rw [e27]; exact Ar29.1) (State.isArrayOf_alike hZ.alike Ar29.2.1) Ar29.2.2 hin29 hat29 (g := (mkF m 12 #[.val (.ref a0), .val (.int ((0 : Int32) + (1 : Int32))), .val (.ref a2), .val (.int ((0 : Int32) + (1 : Int32))), .val (.int (2 : Int32)), .val (.int ((0 : Int32) + (1 : Int32))), .val (.int c0)] [(.int ((0 : Int32) + (1 : Int32))), (.ref a0)])) rfl rfl (hb hby own_d_cmpI2_12) _ ?_
    refine XS.istore X27.here hx rfl (hb hby own_d_cmpI2_13) rfl (l' := #[.val (.ref a0), .val (.int ((0 : Int32) + (1 : Int32))), .val (.ref a2), .val (.int ((0 : Int32) + (1 : Int32))), .val (.int (2 : Int32)), .val (.int ((0 : Int32) + (1 : Int32))), .val (.int c1)]) rfl ?_
    refine XS.iload X27.here hx rfl (hb hby own_d_cmpI2_15) rfl ?_
    refine XS.sipush X27.here hx rfl (hb hby own_d_cmpI2_17) ?_
    refine XS.icmpYes X27.here hx rfl (pc0 := 20) (pc' := 26) rfl (hb hby own_d_cmpI2_20) rfl (flt hc_c1).2.2.2 (by decide) (by decide) ?_
    refine XS.aloadN X27.here hx rfl (hb hby own_d_cmpI2_26) rfl rfl ?_
    refine XS.iloadN X27.here hx rfl (hb hby own_d_cmpI2_27) rfl ?_
    refine XS.iload X27.here hx rfl (hb hby own_d_cmpI2_28) rfl ?_
    refine XS.i2b X27.here hx rfl (hb hby own_d_cmpI2_30) rfl ?_
    refine st31 _ ?_
    refine XS.iinc X31.here hx rfl (hb hby own_d_cmpI2_32) rfl (l' := #[.val (.ref a0), .val (.int (((0 : Int32) + (1 : Int32)) + (1 : Int32))), .val (.ref a2), .val (.int ((0 : Int32) + (1 : Int32))), .val (.int (2 : Int32)), .val (.int ((0 : Int32) + (1 : Int32))), .val (.int c1)]) rfl ?_
    refine XS.iinc X31.here hx rfl (hb hby own_d_cmpI2_35) rfl (l' := #[.val (.ref a0), .val (.int (((0 : Int32) + (1 : Int32)) + (1 : Int32))), .val (.ref a2), .val (.int (((0 : Int32) + (1 : Int32)) + (1 : Int32))), .val (.int (2 : Int32)), .val (.int ((0 : Int32) + (1 : Int32))), .val (.int c1)]) rfl ?_
    refine XS.iinc X31.here hx rfl (hb hby own_d_cmpI2_38) rfl (l' := #[.val (.ref a0), .val (.int (((0 : Int32) + (1 : Int32)) + (1 : Int32))), .val (.ref a2), .val (.int (((0 : Int32) + (1 : Int32)) + (1 : Int32))), .val (.int (2 : Int32)), .val (.int (((0 : Int32) + (1 : Int32)) + (1 : Int32))), .val (.int c1)]) rfl ?_
    refine XS.goto X31.here hx rfl (pc0 := 41) (pc' := 3) rfl (hb hby own_d_cmpI2_41) (by decide) (by decide) ?_
    refine XS.iload X31.here hx rfl (hb hby own_d_cmpI2_3) rfl ?_
    refine XS.iload X31.here hx rfl (hb hby own_d_cmpI2_5) rfl ?_
    refine XS.icmpYes X31.here hx rfl (pc0 := 7) (pc' := 44) rfl (hb hby own_d_cmpI2_7) rfl (flt (by decide : ¬ ((((0 : Int32) + (1 : Int32)) + (1 : Int32)) < (2 : Int32)))).2.1 (by decide) (by decide) ?_
    refine XS.iload X31.here hx rfl (hb hby own_d_cmpI2_44) rfl ?_
    exact own_retI X31 hx Bd.returns (hb hby own_d_cmpI2_46) hr
  · show Q_cmpI2 Z a0 a2 kc1 c0 c1 kb1 h0 n0 _ T31.heap _
    rw [e31]
    exact ⟨rfl, N31, KP31, V_a2_31⟩
theorem own_d_cmpA2_0 : decode jdk_52_method_16_code 0 = .ok (.iload_n 2, 1) := by decide +kernel
theorem own_d_cmpA2_1 : decode jdk_52_method_16_code 1 = .ok (.newarray .byte, 2) := by decide +kernel
theorem own_d_cmpA2_3 : decode jdk_52_method_16_code 3 = .ok (.astore_n 3, 1) := by decide +kernel
theorem own_d_cmpA2_4 : decode jdk_52_method_16_code 4 = .ok (.aload_n 0, 1) := by decide +kernel
theorem own_d_cmpA2_5 : decode jdk_52_method_16_code 5 = .ok (.iload_n 1, 1) := by decide +kernel
theorem own_d_cmpA2_6 : decode jdk_52_method_16_code 6 = .ok (.aload_n 3, 1) := by decide +kernel
theorem own_d_cmpA2_7 : decode jdk_52_method_16_code 7 = .ok (.iconst 0, 1) := by decide +kernel
theorem own_d_cmpA2_8 : decode jdk_52_method_16_code 8 = .ok (.iload_n 2, 1) := by decide +kernel
theorem own_d_cmpA2_9 : decode jdk_52_method_16_code 9 = .ok (.invokestatic 115, 3) := by decide +kernel
theorem own_d_cmpA2_12 : decode jdk_52_method_16_code 12 = .ok (.istore 4, 2) := by decide +kernel
theorem own_d_cmpA2_14 : decode jdk_52_method_16_code 14 = .ok (.iload 4, 2) := by decide +kernel
theorem own_d_cmpA2_16 : decode jdk_52_method_16_code 16 = .ok (.iload_n 2, 1) := by decide +kernel
theorem own_d_cmpA2_17 : decode jdk_52_method_16_code 17 = .ok (.if_icmp .eq 40, 3) := by decide +kernel
theorem own_d_cmpA2_57 : decode jdk_52_method_16_code 57 = .ok (.aload_n 3, 1) := by decide +kernel
theorem own_d_cmpA2_58 : decode jdk_52_method_16_code 58 = .ok (.areturn, 1) := by decide +kernel
theorem own_ef_cmpA2 (m : MethodId) (a0 : Addr) : entryFrame m #[(.ref a0), (.int (0 : Int32)), (.int (2 : Int32))] 6 = mkF m 0 #[.val (.ref a0), .val (.int (0 : Int32)), .val (.int (2 : Int32)), .unset, .unset, .unset] [] := by first | (simp [entryFrame, mkF, argsToLocals, Value.category]; done) | rfl
def Q_cmpA2 (Z : State) (a0 : Addr) (kc1 : ClassId) (c0 : Int32) (c1 : Int32) (h0 : Heap) (n0 : Nat) (v : Option Value) (h : Heap) (L : List Loc) : Prop := ∃ (r : Addr) (k : ClassId), v = some (.ref r) ∧ Fr n0 L ∧ Ext h0 h ∧ h0.size ≤ r ∧ Arv Z h r k .byte (2 : Int32) [(.int (nar .byte (c0.toInt8.toInt32))), (.int (nar .byte (c1.toInt8.toInt32)))] (.int (0 : Int32))
set_option maxRecDepth 65536 in
set_option maxHeartbeats 40000000 in
theorem rm_cmpA2 (l : Launch) (Z : State) (a0' : Array Value) (hw : ∀ d ∈ tables_1, d.before a0' Z = true) (ws : List Jvm.Cond) (a0 : Addr) (kc1 : ClassId) (c0 : Int32) (c1 : Int32) (h0 : Heap) (n0 : Nat) (Z0 : n0 ≤ h0.size) (VA : Arv Z h0 a0 kc1 .char (2 : Int32) [(.int c0), (.int c1)] (.int (0 : Int32))) (hc_c0 : ¬ ((255 : Int32) < c0)) (hc_c1 : ¬ ((255 : Int32) < c1)) :
    MetFree l (⟨"java/lang/StringUTF16", "compress", "([CII)[B"⟩ : MethodName) (head1 (Jvm.Cond.code (⟨"java/lang/StringUTF16", "compress", "([CII)[B"⟩ : MethodName) jdk_52_method_16_code 6 (some (.array .byte)) :: ws) ({ frames := 1, cells := 1, slots := 2, locals := 18 } : Room)) (fun a U => a = #[(.ref a0), (.int (0 : Int32)), (.int (2 : Int32))] ∧ Z.Warmed39 U.vm ∧ U.heap = h0) (fun _ _ _ _ _ => True) (fun _ U o U' => ∃ v L, o = .returned v ∧ Q_cmpA2 Z a0 kc1 c0 c1 h0 n0 v U'.heap L ∧ FrameEnd U o U' L ({ frames := 1, cells := 1, slots := 2, locals := 18 } : Room).cells ({ frames := 1, cells := 1, slots := 2, locals := 18 } : Room).slots) := by
  refine MetFree.of_bodySF (plainFor_of_name own_pn0) hisR ?_
  intro p e s m args below meth c s₁ Bd hml0 hP hK
  obtain ⟨rfl, hZ, hh⟩ := hP
  have hx := Bd.exec
  have hby := Bd.bytes
  have hml : c.maxLocals = 6 := hml0
  have hown : s.vm.findClass "java/lang/StringUTF16" = some m.cls := findClass_of_methodNamed Bd.named
  have hnm := (name_of_methodNamed Bd.named Bd.method).1
  have X0 : Stand p l e ({ frames := 1, cells := 1, slots := 2, locals := 18 } : Room) s m #[(.ref a0), (.int (0 : Int32)), (.int (2 : Int32))] below meth c s₁ [] 0 0 := Stand.of_body Bd
  have e0 : s₁.heap = h0 := by rw [← hh, Bd.state]; rfl
  have N0 := Fr.nil n0
  have pre0 : ∀ t, Steps p.tables e below (s₁.setTop (mkF m 0 #[.val (.ref a0), .val (.int (0 : Int32)), .val (.int (2 : Int32)), .unset, .unset, .unset] [])) t → Steps p.tables e below (s₁.setTop (entryFrame m #[(.ref a0), (.int (0 : Int32)), (.int (2 : Int32))] 6)) t := fun t k => castTop (own_ef_cmpA2 m a0) k
  obtain ⟨T32, h32, k32, X32, e32, E32, A32, st32⟩ := newP X0 hx hZ (ow hw 19 rfl) e0 (g := (mkF m 1 #[.val (.ref a0), .val (.int (0 : Int32)), .val (.int (2 : Int32)), .unset, .unset, .unset] [(.int (2 : Int32))])) rfl (hb hby own_d_cmpA2_1) rfl (by decide) (cap := 2) (by decide) (by decide) (by decide) (by decide)
  obtain ⟨b32, g32⟩ : ∃ z, z = h0.size := ⟨_, rfl⟩
  rw [← g32] at A32 st32
  have ne32_a0_b32 : a0 ≠ b32 := Nat.ne_of_lt (Nat.lt_of_lt_of_le VA.lt (Nat.le_of_eq g32.symm))
  have V_b32 : Arv Z h32 b32 k32 .byte (2 : Int32) [(.int (0 : Int32)), (.int (0 : Int32))] (.int (0 : Int32)) := (Arv.new A32 (by decide)).pad (pad_rep [] (.int (0 : Int32)) 2)
  have g_b32 : n0 ≤ b32 := Nat.le_trans Z0 (Nat.le_of_eq g32.symm)
  have sz_b32 : h0.size ≤ b32 := Nat.le_trans (Nat.le_refl _) (Nat.le_of_eq g32.symm)
  have EX32 : Ext h0 h32 := E32
  have SZ32 : h0.size ≤ h32.size := EX32.1
  have Z32 : n0 ≤ h32.size := Nat.le_trans Z0 SZ32
  have fx34 := (VA.ext E32)
  obtain ⟨_, _, ⟨T33, L33, k33, n33⟩, -, X33, ⟨Lc33, hQ33, l33, y33, z33⟩, st33⟩ := Jvm.LawKit.callS X32 hx (y := (⟨"java/lang/StringUTF16", "compress", "([CI[BII)I"⟩ : MethodName)) hown (mvT hZ (ow hw 74 rfl)) (mvT hZ (ow hw 75 rfl)) (mvT hZ (ow hw 72 rfl)) (mvT hZ (ow hw 76 rfl)) (by decide) (backOf (W := 0) (rm_cmpI2 l Z a0' hw [] a0 b32 kc1 c0 c1 k32 h32 n0 Z32 fx34 V_b32 ne32_a0_b32 g_b32 hc_c0 hc_c1) hZ (ow hw 76 rfl) (ow hw 72 rfl) (by decide) (by decide)) (g := (mkF m 9 #[.val (.ref a0), .val (.int (0 : Int32)), .val (.int (2 : Int32)), .val (.ref b32), .unset, .unset] [(.int (2 : Int32)), (.int (0 : Int32)), (.ref b32), (.int (0 : Int32)), (.ref a0)])) rfl (by rw [hml]; rfl) (argsL := [(.ref a0), (.int (0 : Int32)), (.ref b32), (.int (0 : Int32)), (.int (2 : Int32))]) (rest := []) (lenOf own_pd0 rfl) rfl (by show 2 * 0 + _ ≤ _; exact Nat.le_of_eq rfl) (hb hby own_d_cmpA2_9) (fun _ _ => ⟨rfl, e32, (by decide : 1 + 0 ≤ _), (by decide : 2 + 0 ≤ _)⟩)
  dsimp only [Pt.U, Pt.locs, Pt.cells, Pt.slots] at X33 l33 y33 z33 st33 hQ33
  subst l33 y33 z33
  obtain ⟨rfl, N33q, K33, V33⟩ := hQ33
  have N33 := Fr.app N0 N33q
  have EX33 : Ext h0 T33.heap := own_extkeep EX32 K33 sz_b32
  have SZ33 : h0.size ≤ T33.heap.size := EX33.1
  have Z33 : n0 ≤ T33.heap.size := Nat.le_trans Z0 SZ33
  obtain ⟨fs, hr, hrun, hended, hW, hsame⟩ := X33.leave (v := some (.ref b32)) (fun h => by rw [Bd.returns] at h; cases h)
  refine ⟨_, _, pre0 _ ?_, hrun, hended, _, _, rfl, ?_, ⟨_, rfl⟩, hW, hsame.mono (by decide) (by decide)⟩
  · show Steps p.tables e below (s₁.setTop (mkF m 0 #[.val (.ref a0), .val (.int (0 : Int32)), .val (.int (2 : Int32)), .unset, .unset, .unset] [])) _
    refine XS.iloadN X0.here hx rfl (hb hby own_d_cmpA2_0) rfl ?_
    refine st32 _ ?_
    refine XS.astoreN X32.here hx rfl (hb hby own_d_cmpA2_3) rfl rfl (l' := #[.val (.ref a0), .val (.int (0 : Int32)), .val (.int (2 : Int32)), .val (.ref b32), .unset, .unset]) rfl ?_
    refine XS.aloadN X32.here hx rfl (hb hby own_d_cmpA2_4) rfl rfl ?_
    refine XS.iloadN X32.here hx rfl (hb hby own_d_cmpA2_5) rfl ?_
    refine XS.aloadN X32.here hx rfl (hb hby own_d_cmpA2_6) rfl rfl ?_
    refine XS.iconst X32.here hx rfl (hb hby own_d_cmpA2_7) ?_
    refine XS.iloadN X32.here hx rfl (hb hby own_d_cmpA2_8) rfl ?_
    refine st33 _ ?_
    refine XS.istore X33.here hx rfl (hb hby own_d_cmpA2_12) rfl (l' := #[.val (.ref a0), .val (.int (0 : Int32)), .val (.int (2 : Int32)), .val (.ref b32), .val (.int (2 : Int32)), .unset]) rfl ?_
    refine XS.iload X33.here hx rfl (hb hby own_d_cmpA2_14) rfl ?_
    refine XS.iloadN X33.here hx rfl (hb hby own_d_cmpA2_16) rfl ?_
    refine XS.icmpYes X33.here hx rfl (pc0 := 17) (pc' := 57) rfl (hb hby own_d_cmpA2_17) rfl (teq (by decide : (2 : Int32) = (2 : Int32))).1 (by decide) (by decide) ?_
    refine XS.aloadN X33.here hx rfl (hb hby own_d_cmpA2_57) rfl rfl ?_
    exact own_retA X33 hx Bd.returns rfl rfl rfl (hb hby own_d_cmpA2_58) hr
  · show Q_cmpA2 Z a0 kc1 c0 c1 h0 n0 _ T33.heap _
    exact ⟨_, _, rfl, N33, EX33, sz_b32, V33⟩
theorem own_d_cfl2_0 : decode jdk_52_method_15_code 0 = .ok (.iload_n 1, 1) := by decide +kernel
theorem own_d_cfl2_1 : decode jdk_52_method_15_code 1 = .ok (.aload_n 0, 1) := by decide +kernel
theorem own_d_cfl2_2 : decode jdk_52_method_15_code 2 = .ok (.arraylength, 1) := by decide +kernel
theorem own_d_cfl2_3 : decode jdk_52_method_15_code 3 = .ok (.isub, 1) := by decide +kernel
theorem own_d_cfl2_4 : decode jdk_52_method_15_code 4 = .ok (.bipush 31, 2) := by decide +kernel
theorem own_d_cfl2_6 : decode jdk_52_method_15_code 6 = .ok (.iushr, 1) := by decide +kernel
theorem own_d_cfl2_7 : decode jdk_52_method_15_code 7 = .ok (.i2b, 1) := by decide +kernel
theorem own_d_cfl2_8 : decode jdk_52_method_15_code 8 = .ok (.ireturn, 1) := by decide +kernel
def F_cfl2  : Int32 := (nar .byte (((((2 : Int32) - (2 : Int32)).toUInt32 >>> ((31 : Int32) &&& 31).toUInt32).toInt32).toInt8.toInt32))
theorem own_ef_cfl2 (m : MethodId) (a0 : Addr) : entryFrame m #[(.ref a0), (.int (2 : Int32))] 2 = mkF m 0 #[.val (.ref a0), .val (.int (2 : Int32))] [] := by first | (simp [entryFrame, mkF, argsToLocals, Value.category]; done) | rfl
def Q_cfl2 (Z : State) (a0 : Addr) (kb1 : ClassId) (vs1 : List Value) (dv1 : Value) (h0 : Heap) (n0 : Nat) (v : Option Value) (h : Heap) (L : List Loc) : Prop := v = some (.int F_cfl2) ∧ Fr n0 L ∧ h = h0
set_option maxRecDepth 65536 in
set_option maxHeartbeats 40000000 in
theorem rm_cfl2 (l : Launch) (Z : State) (a0' : Array Value) (hw : ∀ d ∈ tables_1, d.before a0' Z = true) (ws : List Jvm.Cond) (a0 : Addr) (kb1 : ClassId) (vs1 : List Value) (dv1 : Value) (h0 : Heap) (n0 : Nat) (Z0 : n0 ≤ h0.size) (VB : Arv Z h0 a0 kb1 .byte (2 : Int32) vs1 dv1) :
    MetFree l (⟨"java/lang/StringUTF16", "coderFromArrayLen", "([BI)B"⟩ : MethodName) (head1 (Jvm.Cond.code (⟨"java/lang/StringUTF16", "coderFromArrayLen", "([BI)B"⟩ : MethodName) jdk_52_method_15_code 2 (some .byte) :: ws) ({ frames := 0, cells := 0, slots := 0, locals := 0 } : Room)) (fun a U => a = #[(.ref a0), (.int (2 : Int32))] ∧ Z.Warmed39 U.vm ∧ U.heap = h0) (fun _ _ _ _ _ => True) (fun _ U o U' => ∃ v L, o = .returned v ∧ Q_cfl2 Z a0 kb1 vs1 dv1 h0 n0 v U'.heap L ∧ FrameEnd U o U' L ({ frames := 0, cells := 0, slots := 0, locals := 0 } : Room).cells ({ frames := 0, cells := 0, slots := 0, locals := 0 } : Room).slots) := by
  refine MetFree.of_bodySF (plainFor_of_name own_pn0) hisR ?_
  intro p e s m args below meth c s₁ Bd hml0 hP hK
  obtain ⟨rfl, hZ, hh⟩ := hP
  have hx := Bd.exec
  have hby := Bd.bytes
  have hml : c.maxLocals = 2 := hml0
  have hown : s.vm.findClass "java/lang/StringUTF16" = some m.cls := findClass_of_methodNamed Bd.named
  have hnm := (name_of_methodNamed Bd.named Bd.method).1
  have X0 : Stand p l e ({ frames := 0, cells := 0, slots := 0, locals := 0 } : Room) s m #[(.ref a0), (.int (2 : Int32))] below meth c s₁ [] 0 0 := Stand.of_body Bd
  have e0 : s₁.heap = h0 := by rw [← hh, Bd.state]; rfl
  have N0 := Fr.nil n0
  have pre0 : ∀ t, Steps p.tables e below (s₁.setTop (mkF m 0 #[.val (.ref a0), .val (.int (2 : Int32))] [])) t → Steps p.tables e below (s₁.setTop (entryFrame m #[(.ref a0), (.int (2 : Int32))] 2)) t := fun t k => castTop (own_ef_cfl2 m a0) k
  have Vc35 := VB
  obtain ⟨cl35, Ar35, q35, S35, N_35, H35, G35⟩ := Vc35
  obtain ⟨fs, hr, hrun, hended, hW, hsame⟩ := X0.leave (v := some (.int (nar .byte (((((2 : Int32) - (2 : Int32)).toUInt32 >>> ((31 : Int32) &&& 31).toUInt32).toInt32).toInt8.toInt32)))) (fun h => by rw [Bd.returns] at h; cases h)
  refine ⟨_, _, pre0 _ ?_, hrun, hended, _, _, rfl, ?_, ⟨_, rfl⟩, hW, hsame.mono (by decide) (by decide)⟩
  · show Steps p.tables e below (s₁.setTop (mkF m 0 #[.val (.ref a0), .val (.int (2 : Int32))] [])) _
    refine XS.iloadN X0.here hx rfl (hb hby own_d_cfl2_0) rfl ?_
    refine XS.aloadN X0.here hx rfl (hb hby own_d_cfl2_1) rfl rfl ?_
    refine X0.arraylength hx (by rw [e0]; exact Ar35.1) (State.isArrayOf_alike hZ.alike Ar35.2.1) (g := (mkF m 2 #[.val (.ref a0), .val (.int (2 : Int32))] [(.ref a0), (.int (2 : Int32))])) rfl rfl (hb hby own_d_cfl2_2) _ ?_
    rw [len_of S35 N_35]
    refine XS.isub X0.here hx rfl (hb hby own_d_cfl2_3) rfl ?_
    refine XS.bipush X0.here hx rfl (hb hby own_d_cfl2_4) ?_
    refine XS.iushr X0.here hx rfl (hb hby own_d_cfl2_6) rfl ?_
    refine XS.i2b X0.here hx rfl (hb hby own_d_cfl2_7) rfl ?_
    exact retN X0 hx (t := .byte) Bd.returns (by simp) (hb hby own_d_cfl2_8) hr
  · show Q_cfl2 Z a0 kb1 vs1 dv1 h0 n0 _ s₁.heap _
    refine ⟨?_, N0, e0⟩
    rw [F_cfl2]
theorem own_d_in4_2_0 : decode jdk_42_method_149_code 0 = .ok (.aload_n 0, 1) := by decide +kernel
theorem own_d_in4_2_1 : decode jdk_42_method_149_code 1 = .ok (.invokespecial 1, 3) := by decide +kernel
theorem own_d_in4_2_4 : decode jdk_42_method_149_code 4 = .ok (.iload_n 3, 1) := by decide +kernel
theorem own_d_in4_2_5 : decode jdk_42_method_149_code 5 = .ok (.ifCond .ne 22, 3) := by decide +kernel
theorem own_d_in4_2_27 : decode jdk_42_method_149_code 27 = .ok (.getstatic 38, 3) := by decide +kernel
theorem own_d_in4_2_30 : decode jdk_42_method_149_code 30 = .ok (.ifCond .eq 28, 3) := by decide +kernel
theorem own_d_in4_2_33 : decode jdk_42_method_149_code 33 = .ok (.aload_n 1, 1) := by decide +kernel
theorem own_d_in4_2_34 : decode jdk_42_method_149_code 34 = .ok (.iload_n 2, 1) := by decide +kernel
theorem own_d_in4_2_35 : decode jdk_42_method_149_code 35 = .ok (.iload_n 3, 1) := by decide +kernel
theorem own_d_in4_2_36 : decode jdk_42_method_149_code 36 = .ok (.invokestatic 177, 3) := by decide +kernel
theorem own_d_in4_2_39 : decode jdk_42_method_149_code 39 = .ok (.astore 5, 2) := by decide +kernel
theorem own_d_in4_2_41 : decode jdk_42_method_149_code 41 = .ok (.aload_n 0, 1) := by decide +kernel
theorem own_d_in4_2_42 : decode jdk_42_method_149_code 42 = .ok (.aload 5, 2) := by decide +kernel
theorem own_d_in4_2_44 : decode jdk_42_method_149_code 44 = .ok (.iload_n 3, 1) := by decide +kernel
theorem own_d_in4_2_45 : decode jdk_42_method_149_code 45 = .ok (.invokestatic 47, 3) := by decide +kernel
theorem own_d_in4_2_48 : decode jdk_42_method_149_code 48 = .ok (.putfield 15, 3) := by decide +kernel
theorem own_d_in4_2_51 : decode jdk_42_method_149_code 51 = .ok (.aload_n 0, 1) := by decide +kernel
theorem own_d_in4_2_52 : decode jdk_42_method_149_code 52 = .ok (.aload 5, 2) := by decide +kernel
theorem own_d_in4_2_54 : decode jdk_42_method_149_code 54 = .ok (.putfield 9, 3) := by decide +kernel
theorem own_d_in4_2_57 : decode jdk_42_method_149_code 57 = .ok (.return_, 1) := by decide +kernel
theorem own_ef_in4_2 (m : MethodId) (a0 : Addr) (a1 : Addr) : entryFrame m #[(.ref a0), (.ref a1), (.int (0 : Int32)), (.int (2 : Int32)), .null] 6 = mkF m 0 #[.val (.ref a0), .val (.ref a1), .val (.int (0 : Int32)), .val (.int (2 : Int32)), .val .null, .unset] [] := by first | (simp [entryFrame, mkF, argsToLocals, Value.category]; done) | rfl
def Q_in4_2 (Z : State) (a0 : Addr) (a1 : Addr) (kc1 : ClassId) (c0 : Int32) (c1 : Int32) (kc : Int32) (h0 : Heap) (n0 : Nat) (v : Option Value) (h : Heap) (L : List Loc) : Prop := v = none ∧ Fr n0 L ∧ Keep h0 h [a0] ∧ Exa Z h a0 "java/lang/String" ∧ Fld Z h a0 "java/lang/String" "coder" "B" (.int (0 : Int32)) ∧ ∃ (b : Addr) (k : ClassId), Fld Z h a0 "java/lang/String" "value" "[B" (.ref b) ∧ Arv Z h b k .byte (2 : Int32) [(.int (nar .byte (c0.toInt8.toInt32))), (.int (nar .byte (c1.toInt8.toInt32)))] (.int (0 : Int32))
set_option maxRecDepth 65536 in
set_option maxHeartbeats 40000000 in
theorem rm_in4_2 (l : Launch) (Z : State) (a0' : Array Value) (hw : ∀ d ∈ tables_1, d.before a0' Z = true) (ws : List Jvm.Cond) (a0 : Addr) (a1 : Addr) (kc1 : ClassId) (c0 : Int32) (c1 : Int32) (kc : Int32) (h0 : Heap) (n0 : Nat) (Z0 : n0 ≤ h0.size) (E_t : Exa Z h0 a0 "java/lang/String") (F0v : Fld Z h0 a0 "java/lang/String" "value" "[B" .null) (F0c : Fld Z h0 a0 "java/lang/String" "coder" "B" (.int (0 : Int32))) (g_t : n0 ≤ a0) (VA : Arv Z h0 a1 kc1 .char (2 : Int32) [(.int c0), (.int c1)] (.int (0 : Int32))) (na1 : a0 ≠ a1) (hc_c0 : ¬ ((255 : Int32) < c0)) (hc_c1 : ¬ ((255 : Int32) < c1)) (S_cs : Sta Z h0 "java/lang/String" "COMPACT_STRINGS" "Z" (.int kc)) (hkc : ¬ (kc = (0 : Int32))) :
    MetFree l (⟨"java/lang/String", "<init>", "([CIILjava/lang/Void;)V"⟩ : MethodName) (head1 (Jvm.Cond.code (⟨"java/lang/String", "<init>", "([CIILjava/lang/Void;)V"⟩ : MethodName) jdk_42_method_149_code 6 none :: ws) ({ frames := 2, cells := 1, slots := 2, locals := 35 } : Room)) (fun a U => a = #[(.ref a0), (.ref a1), (.int (0 : Int32)), (.int (2 : Int32)), .null] ∧ Z.Warmed39 U.vm ∧ U.heap = h0) (fun _ _ _ _ _ => True) (fun _ U o U' => ∃ v L, o = .returned v ∧ Q_in4_2 Z a0 a1 kc1 c0 c1 kc h0 n0 v U'.heap L ∧ FrameEnd U o U' L ({ frames := 2, cells := 1, slots := 2, locals := 35 } : Room).cells ({ frames := 2, cells := 1, slots := 2, locals := 35 } : Room).slots) := by
  refine MetFree.of_bodySF (plainFor_of_name own_pn1) hisR ?_
  intro p e s m args below meth c s₁ Bd hml0 hP hK
  obtain ⟨rfl, hZ, hh⟩ := hP
  have hx := Bd.exec
  have hby := Bd.bytes
  have hml : c.maxLocals = 6 := hml0
  have hown : s.vm.findClass "java/lang/String" = some m.cls := findClass_of_methodNamed Bd.named
  have hnm := (name_of_methodNamed Bd.named Bd.method).1
  have X0 : Stand p l e ({ frames := 2, cells := 1, slots := 2, locals := 35 } : Room) s m #[(.ref a0), (.ref a1), (.int (0 : Int32)), (.int (2 : Int32)), .null] below meth c s₁ [] 0 0 := Stand.of_body Bd
  have e0 : s₁.heap = h0 := by rw [← hh, Bd.state]; rfl
  have N0 := Fr.nil n0
  have pre0 : ∀ t, Steps p.tables e below (s₁.setTop (mkF m 0 #[.val (.ref a0), .val (.ref a1), .val (.int (0 : Int32)), .val (.int (2 : Int32)), .val .null, .unset] [])) t → Steps p.tables e below (s₁.setTop (entryFrame m #[(.ref a0), (.ref a1), (.int (0 : Int32)), (.int (2 : Int32)), .null] 6)) t := fun t k => castTop (own_ef_in4_2 m a0 a1) k
  obtain ⟨T36, X36, e36, st36⟩ := initO X0 hx hZ hown (ow hw 15 rfl) (ow hw 16 rfl) (ow hw 17 rfl) e0 (g := (mkF m 1 #[.val (.ref a0), .val (.ref a1), .val (.int (0 : Int32)), .val (.int (2 : Int32)), .val .null, .unset] [(.ref a0)])) rfl (by rw [hml]; rfl) rfl (hb hby own_d_in4_2_1) (by decide) (W := 0) (by show 2 * 0 + _ ≤ _; exact Nat.le_of_eq rfl) (by decide)
  obtain ⟨T37, X37, e37, st37⟩ := getS2 X36 hx hZ hown (host := "") (Or.inl (ow hw 63 rfl)) Via.refl e36 S_cs (g := (mkF m 27 #[.val (.ref a0), .val (.ref a1), .val (.int (0 : Int32)), .val (.int (2 : Int32)), .val .null, .unset] [])) rfl (hb hby own_d_in4_2_27)
  obtain ⟨_, _, ⟨T38, L38, k38, n38⟩, -, X38, ⟨Lc38, hQ38, l38, y38, z38⟩, st38⟩ := Jvm.LawKit.callS X37 hx (y := (⟨"java/lang/StringUTF16", "compress", "([CII)[B"⟩ : MethodName)) hown (mvT hZ (ow hw 70 rfl)) (mvT hZ (ow hw 71 rfl)) (mvT hZ (ow hw 72 rfl)) (mvT hZ (ow hw 73 rfl)) (by decide) (backOf (W := 0) (rm_cmpA2 l Z a0' hw [] a1 kc1 c0 c1 h0 n0 Z0 VA hc_c0 hc_c1) hZ (ow hw 73 rfl) (ow hw 72 rfl) (by decide) (by decide)) (g := (mkF m 36 #[.val (.ref a0), .val (.ref a1), .val (.int (0 : Int32)), .val (.int (2 : Int32)), .val .null, .unset] [(.int (2 : Int32)), (.int (0 : Int32)), (.ref a1)])) rfl (by rw [hml]; rfl) (argsL := [(.ref a1), (.int (0 : Int32)), (.int (2 : Int32))]) (rest := []) (lenOf own_pd1 rfl) rfl (by show 2 * 0 + _ ≤ _; exact Nat.le_of_eq rfl) (hb hby own_d_in4_2_36) (fun _ _ => ⟨rfl, e37, (by decide : 0 + 1 ≤ _), (by decide : 0 + 2 ≤ _)⟩)
  dsimp only [Pt.U, Pt.locs, Pt.cells, Pt.slots] at X38 l38 y38 z38 st38 hQ38
  subst l38 y38 z38
  obtain ⟨r38, kk38, rfl, N38q, E38, zz38, V38⟩ := hQ38
  have N38 := Fr.app N0 N38q
  have ne38_a0_r38 : a0 ≠ r38 := Nat.ne_of_lt (Nat.lt_of_lt_of_le E_t.lt zz38)
  have ne38_a1_r38 : a1 ≠ r38 := Nat.ne_of_lt (Nat.lt_of_lt_of_le VA.lt zz38)
  have g_r38 : n0 ≤ r38 := Nat.le_trans Z0 zz38
  have sz_r38 : h0.size ≤ r38 := Nat.le_trans (Nat.le_refl _) zz38
  have KP38 : Keep h0 T38.heap [a0] := (Keep.refl h0 [a0]).ext E38
  have SZ38 : h0.size ≤ T38.heap.size := KP38.1
  have Z38 : n0 ≤ T38.heap.size := Nat.le_trans Z0 SZ38
  obtain ⟨_, _, ⟨T39, L39, k39, n39⟩, -, X39, ⟨Lc39, hQ39, l39, y39, z39⟩, st39⟩ := Jvm.LawKit.callS X38 hx (y := (⟨"java/lang/StringUTF16", "coderFromArrayLen", "([BI)B"⟩ : MethodName)) hown (mvT hZ (ow hw 77 rfl)) (mvT hZ (ow hw 78 rfl)) (mvT hZ (ow hw 72 rfl)) (mvT hZ (ow hw 79 rfl)) (by decide) (backOf (W := 1) (rm_cfl2 l Z a0' hw [] r38 kk38 _ _ T38.heap n0 Z38 V38) hZ (ow hw 79 rfl) (ow hw 72 rfl) (by decide) (by decide)) (g := (mkF m 45 #[.val (.ref a0), .val (.ref a1), .val (.int (0 : Int32)), .val (.int (2 : Int32)), .val .null, .val (.ref r38)] [(.int (2 : Int32)), (.ref r38), (.ref a0)])) rfl (by rw [hml]; rfl) (argsL := [(.ref r38), (.int (2 : Int32))]) (rest := [(.ref a0)]) (lenOf own_pd2 rfl) rfl (by show 2 * 0 + _ ≤ _; exact Nat.le_of_eq rfl) (hb hby own_d_in4_2_45) (fun _ _ => ⟨rfl, rfl, (by decide : 1 + 0 ≤ _), (by decide : 2 + 0 ≤ _)⟩)
  dsimp only [Pt.U, Pt.locs, Pt.cells, Pt.slots] at X39 l39 y39 z39 st39 hQ39
  subst l39 y39 z39
  obtain ⟨rfl, N39q, e39⟩ := hQ39
  have N39 := Fr.app N38 N39q
  have q39 : F_cfl2 = (0 : Int32) := by decide
  rw [q39] at st39
  have fx41 := (E_t.ext E38)
  have fx42 := (F0c.ext E38)
  have Fo40 := fx42
  obtain ⟨T43, h43, X43, e43, W43, st43⟩ := putFN X39 hx hZ hown (ow hw 25 rfl) Via.refl e39 Fo40 fx41 (Or.inr ⟨(ow hw 21 rfl), rfl, hnm⟩) (ow hw 5 rfl) (ty := .byte) (v' := (.int (nar .byte (0 : Int32)))) (by decide) rfl (fits_nar_byte _) (g := (mkF m 48 #[.val (.ref a0), .val (.ref a1), .val (.int (0 : Int32)), .val (.int (2 : Int32)), .val .null, .val (.ref r38)] [(.int (0 : Int32)), (.ref a0)])) rfl rfl (hb hby own_d_in4_2_48)
  have Fw43 : Fld Z h43 a0 "java/lang/String" "coder" "B" (.int (0 : Int32)) := Fo40.same W43
  have N43 := Fr.snoc X43 N39 g_t
  have KP43 : Keep h0 h43 [a0] := KP38.wr W43 (Or.inl (List.mem_of_getElem? (i := 0) rfl))
  have SZ43 : h0.size ≤ h43.size := KP43.1
  have Z43 : n0 ≤ h43.size := Nat.le_trans Z0 SZ43
  have fx45 := (fx41.wr W43)
  have fx46 := ((F0v.ext E38).other W43 (Or.inr (slot_ne (a0 := a0') (Or.inr (ow hw 20 rfl)) (Or.inr (ow hw 21 rfl)) (by decide) (t := (.array .byte)) (t' := .byte) (by decide) (by decide))))
  have Fo44 := fx46
  obtain ⟨T47, h47, X47, e47, W47, st47⟩ := putF X43 hx hZ hown (host := "") (Or.inl (ow hw 24 rfl)) Via.refl e43 Fo44 fx45 (Or.inr ⟨(ow hw 20 rfl), rfl, hnm⟩) (ow hw 5 rfl) (ty := (.array .byte)) (by decide) rfl rfl (g := (mkF m 54 #[.val (.ref a0), .val (.ref a1), .val (.int (0 : Int32)), .val (.int (2 : Int32)), .val .null, .val (.ref r38)] [(.ref r38), (.ref a0)])) rfl rfl (hb hby own_d_in4_2_54)
  have Fw47 : Fld Z h47 a0 "java/lang/String" "value" "[B" (.ref r38) := Fo44.same W47
  have N47 := Fr.snoc X47 N43 g_t
  have KP47 : Keep h0 h47 [a0] := KP43.wr W47 (Or.inl (List.mem_of_getElem? (i := 0) rfl))
  have SZ47 : h0.size ≤ h47.size := KP47.1
  have Z47 : n0 ≤ h47.size := Nat.le_trans Z0 SZ47
  have fx48 := (fx45.wr W47)
  have fx49 := (Fw43.other W47 (Or.inr (slot_ne (a0 := a0') (Or.inr (ow hw 21 rfl)) (Or.inr (ow hw 20 rfl)) (by decide) (t := .byte) (t' := (.array .byte)) (by decide) (by decide))))
  have fx50 := ((V38.other W43 (Ne.symm ne38_a0_r38)).other W47 (Ne.symm ne38_a0_r38))
  obtain ⟨fs, hr, hrun, hended, hW, hsame⟩ := X47.leave (v := none) (fun _ => rfl)
  refine ⟨_, _, pre0 _ ?_, hrun, hended, _, _, rfl, ?_, ⟨_, rfl⟩, hW, hsame.mono (by decide) (by decide)⟩
  · show Steps p.tables e below (s₁.setTop (mkF m 0 #[.val (.ref a0), .val (.ref a1), .val (.int (0 : Int32)), .val (.int (2 : Int32)), .val .null, .unset] [])) _
    refine XS.aloadN X0.here hx rfl (hb hby own_d_in4_2_0) rfl rfl ?_
    refine st36 _ ?_
    refine XS.iloadN X36.here hx rfl (hb hby own_d_in4_2_4) rfl ?_
    refine XS.ifYes X36.here hx rfl (pc0 := 5) (pc' := 27) rfl (hb hby own_d_in4_2_5) rfl ((if0 _ _).trans (feq (by decide : ¬ ((2 : Int32) = (0 : Int32)))).2) (by decide) (by decide) ?_
    refine st37 _ ?_
    refine XS.ifNo X37.here hx rfl (hb hby own_d_in4_2_30) rfl ((if0 _ _).trans (feq hkc).1) ?_
    refine XS.aloadN X37.here hx rfl (hb hby own_d_in4_2_33) rfl rfl ?_
    refine XS.iloadN X37.here hx rfl (hb hby own_d_in4_2_34) rfl ?_
    refine XS.iloadN X37.here hx rfl (hb hby own_d_in4_2_35) rfl ?_
    refine st38 _ ?_
    refine XS.astore X38.here hx rfl (hb hby own_d_in4_2_39) rfl rfl (l' := #[.val (.ref a0), .val (.ref a1), .val (.int (0 : Int32)), .val (.int (2 : Int32)), .val .null, .val (.ref r38)]) rfl ?_
    refine XS.aloadN X38.here hx rfl (hb hby own_d_in4_2_41) rfl rfl ?_
    refine XS.aload X38.here hx rfl (hb hby own_d_in4_2_42) rfl rfl ?_
    refine XS.iloadN X38.here hx rfl (hb hby own_d_in4_2_44) rfl ?_
    refine st39 _ ?_
    refine st43 _ ?_
    refine XS.aloadN X43.here hx rfl (hb hby own_d_in4_2_51) rfl rfl ?_
    refine XS.aload X43.here hx rfl (hb hby own_d_in4_2_52) rfl rfl ?_
    refine st47 _ ?_
    exact X47.returnOut hx Bd.returns (hb hby own_d_in4_2_57) hr
  · show Q_in4_2 Z a0 a1 kc1 c0 c1 kc h0 n0 _ T47.heap _
    rw [e47]
    exact ⟨rfl, N47, KP47, fx48, fx49, _, _, Fw47, fx50⟩
theorem own_d_in1_2_0 : decode jdk_42_method_3_code 0 = .ok (.aload_n 0, 1) := by decide +kernel
theorem own_d_in1_2_1 : decode jdk_42_method_3_code 1 = .ok (.aload_n 1, 1) := by decide +kernel
theorem own_d_in1_2_2 : decode jdk_42_method_3_code 2 = .ok (.iconst 0, 1) := by decide +kernel
theorem own_d_in1_2_3 : decode jdk_42_method_3_code 3 = .ok (.aload_n 1, 1) := by decide +kernel
theorem own_d_in1_2_4 : decode jdk_42_method_3_code 4 = .ok (.arraylength, 1) := by decide +kernel
theorem own_d_in1_2_5 : decode jdk_42_method_3_code 5 = .ok (.aconst_null, 1) := by decide +kernel
theorem own_d_in1_2_6 : decode jdk_42_method_3_code 6 = .ok (.invokespecial 27, 3) := by decide +kernel
theorem own_d_in1_2_9 : decode jdk_42_method_3_code 9 = .ok (.return_, 1) := by decide +kernel
theorem own_ef_in1_2 (m : MethodId) (a0 : Addr) (a1 : Addr) : entryFrame m #[(.ref a0), (.ref a1)] 2 = mkF m 0 #[.val (.ref a0), .val (.ref a1)] [] := by first | (simp [entryFrame, mkF, argsToLocals, Value.category]; done) | rfl
def Q_in1_2 (Z : State) (a0 : Addr) (a1 : Addr) (kc1 : ClassId) (c0 : Int32) (c1 : Int32) (kc : Int32) (h0 : Heap) (n0 : Nat) (v : Option Value) (h : Heap) (L : List Loc) : Prop := v = none ∧ Fr n0 L ∧ Keep h0 h [a0] ∧ Exa Z h a0 "java/lang/String" ∧ Fld Z h a0 "java/lang/String" "coder" "B" (.int (0 : Int32)) ∧ ∃ (b : Addr) (k : ClassId), Fld Z h a0 "java/lang/String" "value" "[B" (.ref b) ∧ Arv Z h b k .byte (2 : Int32) [(.int (nar .byte (c0.toInt8.toInt32))), (.int (nar .byte (c1.toInt8.toInt32)))] (.int (0 : Int32))
set_option maxRecDepth 65536 in
set_option maxHeartbeats 40000000 in
theorem rm_in1_2 (l : Launch) (Z : State) (a0' : Array Value) (hw : ∀ d ∈ tables_1, d.before a0' Z = true) (ws : List Jvm.Cond) (a0 : Addr) (a1 : Addr) (kc1 : ClassId) (c0 : Int32) (c1 : Int32) (kc : Int32) (h0 : Heap) (n0 : Nat) (Z0 : n0 ≤ h0.size) (E_t : Exa Z h0 a0 "java/lang/String") (F0v : Fld Z h0 a0 "java/lang/String" "value" "[B" .null) (F0c : Fld Z h0 a0 "java/lang/String" "coder" "B" (.int (0 : Int32))) (g_t : n0 ≤ a0) (VA : Arv Z h0 a1 kc1 .char (2 : Int32) [(.int c0), (.int c1)] (.int (0 : Int32))) (na1 : a0 ≠ a1) (hc_c0 : ¬ ((255 : Int32) < c0)) (hc_c1 : ¬ ((255 : Int32) < c1)) (S_cs : Sta Z h0 "java/lang/String" "COMPACT_STRINGS" "Z" (.int kc)) (hkc : ¬ (kc = (0 : Int32))) :
    MetFree l (⟨"java/lang/String", "<init>", "([C)V"⟩ : MethodName) (head1 (Jvm.Cond.code (⟨"java/lang/String", "<init>", "([C)V"⟩ : MethodName) jdk_42_method_3_code 2 none :: ws) ({ frames := 3, cells := 1, slots := 2, locals := 52 } : Room)) (fun a U => a = #[(.ref a0), (.ref a1)] ∧ Z.Warmed39 U.vm ∧ U.heap = h0) (fun _ _ _ _ _ => True) (fun _ U o U' => ∃ v L, o = .returned v ∧ Q_in1_2 Z a0 a1 kc1 c0 c1 kc h0 n0 v U'.heap L ∧ FrameEnd U o U' L ({ frames := 3, cells := 1, slots := 2, locals := 52 } : Room).cells ({ frames := 3, cells := 1, slots := 2, locals := 52 } : Room).slots) := by
  refine MetFree.of_bodySF (plainFor_of_name own_pn1) hisR ?_
  intro p e s m args below meth c s₁ Bd hml0 hP hK
  obtain ⟨rfl, hZ, hh⟩ := hP
  have hx := Bd.exec
  have hby := Bd.bytes
  have hml : c.maxLocals = 2 := hml0
  have hown : s.vm.findClass "java/lang/String" = some m.cls := findClass_of_methodNamed Bd.named
  have hnm := (name_of_methodNamed Bd.named Bd.method).1
  have X0 : Stand p l e ({ frames := 3, cells := 1, slots := 2, locals := 52 } : Room) s m #[(.ref a0), (.ref a1)] below meth c s₁ [] 0 0 := Stand.of_body Bd
  have e0 : s₁.heap = h0 := by rw [← hh, Bd.state]; rfl
  have N0 := Fr.nil n0
  have pre0 : ∀ t, Steps p.tables e below (s₁.setTop (mkF m 0 #[.val (.ref a0), .val (.ref a1)] [])) t → Steps p.tables e below (s₁.setTop (entryFrame m #[(.ref a0), (.ref a1)] 2)) t := fun t k => castTop (own_ef_in1_2 m a0 a1) k
  have Vc51 := VA
  obtain ⟨cl51, Ar51, q51, S51, N_51, H51, G51⟩ := Vc51
  obtain ⟨_, _, ⟨T52, L52, k52, n52⟩, -, X52, ⟨Lc52, hQ52, l52, y52, z52⟩, st52⟩ := X0.specialBack hx (y := (⟨"java/lang/String", "<init>", "([CIILjava/lang/Void;)V"⟩ : MethodName)) rfl hown (mvT hZ (ow hw 11 rfl)) (mvT hZ (ow hw 12 rfl)) (mvT hZ (ow hw 14 rfl)) (by decide) (backOf (W := 0) (rm_in4_2 l Z a0' hw [] a0 a1 kc1 c0 c1 kc h0 n0 Z0 E_t F0v F0c g_t VA na1 hc_c0 hc_c1 S_cs hkc) hZ (ow hw 14 rfl) (ow hw 6 rfl) (by decide) (by decide)) (g := (mkF m 6 #[.val (.ref a0), .val (.ref a1)] [.null, (.int (2 : Int32)), (.int (0 : Int32)), (.ref a1), (.ref a0)])) rfl (by rw [hml]; rfl) (Steps.refl _) (a := a0) (argsL := [(.ref a1), (.int (0 : Int32)), (.int (2 : Int32)), .null]) (rest := []) (lenOf own_pd3 rfl) rfl (by show 2 * 0 + _ ≤ _; exact Nat.le_of_eq rfl) (hb hby own_d_in1_2_6) (fun _ _ => ⟨rfl, e0, (by decide : 0 + 1 ≤ _), (by decide : 0 + 2 ≤ _)⟩)
  dsimp only [Pt.U, Pt.locs, Pt.cells, Pt.slots] at X52 l52 y52 z52 st52 hQ52
  subst l52 y52 z52
  obtain ⟨rfl, N52q, K52, Ei52, Ci52, bi52, ki52, Fi52, Vi52⟩ := hQ52
  have N52 := Fr.app N0 N52q
  have KP52 : Keep h0 T52.heap [a0] := (Keep.refl h0 [a0]).trans K52 (allS (Or.inl (List.mem_of_getElem? (i := 0) rfl)) all0)
  have SZ52 : h0.size ≤ T52.heap.size := KP52.1
  have Z52 : n0 ≤ T52.heap.size := Nat.le_trans Z0 SZ52
  obtain ⟨fs, hr, hrun, hended, hW, hsame⟩ := X52.leave (v := none) (fun _ => rfl)
  refine ⟨_, _, pre0 _ ?_, hrun, hended, _, _, rfl, ?_, ⟨_, rfl⟩, hW, hsame.mono (by decide) (by decide)⟩
  · show Steps p.tables e below (s₁.setTop (mkF m 0 #[.val (.ref a0), .val (.ref a1)] [])) _
    refine XS.aloadN X0.here hx rfl (hb hby own_d_in1_2_0) rfl rfl ?_
    refine XS.aloadN X0.here hx rfl (hb hby own_d_in1_2_1) rfl rfl ?_
    refine XS.iconst X0.here hx rfl (hb hby own_d_in1_2_2) ?_
    refine XS.aloadN X0.here hx rfl (hb hby own_d_in1_2_3) rfl rfl ?_
    refine X0.arraylength hx (by rw [e0]; exact Ar51.1) (State.isArrayOf_alike hZ.alike Ar51.2.1) (g := (mkF m 4 #[.val (.ref a0), .val (.ref a1)] [(.ref a1), (.int (0 : Int32)), (.ref a1), (.ref a0)])) rfl rfl (hb hby own_d_in1_2_4) _ ?_
    rw [len_of S51 N_51]
    refine XS.aconstNull X0.here hx rfl (hb hby own_d_in1_2_5) ?_
    refine st52.trans ?_
    exact X52.returnOut hx Bd.returns (hb hby own_d_in1_2_9) hr
  · show Q_in1_2 Z a0 a1 kc1 c0 c1 kc h0 n0 _ T52.heap _
    exact ⟨rfl, N52, KP52, Ei52, Ci52, _, _, Fi52, Vi52⟩
theorem own_d_cmpI3_0 : decode jdk_52_method_21_code 0 = .ok (.iconst 0, 1) := by decide +kernel
theorem own_d_cmpI3_1 : decode jdk_52_method_21_code 1 = .ok (.istore 5, 2) := by decide +kernel
theorem own_d_cmpI3_3 : decode jdk_52_method_21_code 3 = .ok (.iload 5, 2) := by decide +kernel
theorem own_d_cmpI3_5 : decode jdk_52_method_21_code 5 = .ok (.iload 4, 2) := by decide +kernel
theorem own_d_cmpI3_7 : decode jdk_52_method_21_code 7 = .ok (.if_icmp .ge 37, 3) := by decide +kernel
theorem own_d_cmpI3_10 : decode jdk_52_method_21_code 10 = .ok (.aload_n 0, 1) := by decide +kernel
theorem own_d_cmpI3_11 : decode jdk_52_method_21_code 11 = .ok (.iload_n 1, 1) := by decide +kernel
theorem own_d_cmpI3_12 : decode jdk_52_method_21_code 12 = .ok (.caload, 1) := by decide +kernel
theorem own_d_cmpI3_13 : decode jdk_52_method_21_code 13 = .ok (.istore 6, 2) := by decide +kernel
theorem own_d_cmpI3_15 : decode jdk_52_method_21_code 15 = .ok (.iload 6, 2) := by decide +kernel
theorem own_d_cmpI3_17 : decode jdk_52_method_21_code 17 = .ok (.sipush 255, 3) := by decide +kernel
theorem own_d_cmpI3_20 : decode jdk_52_method_21_code 20 = .ok (.if_icmp .le 6, 3) := by decide +kernel
theorem own_d_cmpI3_26 : decode jdk_52_method_21_code 26 = .ok (.aload_n 2, 1) := by decide +kernel
theorem own_d_cmpI3_27 : decode jdk_52_method_21_code 27 = .ok (.iload_n 3, 1) := by decide +kernel
theorem own_d_cmpI3_28 : decode jdk_52_method_21_code 28 = .ok (.iload 6, 2) := by decide +kernel
theorem own_d_cmpI3_30 : decode jdk_52_method_21_code 30 = .ok (.i2b, 1) := by decide +kernel
theorem own_d_cmpI3_31 : decode jdk_52_method_21_code 31 = .ok (.bastore, 1) := by decide +kernel
theorem own_d_cmpI3_32 : decode jdk_52_method_21_code 32 = .ok (.iinc 1 1, 3) := by decide +kernel
theorem own_d_cmpI3_35 : decode jdk_52_method_21_code 35 = .ok (.iinc 3 1, 3) := by decide +kernel
theorem own_d_cmpI3_38 : decode jdk_52_method_21_code 38 = .ok (.iinc 5 1, 3) := by decide +kernel
theorem own_d_cmpI3_41 : decode jdk_52_method_21_code 41 = .ok (.goto (-38), 3) := by decide +kernel
theorem own_d_cmpI3_44 : decode jdk_52_method_21_code 44 = .ok (.iload 4, 2) := by decide +kernel
theorem own_d_cmpI3_46 : decode jdk_52_method_21_code 46 = .ok (.ireturn, 1) := by decide +kernel
theorem own_ef_cmpI3 (m : MethodId) (a0 : Addr) (a2 : Addr) : entryFrame m #[(.ref a0), (.int (0 : Int32)), (.ref a2), (.int (0 : Int32)), (.int (3 : Int32))] 7 = mkF m 0 #[.val (.ref a0), .val (.int (0 : Int32)), .val (.ref a2), .val (.int (0 : Int32)), .val (.int (3 : Int32)), .unset, .unset] [] := by first | (simp [entryFrame, mkF, argsToLocals, Value.category]; done) | rfl
def Q_cmpI3 (Z : State) (a0 : Addr) (a2 : Addr) (kc1 : ClassId) (c0 : Int32) (c1 : Int32) (c2 : Int32) (kb1 : ClassId) (h0 : Heap) (n0 : Nat) (v : Option Value) (h : Heap) (L : List Loc) : Prop := v = some (.int (3 : Int32)) ∧ Fr n0 L ∧ Keep h0 h [a2] ∧ Arv Z h a2 kb1 .byte (3 : Int32) [(.int (nar .byte (c0.toInt8.toInt32))), (.int (nar .byte (c1.toInt8.toInt32))), (.int (nar .byte (c2.toInt8.toInt32)))] (.int (0 : Int32))
set_option maxRecDepth 65536 in
set_option maxHeartbeats 40000000 in
theorem rm_cmpI3 (l : Launch) (Z : State) (a0' : Array Value) (hw : ∀ d ∈ tables_1, d.before a0' Z = true) (ws : List Jvm.Cond) (a0 : Addr) (a2 : Addr) (kc1 : ClassId) (c0 : Int32) (c1 : Int32) (c2 : Int32) (kb1 : ClassId) (h0 : Heap) (n0 : Nat) (Z0 : n0 ≤ h0.size) (VA : Arv Z h0 a0 kc1 .char (3 : Int32) [(.int c0), (.int c1), (.int c2)] (.int (0 : Int32))) (VB : Arv Z h0 a2 kb1 .byte (3 : Int32) [(.int (0 : Int32)), (.int (0 : Int32)), (.int (0 : Int32))] (.int (0 : Int32))) (nab : a0 ≠ a2) (g2 : n0 ≤ a2) (hc_c0 : ¬ ((255 : Int32) < c0)) (hc_c1 : ¬ ((255 : Int32) < c1)) (hc_c2 : ¬ ((255 : Int32) < c2)) :
    MetFree l (⟨"java/lang/StringUTF16", "compress", "([CI[BII)I"⟩ : MethodName) (head1 (Jvm.Cond.code (⟨"java/lang/StringUTF16", "compress", "([CI[BII)I"⟩ : MethodName) jdk_52_method_21_code 7 (some .int) :: ws) ({ frames := 0, cells := 0, slots := 0, locals := 0 } : Room)) (fun a U => a = #[(.ref a0), (.int (0 : Int32)), (.ref a2), (.int (0 : Int32)), (.int (3 : Int32))] ∧ Z.Warmed39 U.vm ∧ U.heap = h0) (fun _ _ _ _ _ => True) (fun _ U o U' => ∃ v L, o = .returned v ∧ Q_cmpI3 Z a0 a2 kc1 c0 c1 c2 kb1 h0 n0 v U'.heap L ∧ FrameEnd U o U' L ({ frames := 0, cells := 0, slots := 0, locals := 0 } : Room).cells ({ frames := 0, cells := 0, slots := 0, locals := 0 } : Room).slots) := by
  refine MetFree.of_bodySF (plainFor_of_name own_pn0) hisR ?_
  intro p e s m args below meth c s₁ Bd hml0 hP hK
  obtain ⟨rfl, hZ, hh⟩ := hP
  have hx := Bd.exec
  have hby := Bd.bytes
  have hml : c.maxLocals = 7 := hml0
  have hown : s.vm.findClass "java/lang/StringUTF16" = some m.cls := findClass_of_methodNamed Bd.named
  have hnm := (name_of_methodNamed Bd.named Bd.method).1
  have X0 : Stand p l e ({ frames := 0, cells := 0, slots := 0, locals := 0 } : Room) s m #[(.ref a0), (.int (0 : Int32)), (.ref a2), (.int (0 : Int32)), (.int (3 : Int32))] below meth c s₁ [] 0 0 := Stand.of_body Bd
  have e0 : s₁.heap = h0 := by rw [← hh, Bd.state]; rfl
  have N0 := Fr.nil n0
  have pre0 : ∀ t, Steps p.tables e below (s₁.setTop (mkF m 0 #[.val (.ref a0), .val (.int (0 : Int32)), .val (.ref a2), .val (.int (0 : Int32)), .val (.int (3 : Int32)), .unset, .unset] [])) t → Steps p.tables e below (s₁.setTop (entryFrame m #[(.ref a0), (.int (0 : Int32)), (.ref a2), (.int (0 : Int32)), (.int (3 : Int32))] 7)) t := fun t k => castTop (own_ef_cmpI3 m a0 a2) k
  have Vc53 := VA
  obtain ⟨cl53, Ar53, q53, S53, N_53, H53, G53⟩ := Vc53
  have hin53 : ¬ ((0 : Int32) < 0 ∨ cl53.slots.size ≤ ((0 : Int32)).toNatClampNeg) := inb_of S53 ⟨by decide, by decide⟩
  have hat53 : cl53.slots[((0 : Int32)).toNatClampNeg]? = some (.int c0) := H53 0 (by rw [S53]; decide)
  have Vc54 := VB
  obtain ⟨cl54, Ar54, q54, S54, N_54, H54, G54⟩ := Vc54
  have hin54 : ¬ ((0 : Int32) < 0 ∨ cl54.slots.size ≤ ((0 : Int32)).toNatClampNeg) := inb_of S54 ⟨by decide, by decide⟩
  obtain ⟨T55, h55, X55, e55, W55, st55⟩ := stB X0 hx hZ e0 Ar54 (j := (0 : Int32)) hin54 (g := (mkF m 31 #[.val (.ref a0), .val (.int (0 : Int32)), .val (.ref a2), .val (.int (0 : Int32)), .val (.int (3 : Int32)), .val (.int (0 : Int32)), .val (.int c0)] [(.int (c0.toInt8.toInt32)), (.int (0 : Int32)), (.ref a2)])) rfl rfl (hb hby own_d_cmpI3_31)
  have V_a2_55 : Arv Z h55 a2 kb1 .byte (3 : Int32) [(.int (nar .byte (c0.toInt8.toInt32))), (.int (0 : Int32)), (.int (0 : Int32))] (.int (0 : Int32)) := Arv.set Ar54 q54 S54 N_54 H54 G54 (fits_nar_byte _) W55 0 rfl (Nat.le_of_ble_eq_true rfl)
  have N55 := Fr.snoc X55 N0 g2
  have KP55 : Keep h0 h55 [a2] := (Keep.refl h0 [a2]).wr W55 (Or.inl (List.mem_of_getElem? (i := 0) rfl))
  have SZ55 : h0.size ≤ h55.size := KP55.1
  have Z55 : n0 ≤ h55.size := Nat.le_trans Z0 SZ55
  have fx56 := (VA.other W55 nab)
  have Vc57 := fx56
  obtain ⟨cl57, Ar57, q57, S57, N_57, H57, G57⟩ := Vc57
  have hin57 : ¬ (((0 : Int32) + (1 : Int32)) < 0 ∨ cl57.slots.size ≤ (((0 : Int32) + (1 : Int32))).toNatClampNeg) := inb_of S57 ⟨by decide, by decide⟩
  have hat57 : cl57.slots[(((0 : Int32) + (1 : Int32))).toNatClampNeg]? = some (.int c1) := H57 1 (by rw [S57]; decide)
  have Vc58 := V_a2_55
  obtain ⟨cl58, Ar58, q58, S58, N_58, H58, G58⟩ := Vc58
  have hin58 : ¬ (((0 : Int32) + (1 : Int32)) < 0 ∨ cl58.slots.size ≤ (((0 : Int32) + (1 : Int32))).toNatClampNeg) := inb_of S58 ⟨by decide, by decide⟩
  obtain ⟨T59, h59, X59, e59, W59, st59⟩ := stB X55 hx hZ e55 Ar58 (j := ((0 : Int32) + (1 : Int32))) hin58 (g := (mkF m 31 #[.val (.ref a0), .val (.int ((0 : Int32) + (1 : Int32))), .val (.ref a2), .val (.int ((0 : Int32) + (1 : Int32))), .val (.int (3 : Int32)), .val (.int ((0 : Int32) + (1 : Int32))), .val (.int c1)] [(.int (c1.toInt8.toInt32)), (.int ((0 : Int32) + (1 : Int32))), (.ref a2)])) rfl rfl (hb hby own_d_cmpI3_31)
  have V_a2_59 : Arv Z h59 a2 kb1 .byte (3 : Int32) [(.int (nar .byte (c0.toInt8.toInt32))), (.int (nar .byte (c1.toInt8.toInt32))), (.int (0 : Int32))] (.int (0 : Int32)) := Arv.set Ar58 q58 S58 N_58 H58 G58 (fits_nar_byte _) W59 1 rfl (Nat.le_of_ble_eq_true rfl)
  have N59 := Fr.snoc X59 N55 g2
  have KP59 : Keep h0 h59 [a2] := KP55.wr W59 (Or.inl (List.mem_of_getElem? (i := 0) rfl))
  have SZ59 : h0.size ≤ h59.size := KP59.1
  have Z59 : n0 ≤ h59.size := Nat.le_trans Z0 SZ59
  have fx60 := (fx56.other W59 nab)
  have Vc61 := fx60
  obtain ⟨cl61, Ar61, q61, S61, N_61, H61, G61⟩ := Vc61
  have hin61 : ¬ ((((0 : Int32) + (1 : Int32)) + (1 : Int32)) < 0 ∨ cl61.slots.size ≤ ((((0 : Int32) + (1 : Int32)) + (1 : Int32))).toNatClampNeg) := inb_of S61 ⟨by decide, by decide⟩
  have hat61 : cl61.slots[((((0 : Int32) + (1 : Int32)) + (1 : Int32))).toNatClampNeg]? = some (.int c2) := H61 2 (by rw [S61]; decide)
  have Vc62 := V_a2_59
  obtain ⟨cl62, Ar62, q62, S62, N_62, H62, G62⟩ := Vc62
  have hin62 : ¬ ((((0 : Int32) + (1 : Int32)) + (1 : Int32)) < 0 ∨ cl62.slots.size ≤ ((((0 : Int32) + (1 : Int32)) + (1 : Int32))).toNatClampNeg) := inb_of S62 ⟨by decide, by decide⟩
  obtain ⟨T63, h63, X63, e63, W63, st63⟩ := stB X59 hx hZ e59 Ar62 (j := (((0 : Int32) + (1 : Int32)) + (1 : Int32))) hin62 (g := (mkF m 31 #[.val (.ref a0), .val (.int (((0 : Int32) + (1 : Int32)) + (1 : Int32))), .val (.ref a2), .val (.int (((0 : Int32) + (1 : Int32)) + (1 : Int32))), .val (.int (3 : Int32)), .val (.int (((0 : Int32) + (1 : Int32)) + (1 : Int32))), .val (.int c2)] [(.int (c2.toInt8.toInt32)), (.int (((0 : Int32) + (1 : Int32)) + (1 : Int32))), (.ref a2)])) rfl rfl (hb hby own_d_cmpI3_31)
  have V_a2_63 : Arv Z h63 a2 kb1 .byte (3 : Int32) [(.int (nar .byte (c0.toInt8.toInt32))), (.int (nar .byte (c1.toInt8.toInt32))), (.int (nar .byte (c2.toInt8.toInt32)))] (.int (0 : Int32)) := Arv.set Ar62 q62 S62 N_62 H62 G62 (fits_nar_byte _) W63 2 rfl (Nat.le_of_ble_eq_true rfl)
  have N63 := Fr.snoc X63 N59 g2
  have KP63 : Keep h0 h63 [a2] := KP59.wr W63 (Or.inl (List.mem_of_getElem? (i := 0) rfl))
  have SZ63 : h0.size ≤ h63.size := KP63.1
  have Z63 : n0 ≤ h63.size := Nat.le_trans Z0 SZ63
  obtain ⟨fs, hr, hrun, hended, hW, hsame⟩ := X63.leave (v := some (.int (3 : Int32))) (fun h => by rw [Bd.returns] at h; cases h)
  refine ⟨_, _, pre0 _ ?_, hrun, hended, _, _, rfl, ?_, ⟨_, rfl⟩, hW, hsame.mono (by decide) (by decide)⟩
  · show Steps p.tables e below (s₁.setTop (mkF m 0 #[.val (.ref a0), .val (.int (0 : Int32)), .val (.ref a2), .val (.int (0 : Int32)), .val (.int (3 : Int32)), .unset, .unset] [])) _
    refine XS.iconst X0.here hx rfl (hb hby own_d_cmpI3_0) ?_
    refine XS.istore X0.here hx rfl (hb hby own_d_cmpI3_1) rfl (l' := #[.val (.ref a0), .val (.int (0 : Int32)), .val (.ref a2), .val (.int (0 : Int32)), .val (.int (3 : Int32)), .val (.int (0 : Int32)), .unset]) rfl ?_
    refine XS.iload X0.here hx rfl (hb hby own_d_cmpI3_3) rfl ?_
    refine XS.iload X0.here hx rfl (hb hby own_d_cmpI3_5) rfl ?_
    refine XS.icmpNo X0.here hx rfl (hb hby own_d_cmpI3_7) rfl (tlt (by decide : (0 : Int32) < (3 : Int32))).2.1 ?_
    refine XS.aloadN X0.here hx rfl (hb hby own_d_cmpI3_10) rfl rfl ?_
    refine XS.iloadN X0.here hx rfl (hb hby own_d_cmpI3_11) rfl ?_
    refine X0.caload hx (j := (0 : Int32)) (v := (.int c0)) (by rw [e0]; exact Ar53.1) (State.isArrayOf_alike hZ.alike Ar53.2.1) Ar53.2.2 hin53 hat53 (g := (mkF m 12 #[.val (.ref a0), .val (.int (0 : Int32)), .val (.ref a2), .val (.int (0 : Int32)), .val (.int (3 : Int32)), .val (.int (0 : Int32)), .unset] [(.int (0 : Int32)), (.ref a0)])) rfl rfl (hb hby own_d_cmpI3_12) _ ?_
    refine XS.istore X0.here hx rfl (hb hby own_d_cmpI3_13) rfl (l' := #[.val (.ref a0), .val (.int (0 : Int32)), .val (.ref a2), .val (.int (0 : Int32)), .val (.int (3 : Int32)), .val (.int (0 : Int32)), .val (.int c0)]) rfl ?_
    refine XS.iload X0.here hx rfl (hb hby own_d_cmpI3_15) rfl ?_
    refine XS.sipush X0.here hx rfl (hb hby own_d_cmpI3_17) ?_
    refine XS.icmpYes X0.here hx rfl (pc0 := 20) (pc' := 26) rfl (hb hby own_d_cmpI3_20) rfl (flt hc_c0).2.2.2 (by decide) (by decide) ?_
    refine XS.aloadN X0.here hx rfl (hb hby own_d_cmpI3_26) rfl rfl ?_
    refine XS.iloadN X0.here hx rfl (hb hby own_d_cmpI3_27) rfl ?_
    refine XS.iload X0.here hx rfl (hb hby own_d_cmpI3_28) rfl ?_
    refine XS.i2b X0.here hx rfl (hb hby own_d_cmpI3_30) rfl ?_
    refine st55 _ ?_
    refine XS.iinc X55.here hx rfl (hb hby own_d_cmpI3_32) rfl (l' := #[.val (.ref a0), .val (.int ((0 : Int32) + (1 : Int32))), .val (.ref a2), .val (.int (0 : Int32)), .val (.int (3 : Int32)), .val (.int (0 : Int32)), .val (.int c0)]) rfl ?_
    refine XS.iinc X55.here hx rfl (hb hby own_d_cmpI3_35) rfl (l' := #[.val (.ref a0), .val (.int ((0 : Int32) + (1 : Int32))), .val (.ref a2), .val (.int ((0 : Int32) + (1 : Int32))), .val (.int (3 : Int32)), .val (.int (0 : Int32)), .val (.int c0)]) rfl ?_
    refine XS.iinc X55.here hx rfl (hb hby own_d_cmpI3_38) rfl (l' := #[.val (.ref a0), .val (.int ((0 : Int32) + (1 : Int32))), .val (.ref a2), .val (.int ((0 : Int32) + (1 : Int32))), .val (.int (3 : Int32)), .val (.int ((0 : Int32) + (1 : Int32))), .val (.int c0)]) rfl ?_
    refine XS.goto X55.here hx rfl (pc0 := 41) (pc' := 3) rfl (hb hby own_d_cmpI3_41) (by decide) (by decide) ?_
    refine XS.iload X55.here hx rfl (hb hby own_d_cmpI3_3) rfl ?_
    refine XS.iload X55.here hx rfl (hb hby own_d_cmpI3_5) rfl ?_
    refine XS.icmpNo X55.here hx rfl (hb hby own_d_cmpI3_7) rfl (tlt (by decide : ((0 : Int32) + (1 : Int32)) < (3 : Int32))).2.1 ?_
    refine XS.aloadN X55.here hx rfl (hb hby own_d_cmpI3_10) rfl rfl ?_
    refine XS.iloadN X55.here hx rfl (hb hby own_d_cmpI3_11) rfl ?_
    refine X55.caload hx (j := ((0 : Int32) + (1 : Int32))) (v := (.int c1)) (by rw [e55]; exact Ar57.1) (State.isArrayOf_alike hZ.alike Ar57.2.1) Ar57.2.2 hin57 hat57 (g := (mkF m 12 #[.val (.ref a0), .val (.int ((0 : Int32) + (1 : Int32))), .val (.ref a2), .val (.int ((0 : Int32) + (1 : Int32))), .val (.int (3 : Int32)), .val (.int ((0 : Int32) + (1 : Int32))), .val (.int c0)] [(.int ((0 : Int32) + (1 : Int32))), (.ref a0)])) rfl rfl (hb hby own_d_cmpI3_12) _ ?_
    refine XS.istore X55.here hx rfl (hb hby own_d_cmpI3_13) rfl (l' := #[.val (.ref a0), .val (.int ((0 : Int32) + (1 : Int32))), .val (.ref a2), .val (.int ((0 : Int32) + (1 : Int32))), .val (.int (3 : Int32)), .val (.int ((0 : Int32) + (1 : Int32))), .val (.int c1)]) rfl ?_
    refine XS.iload X55.here hx rfl (hb hby own_d_cmpI3_15) rfl ?_
    refine XS.sipush X55.here hx rfl (hb hby own_d_cmpI3_17) ?_
    refine XS.icmpYes X55.here hx rfl (pc0 := 20) (pc' := 26) rfl (hb hby own_d_cmpI3_20) rfl (flt hc_c1).2.2.2 (by decide) (by decide) ?_
    refine XS.aloadN X55.here hx rfl (hb hby own_d_cmpI3_26) rfl rfl ?_
    refine XS.iloadN X55.here hx rfl (hb hby own_d_cmpI3_27) rfl ?_
    refine XS.iload X55.here hx rfl (hb hby own_d_cmpI3_28) rfl ?_
    refine XS.i2b X55.here hx rfl (hb hby own_d_cmpI3_30) rfl ?_
    refine st59 _ ?_
    refine XS.iinc X59.here hx rfl (hb hby own_d_cmpI3_32) rfl (l' := #[.val (.ref a0), .val (.int (((0 : Int32) + (1 : Int32)) + (1 : Int32))), .val (.ref a2), .val (.int ((0 : Int32) + (1 : Int32))), .val (.int (3 : Int32)), .val (.int ((0 : Int32) + (1 : Int32))), .val (.int c1)]) rfl ?_
    refine XS.iinc X59.here hx rfl (hb hby own_d_cmpI3_35) rfl (l' := #[.val (.ref a0), .val (.int (((0 : Int32) + (1 : Int32)) + (1 : Int32))), .val (.ref a2), .val (.int (((0 : Int32) + (1 : Int32)) + (1 : Int32))), .val (.int (3 : Int32)), .val (.int ((0 : Int32) + (1 : Int32))), .val (.int c1)]) rfl ?_
    refine XS.iinc X59.here hx rfl (hb hby own_d_cmpI3_38) rfl (l' := #[.val (.ref a0), .val (.int (((0 : Int32) + (1 : Int32)) + (1 : Int32))), .val (.ref a2), .val (.int (((0 : Int32) + (1 : Int32)) + (1 : Int32))), .val (.int (3 : Int32)), .val (.int (((0 : Int32) + (1 : Int32)) + (1 : Int32))), .val (.int c1)]) rfl ?_
    refine XS.goto X59.here hx rfl (pc0 := 41) (pc' := 3) rfl (hb hby own_d_cmpI3_41) (by decide) (by decide) ?_
    refine XS.iload X59.here hx rfl (hb hby own_d_cmpI3_3) rfl ?_
    refine XS.iload X59.here hx rfl (hb hby own_d_cmpI3_5) rfl ?_
    refine XS.icmpNo X59.here hx rfl (hb hby own_d_cmpI3_7) rfl (tlt (by decide : (((0 : Int32) + (1 : Int32)) + (1 : Int32)) < (3 : Int32))).2.1 ?_
    refine XS.aloadN X59.here hx rfl (hb hby own_d_cmpI3_10) rfl rfl ?_
    refine XS.iloadN X59.here hx rfl (hb hby own_d_cmpI3_11) rfl ?_
    refine X59.caload hx (j := (((0 : Int32) + (1 : Int32)) + (1 : Int32))) (v := (.int c2)) (by rw [e59]; exact Ar61.1) (State.isArrayOf_alike hZ.alike Ar61.2.1) Ar61.2.2 hin61 hat61 (g := (mkF m 12 #[.val (.ref a0), .val (.int (((0 : Int32) + (1 : Int32)) + (1 : Int32))), .val (.ref a2), .val (.int (((0 : Int32) + (1 : Int32)) + (1 : Int32))), .val (.int (3 : Int32)), .val (.int (((0 : Int32) + (1 : Int32)) + (1 : Int32))), .val (.int c1)] [(.int (((0 : Int32) + (1 : Int32)) + (1 : Int32))), (.ref a0)])) rfl rfl (hb hby own_d_cmpI3_12) _ ?_
    refine XS.istore X59.here hx rfl (hb hby own_d_cmpI3_13) rfl (l' := #[.val (.ref a0), .val (.int (((0 : Int32) + (1 : Int32)) + (1 : Int32))), .val (.ref a2), .val (.int (((0 : Int32) + (1 : Int32)) + (1 : Int32))), .val (.int (3 : Int32)), .val (.int (((0 : Int32) + (1 : Int32)) + (1 : Int32))), .val (.int c2)]) rfl ?_
    refine XS.iload X59.here hx rfl (hb hby own_d_cmpI3_15) rfl ?_
    refine XS.sipush X59.here hx rfl (hb hby own_d_cmpI3_17) ?_
    refine XS.icmpYes X59.here hx rfl (pc0 := 20) (pc' := 26) rfl (hb hby own_d_cmpI3_20) rfl (flt hc_c2).2.2.2 (by decide) (by decide) ?_
    refine XS.aloadN X59.here hx rfl (hb hby own_d_cmpI3_26) rfl rfl ?_
    refine XS.iloadN X59.here hx rfl (hb hby own_d_cmpI3_27) rfl ?_
    refine XS.iload X59.here hx rfl (hb hby own_d_cmpI3_28) rfl ?_
    refine XS.i2b X59.here hx rfl (hb hby own_d_cmpI3_30) rfl ?_
    refine st63 _ ?_
    refine XS.iinc X63.here hx rfl (hb hby own_d_cmpI3_32) rfl (l' := #[.val (.ref a0), .val (.int ((((0 : Int32) + (1 : Int32)) + (1 : Int32)) + (1 : Int32))), .val (.ref a2), .val (.int (((0 : Int32) + (1 : Int32)) + (1 : Int32))), .val (.int (3 : Int32)), .val (.int (((0 : Int32) + (1 : Int32)) + (1 : Int32))), .val (.int c2)]) rfl ?_
    refine XS.iinc X63.here hx rfl (hb hby own_d_cmpI3_35) rfl (l' := #[.val (.ref a0), .val (.int ((((0 : Int32) + (1 : Int32)) + (1 : Int32)) + (1 : Int32))), .val (.ref a2), .val (.int ((((0 : Int32) + (1 : Int32)) + (1 : Int32)) + (1 : Int32))), .val (.int (3 : Int32)), .val (.int (((0 : Int32) + (1 : Int32)) + (1 : Int32))), .val (.int c2)]) rfl ?_
    refine XS.iinc X63.here hx rfl (hb hby own_d_cmpI3_38) rfl (l' := #[.val (.ref a0), .val (.int ((((0 : Int32) + (1 : Int32)) + (1 : Int32)) + (1 : Int32))), .val (.ref a2), .val (.int ((((0 : Int32) + (1 : Int32)) + (1 : Int32)) + (1 : Int32))), .val (.int (3 : Int32)), .val (.int ((((0 : Int32) + (1 : Int32)) + (1 : Int32)) + (1 : Int32))), .val (.int c2)]) rfl ?_
    refine XS.goto X63.here hx rfl (pc0 := 41) (pc' := 3) rfl (hb hby own_d_cmpI3_41) (by decide) (by decide) ?_
    refine XS.iload X63.here hx rfl (hb hby own_d_cmpI3_3) rfl ?_
    refine XS.iload X63.here hx rfl (hb hby own_d_cmpI3_5) rfl ?_
    refine XS.icmpYes X63.here hx rfl (pc0 := 7) (pc' := 44) rfl (hb hby own_d_cmpI3_7) rfl (flt (by decide : ¬ (((((0 : Int32) + (1 : Int32)) + (1 : Int32)) + (1 : Int32)) < (3 : Int32)))).2.1 (by decide) (by decide) ?_
    refine XS.iload X63.here hx rfl (hb hby own_d_cmpI3_44) rfl ?_
    exact own_retI X63 hx Bd.returns (hb hby own_d_cmpI3_46) hr
  · show Q_cmpI3 Z a0 a2 kc1 c0 c1 c2 kb1 h0 n0 _ T63.heap _
    rw [e63]
    exact ⟨rfl, N63, KP63, V_a2_63⟩
theorem own_d_cmpA3_0 : decode jdk_52_method_16_code 0 = .ok (.iload_n 2, 1) := by decide +kernel
theorem own_d_cmpA3_1 : decode jdk_52_method_16_code 1 = .ok (.newarray .byte, 2) := by decide +kernel
theorem own_d_cmpA3_3 : decode jdk_52_method_16_code 3 = .ok (.astore_n 3, 1) := by decide +kernel
theorem own_d_cmpA3_4 : decode jdk_52_method_16_code 4 = .ok (.aload_n 0, 1) := by decide +kernel
theorem own_d_cmpA3_5 : decode jdk_52_method_16_code 5 = .ok (.iload_n 1, 1) := by decide +kernel
theorem own_d_cmpA3_6 : decode jdk_52_method_16_code 6 = .ok (.aload_n 3, 1) := by decide +kernel
theorem own_d_cmpA3_7 : decode jdk_52_method_16_code 7 = .ok (.iconst 0, 1) := by decide +kernel
theorem own_d_cmpA3_8 : decode jdk_52_method_16_code 8 = .ok (.iload_n 2, 1) := by decide +kernel
theorem own_d_cmpA3_9 : decode jdk_52_method_16_code 9 = .ok (.invokestatic 115, 3) := by decide +kernel
theorem own_d_cmpA3_12 : decode jdk_52_method_16_code 12 = .ok (.istore 4, 2) := by decide +kernel
theorem own_d_cmpA3_14 : decode jdk_52_method_16_code 14 = .ok (.iload 4, 2) := by decide +kernel
theorem own_d_cmpA3_16 : decode jdk_52_method_16_code 16 = .ok (.iload_n 2, 1) := by decide +kernel
theorem own_d_cmpA3_17 : decode jdk_52_method_16_code 17 = .ok (.if_icmp .eq 40, 3) := by decide +kernel
theorem own_d_cmpA3_57 : decode jdk_52_method_16_code 57 = .ok (.aload_n 3, 1) := by decide +kernel
theorem own_d_cmpA3_58 : decode jdk_52_method_16_code 58 = .ok (.areturn, 1) := by decide +kernel
theorem own_ef_cmpA3 (m : MethodId) (a0 : Addr) : entryFrame m #[(.ref a0), (.int (0 : Int32)), (.int (3 : Int32))] 6 = mkF m 0 #[.val (.ref a0), .val (.int (0 : Int32)), .val (.int (3 : Int32)), .unset, .unset, .unset] [] := by first | (simp [entryFrame, mkF, argsToLocals, Value.category]; done) | rfl
def Q_cmpA3 (Z : State) (a0 : Addr) (kc1 : ClassId) (c0 : Int32) (c1 : Int32) (c2 : Int32) (h0 : Heap) (n0 : Nat) (v : Option Value) (h : Heap) (L : List Loc) : Prop := ∃ (r : Addr) (k : ClassId), v = some (.ref r) ∧ Fr n0 L ∧ Ext h0 h ∧ h0.size ≤ r ∧ Arv Z h r k .byte (3 : Int32) [(.int (nar .byte (c0.toInt8.toInt32))), (.int (nar .byte (c1.toInt8.toInt32))), (.int (nar .byte (c2.toInt8.toInt32)))] (.int (0 : Int32))
set_option maxRecDepth 65536 in
set_option maxHeartbeats 40000000 in
theorem rm_cmpA3 (l : Launch) (Z : State) (a0' : Array Value) (hw : ∀ d ∈ tables_1, d.before a0' Z = true) (ws : List Jvm.Cond) (a0 : Addr) (kc1 : ClassId) (c0 : Int32) (c1 : Int32) (c2 : Int32) (h0 : Heap) (n0 : Nat) (Z0 : n0 ≤ h0.size) (VA : Arv Z h0 a0 kc1 .char (3 : Int32) [(.int c0), (.int c1), (.int c2)] (.int (0 : Int32))) (hc_c0 : ¬ ((255 : Int32) < c0)) (hc_c1 : ¬ ((255 : Int32) < c1)) (hc_c2 : ¬ ((255 : Int32) < c2)) :
    MetFree l (⟨"java/lang/StringUTF16", "compress", "([CII)[B"⟩ : MethodName) (head1 (Jvm.Cond.code (⟨"java/lang/StringUTF16", "compress", "([CII)[B"⟩ : MethodName) jdk_52_method_16_code 6 (some (.array .byte)) :: ws) ({ frames := 1, cells := 1, slots := 3, locals := 18 } : Room)) (fun a U => a = #[(.ref a0), (.int (0 : Int32)), (.int (3 : Int32))] ∧ Z.Warmed39 U.vm ∧ U.heap = h0) (fun _ _ _ _ _ => True) (fun _ U o U' => ∃ v L, o = .returned v ∧ Q_cmpA3 Z a0 kc1 c0 c1 c2 h0 n0 v U'.heap L ∧ FrameEnd U o U' L ({ frames := 1, cells := 1, slots := 3, locals := 18 } : Room).cells ({ frames := 1, cells := 1, slots := 3, locals := 18 } : Room).slots) := by
  refine MetFree.of_bodySF (plainFor_of_name own_pn0) hisR ?_
  intro p e s m args below meth c s₁ Bd hml0 hP hK
  obtain ⟨rfl, hZ, hh⟩ := hP
  have hx := Bd.exec
  have hby := Bd.bytes
  have hml : c.maxLocals = 6 := hml0
  have hown : s.vm.findClass "java/lang/StringUTF16" = some m.cls := findClass_of_methodNamed Bd.named
  have hnm := (name_of_methodNamed Bd.named Bd.method).1
  have X0 : Stand p l e ({ frames := 1, cells := 1, slots := 3, locals := 18 } : Room) s m #[(.ref a0), (.int (0 : Int32)), (.int (3 : Int32))] below meth c s₁ [] 0 0 := Stand.of_body Bd
  have e0 : s₁.heap = h0 := by rw [← hh, Bd.state]; rfl
  have N0 := Fr.nil n0
  have pre0 : ∀ t, Steps p.tables e below (s₁.setTop (mkF m 0 #[.val (.ref a0), .val (.int (0 : Int32)), .val (.int (3 : Int32)), .unset, .unset, .unset] [])) t → Steps p.tables e below (s₁.setTop (entryFrame m #[(.ref a0), (.int (0 : Int32)), (.int (3 : Int32))] 6)) t := fun t k => castTop (own_ef_cmpA3 m a0) k
  obtain ⟨T64, h64, k64, X64, e64, E64, A64, st64⟩ := newP X0 hx hZ (ow hw 19 rfl) e0 (g := (mkF m 1 #[.val (.ref a0), .val (.int (0 : Int32)), .val (.int (3 : Int32)), .unset, .unset, .unset] [(.int (3 : Int32))])) rfl (hb hby own_d_cmpA3_1) rfl (by decide) (cap := 3) (by decide) (by decide) (by decide) (by decide)
  obtain ⟨b64, g64⟩ : ∃ z, z = h0.size := ⟨_, rfl⟩
  rw [← g64] at A64 st64
  have ne64_a0_b64 : a0 ≠ b64 := Nat.ne_of_lt (Nat.lt_of_lt_of_le VA.lt (Nat.le_of_eq g64.symm))
  have V_b64 : Arv Z h64 b64 k64 .byte (3 : Int32) [(.int (0 : Int32)), (.int (0 : Int32)), (.int (0 : Int32))] (.int (0 : Int32)) := (Arv.new A64 (by decide)).pad (pad_rep [] (.int (0 : Int32)) 3)
  have g_b64 : n0 ≤ b64 := Nat.le_trans Z0 (Nat.le_of_eq g64.symm)
  have sz_b64 : h0.size ≤ b64 := Nat.le_trans (Nat.le_refl _) (Nat.le_of_eq g64.symm)
  have EX64 : Ext h0 h64 := E64
  have SZ64 : h0.size ≤ h64.size := EX64.1
  have Z64 : n0 ≤ h64.size := Nat.le_trans Z0 SZ64
  have fx66 := (VA.ext E64)
  obtain ⟨_, _, ⟨T65, L65, k65, n65⟩, -, X65, ⟨Lc65, hQ65, l65, y65, z65⟩, st65⟩ := Jvm.LawKit.callS X64 hx (y := (⟨"java/lang/StringUTF16", "compress", "([CI[BII)I"⟩ : MethodName)) hown (mvT hZ (ow hw 74 rfl)) (mvT hZ (ow hw 75 rfl)) (mvT hZ (ow hw 72 rfl)) (mvT hZ (ow hw 76 rfl)) (by decide) (backOf (W := 0) (rm_cmpI3 l Z a0' hw [] a0 b64 kc1 c0 c1 c2 k64 h64 n0 Z64 fx66 V_b64 ne64_a0_b64 g_b64 hc_c0 hc_c1 hc_c2) hZ (ow hw 76 rfl) (ow hw 72 rfl) (by decide) (by decide)) (g := (mkF m 9 #[.val (.ref a0), .val (.int (0 : Int32)), .val (.int (3 : Int32)), .val (.ref b64), .unset, .unset] [(.int (3 : Int32)), (.int (0 : Int32)), (.ref b64), (.int (0 : Int32)), (.ref a0)])) rfl (by rw [hml]; rfl) (argsL := [(.ref a0), (.int (0 : Int32)), (.ref b64), (.int (0 : Int32)), (.int (3 : Int32))]) (rest := []) (lenOf own_pd0 rfl) rfl (by show 2 * 0 + _ ≤ _; exact Nat.le_of_eq rfl) (hb hby own_d_cmpA3_9) (fun _ _ => ⟨rfl, e64, (by decide : 1 + 0 ≤ _), (by decide : 3 + 0 ≤ _)⟩)
  dsimp only [Pt.U, Pt.locs, Pt.cells, Pt.slots] at X65 l65 y65 z65 st65 hQ65
  subst l65 y65 z65
  obtain ⟨rfl, N65q, K65, V65⟩ := hQ65
  have N65 := Fr.app N0 N65q
  have EX65 : Ext h0 T65.heap := own_extkeep EX64 K65 sz_b64
  have SZ65 : h0.size ≤ T65.heap.size := EX65.1
  have Z65 : n0 ≤ T65.heap.size := Nat.le_trans Z0 SZ65
  obtain ⟨fs, hr, hrun, hended, hW, hsame⟩ := X65.leave (v := some (.ref b64)) (fun h => by rw [Bd.returns] at h; cases h)
  refine ⟨_, _, pre0 _ ?_, hrun, hended, _, _, rfl, ?_, ⟨_, rfl⟩, hW, hsame.mono (by decide) (by decide)⟩
  · show Steps p.tables e below (s₁.setTop (mkF m 0 #[.val (.ref a0), .val (.int (0 : Int32)), .val (.int (3 : Int32)), .unset, .unset, .unset] [])) _
    refine XS.iloadN X0.here hx rfl (hb hby own_d_cmpA3_0) rfl ?_
    refine st64 _ ?_
    refine XS.astoreN X64.here hx rfl (hb hby own_d_cmpA3_3) rfl rfl (l' := #[.val (.ref a0), .val (.int (0 : Int32)), .val (.int (3 : Int32)), .val (.ref b64), .unset, .unset]) rfl ?_
    refine XS.aloadN X64.here hx rfl (hb hby own_d_cmpA3_4) rfl rfl ?_
    refine XS.iloadN X64.here hx rfl (hb hby own_d_cmpA3_5) rfl ?_
    refine XS.aloadN X64.here hx rfl (hb hby own_d_cmpA3_6) rfl rfl ?_
    refine XS.iconst X64.here hx rfl (hb hby own_d_cmpA3_7) ?_
    refine XS.iloadN X64.here hx rfl (hb hby own_d_cmpA3_8) rfl ?_
    refine st65 _ ?_
    refine XS.istore X65.here hx rfl (hb hby own_d_cmpA3_12) rfl (l' := #[.val (.ref a0), .val (.int (0 : Int32)), .val (.int (3 : Int32)), .val (.ref b64), .val (.int (3 : Int32)), .unset]) rfl ?_
    refine XS.iload X65.here hx rfl (hb hby own_d_cmpA3_14) rfl ?_
    refine XS.iloadN X65.here hx rfl (hb hby own_d_cmpA3_16) rfl ?_
    refine XS.icmpYes X65.here hx rfl (pc0 := 17) (pc' := 57) rfl (hb hby own_d_cmpA3_17) rfl (teq (by decide : (3 : Int32) = (3 : Int32))).1 (by decide) (by decide) ?_
    refine XS.aloadN X65.here hx rfl (hb hby own_d_cmpA3_57) rfl rfl ?_
    exact own_retA X65 hx Bd.returns rfl rfl rfl (hb hby own_d_cmpA3_58) hr
  · show Q_cmpA3 Z a0 kc1 c0 c1 c2 h0 n0 _ T65.heap _
    exact ⟨_, _, rfl, N65, EX65, sz_b64, V65⟩
theorem own_d_cfl3_0 : decode jdk_52_method_15_code 0 = .ok (.iload_n 1, 1) := by decide +kernel
theorem own_d_cfl3_1 : decode jdk_52_method_15_code 1 = .ok (.aload_n 0, 1) := by decide +kernel
theorem own_d_cfl3_2 : decode jdk_52_method_15_code 2 = .ok (.arraylength, 1) := by decide +kernel
theorem own_d_cfl3_3 : decode jdk_52_method_15_code 3 = .ok (.isub, 1) := by decide +kernel
theorem own_d_cfl3_4 : decode jdk_52_method_15_code 4 = .ok (.bipush 31, 2) := by decide +kernel
theorem own_d_cfl3_6 : decode jdk_52_method_15_code 6 = .ok (.iushr, 1) := by decide +kernel
theorem own_d_cfl3_7 : decode jdk_52_method_15_code 7 = .ok (.i2b, 1) := by decide +kernel
theorem own_d_cfl3_8 : decode jdk_52_method_15_code 8 = .ok (.ireturn, 1) := by decide +kernel
def F_cfl3  : Int32 := (nar .byte (((((3 : Int32) - (3 : Int32)).toUInt32 >>> ((31 : Int32) &&& 31).toUInt32).toInt32).toInt8.toInt32))
theorem own_ef_cfl3 (m : MethodId) (a0 : Addr) : entryFrame m #[(.ref a0), (.int (3 : Int32))] 2 = mkF m 0 #[.val (.ref a0), .val (.int (3 : Int32))] [] := by first | (simp [entryFrame, mkF, argsToLocals, Value.category]; done) | rfl
def Q_cfl3 (Z : State) (a0 : Addr) (kb1 : ClassId) (vs1 : List Value) (dv1 : Value) (h0 : Heap) (n0 : Nat) (v : Option Value) (h : Heap) (L : List Loc) : Prop := v = some (.int F_cfl3) ∧ Fr n0 L ∧ h = h0
set_option maxRecDepth 65536 in
set_option maxHeartbeats 40000000 in
theorem rm_cfl3 (l : Launch) (Z : State) (a0' : Array Value) (hw : ∀ d ∈ tables_1, d.before a0' Z = true) (ws : List Jvm.Cond) (a0 : Addr) (kb1 : ClassId) (vs1 : List Value) (dv1 : Value) (h0 : Heap) (n0 : Nat) (Z0 : n0 ≤ h0.size) (VB : Arv Z h0 a0 kb1 .byte (3 : Int32) vs1 dv1) :
    MetFree l (⟨"java/lang/StringUTF16", "coderFromArrayLen", "([BI)B"⟩ : MethodName) (head1 (Jvm.Cond.code (⟨"java/lang/StringUTF16", "coderFromArrayLen", "([BI)B"⟩ : MethodName) jdk_52_method_15_code 2 (some .byte) :: ws) ({ frames := 0, cells := 0, slots := 0, locals := 0 } : Room)) (fun a U => a = #[(.ref a0), (.int (3 : Int32))] ∧ Z.Warmed39 U.vm ∧ U.heap = h0) (fun _ _ _ _ _ => True) (fun _ U o U' => ∃ v L, o = .returned v ∧ Q_cfl3 Z a0 kb1 vs1 dv1 h0 n0 v U'.heap L ∧ FrameEnd U o U' L ({ frames := 0, cells := 0, slots := 0, locals := 0 } : Room).cells ({ frames := 0, cells := 0, slots := 0, locals := 0 } : Room).slots) := by
  refine MetFree.of_bodySF (plainFor_of_name own_pn0) hisR ?_
  intro p e s m args below meth c s₁ Bd hml0 hP hK
  obtain ⟨rfl, hZ, hh⟩ := hP
  have hx := Bd.exec
  have hby := Bd.bytes
  have hml : c.maxLocals = 2 := hml0
  have hown : s.vm.findClass "java/lang/StringUTF16" = some m.cls := findClass_of_methodNamed Bd.named
  have hnm := (name_of_methodNamed Bd.named Bd.method).1
  have X0 : Stand p l e ({ frames := 0, cells := 0, slots := 0, locals := 0 } : Room) s m #[(.ref a0), (.int (3 : Int32))] below meth c s₁ [] 0 0 := Stand.of_body Bd
  have e0 : s₁.heap = h0 := by rw [← hh, Bd.state]; rfl
  have N0 := Fr.nil n0
  have pre0 : ∀ t, Steps p.tables e below (s₁.setTop (mkF m 0 #[.val (.ref a0), .val (.int (3 : Int32))] [])) t → Steps p.tables e below (s₁.setTop (entryFrame m #[(.ref a0), (.int (3 : Int32))] 2)) t := fun t k => castTop (own_ef_cfl3 m a0) k
  have Vc67 := VB
  obtain ⟨cl67, Ar67, q67, S67, N_67, H67, G67⟩ := Vc67
  obtain ⟨fs, hr, hrun, hended, hW, hsame⟩ := X0.leave (v := some (.int (nar .byte (((((3 : Int32) - (3 : Int32)).toUInt32 >>> ((31 : Int32) &&& 31).toUInt32).toInt32).toInt8.toInt32)))) (fun h => by rw [Bd.returns] at h; cases h)
  refine ⟨_, _, pre0 _ ?_, hrun, hended, _, _, rfl, ?_, ⟨_, rfl⟩, hW, hsame.mono (by decide) (by decide)⟩
  · show Steps p.tables e below (s₁.setTop (mkF m 0 #[.val (.ref a0), .val (.int (3 : Int32))] [])) _
    refine XS.iloadN X0.here hx rfl (hb hby own_d_cfl3_0) rfl ?_
    refine XS.aloadN X0.here hx rfl (hb hby own_d_cfl3_1) rfl rfl ?_
    refine X0.arraylength hx (by rw [e0]; exact Ar67.1) (State.isArrayOf_alike hZ.alike Ar67.2.1) (g := (mkF m 2 #[.val (.ref a0), .val (.int (3 : Int32))] [(.ref a0), (.int (3 : Int32))])) rfl rfl (hb hby own_d_cfl3_2) _ ?_
    rw [len_of S67 N_67]
    refine XS.isub X0.here hx rfl (hb hby own_d_cfl3_3) rfl ?_
    refine XS.bipush X0.here hx rfl (hb hby own_d_cfl3_4) ?_
    refine XS.iushr X0.here hx rfl (hb hby own_d_cfl3_6) rfl ?_
    refine XS.i2b X0.here hx rfl (hb hby own_d_cfl3_7) rfl ?_
    exact retN X0 hx (t := .byte) Bd.returns (by simp) (hb hby own_d_cfl3_8) hr
  · show Q_cfl3 Z a0 kb1 vs1 dv1 h0 n0 _ s₁.heap _
    refine ⟨?_, N0, e0⟩
    rw [F_cfl3]
theorem own_d_in4_3_0 : decode jdk_42_method_149_code 0 = .ok (.aload_n 0, 1) := by decide +kernel
theorem own_d_in4_3_1 : decode jdk_42_method_149_code 1 = .ok (.invokespecial 1, 3) := by decide +kernel
theorem own_d_in4_3_4 : decode jdk_42_method_149_code 4 = .ok (.iload_n 3, 1) := by decide +kernel
theorem own_d_in4_3_5 : decode jdk_42_method_149_code 5 = .ok (.ifCond .ne 22, 3) := by decide +kernel
theorem own_d_in4_3_27 : decode jdk_42_method_149_code 27 = .ok (.getstatic 38, 3) := by decide +kernel
theorem own_d_in4_3_30 : decode jdk_42_method_149_code 30 = .ok (.ifCond .eq 28, 3) := by decide +kernel
theorem own_d_in4_3_33 : decode jdk_42_method_149_code 33 = .ok (.aload_n 1, 1) := by decide +kernel
theorem own_d_in4_3_34 : decode jdk_42_method_149_code 34 = .ok (.iload_n 2, 1) := by decide +kernel
theorem own_d_in4_3_35 : decode jdk_42_method_149_code 35 = .ok (.iload_n 3, 1) := by decide +kernel
theorem own_d_in4_3_36 : decode jdk_42_method_149_code 36 = .ok (.invokestatic 177, 3) := by decide +kernel
theorem own_d_in4_3_39 : decode jdk_42_method_149_code 39 = .ok (.astore 5, 2) := by decide +kernel
theorem own_d_in4_3_41 : decode jdk_42_method_149_code 41 = .ok (.aload_n 0, 1) := by decide +kernel
theorem own_d_in4_3_42 : decode jdk_42_method_149_code 42 = .ok (.aload 5, 2) := by decide +kernel
theorem own_d_in4_3_44 : decode jdk_42_method_149_code 44 = .ok (.iload_n 3, 1) := by decide +kernel
theorem own_d_in4_3_45 : decode jdk_42_method_149_code 45 = .ok (.invokestatic 47, 3) := by decide +kernel
theorem own_d_in4_3_48 : decode jdk_42_method_149_code 48 = .ok (.putfield 15, 3) := by decide +kernel
theorem own_d_in4_3_51 : decode jdk_42_method_149_code 51 = .ok (.aload_n 0, 1) := by decide +kernel
theorem own_d_in4_3_52 : decode jdk_42_method_149_code 52 = .ok (.aload 5, 2) := by decide +kernel
theorem own_d_in4_3_54 : decode jdk_42_method_149_code 54 = .ok (.putfield 9, 3) := by decide +kernel
theorem own_d_in4_3_57 : decode jdk_42_method_149_code 57 = .ok (.return_, 1) := by decide +kernel
theorem own_ef_in4_3 (m : MethodId) (a0 : Addr) (a1 : Addr) : entryFrame m #[(.ref a0), (.ref a1), (.int (0 : Int32)), (.int (3 : Int32)), .null] 6 = mkF m 0 #[.val (.ref a0), .val (.ref a1), .val (.int (0 : Int32)), .val (.int (3 : Int32)), .val .null, .unset] [] := by first | (simp [entryFrame, mkF, argsToLocals, Value.category]; done) | rfl
def Q_in4_3 (Z : State) (a0 : Addr) (a1 : Addr) (kc1 : ClassId) (c0 : Int32) (c1 : Int32) (c2 : Int32) (kc : Int32) (h0 : Heap) (n0 : Nat) (v : Option Value) (h : Heap) (L : List Loc) : Prop := v = none ∧ Fr n0 L ∧ Keep h0 h [a0] ∧ Exa Z h a0 "java/lang/String" ∧ Fld Z h a0 "java/lang/String" "coder" "B" (.int (0 : Int32)) ∧ ∃ (b : Addr) (k : ClassId), Fld Z h a0 "java/lang/String" "value" "[B" (.ref b) ∧ Arv Z h b k .byte (3 : Int32) [(.int (nar .byte (c0.toInt8.toInt32))), (.int (nar .byte (c1.toInt8.toInt32))), (.int (nar .byte (c2.toInt8.toInt32)))] (.int (0 : Int32))
set_option maxRecDepth 65536 in
set_option maxHeartbeats 40000000 in
theorem rm_in4_3 (l : Launch) (Z : State) (a0' : Array Value) (hw : ∀ d ∈ tables_1, d.before a0' Z = true) (ws : List Jvm.Cond) (a0 : Addr) (a1 : Addr) (kc1 : ClassId) (c0 : Int32) (c1 : Int32) (c2 : Int32) (kc : Int32) (h0 : Heap) (n0 : Nat) (Z0 : n0 ≤ h0.size) (E_t : Exa Z h0 a0 "java/lang/String") (F0v : Fld Z h0 a0 "java/lang/String" "value" "[B" .null) (F0c : Fld Z h0 a0 "java/lang/String" "coder" "B" (.int (0 : Int32))) (g_t : n0 ≤ a0) (VA : Arv Z h0 a1 kc1 .char (3 : Int32) [(.int c0), (.int c1), (.int c2)] (.int (0 : Int32))) (na1 : a0 ≠ a1) (hc_c0 : ¬ ((255 : Int32) < c0)) (hc_c1 : ¬ ((255 : Int32) < c1)) (hc_c2 : ¬ ((255 : Int32) < c2)) (S_cs : Sta Z h0 "java/lang/String" "COMPACT_STRINGS" "Z" (.int kc)) (hkc : ¬ (kc = (0 : Int32))) :
    MetFree l (⟨"java/lang/String", "<init>", "([CIILjava/lang/Void;)V"⟩ : MethodName) (head1 (Jvm.Cond.code (⟨"java/lang/String", "<init>", "([CIILjava/lang/Void;)V"⟩ : MethodName) jdk_42_method_149_code 6 none :: ws) ({ frames := 2, cells := 1, slots := 3, locals := 35 } : Room)) (fun a U => a = #[(.ref a0), (.ref a1), (.int (0 : Int32)), (.int (3 : Int32)), .null] ∧ Z.Warmed39 U.vm ∧ U.heap = h0) (fun _ _ _ _ _ => True) (fun _ U o U' => ∃ v L, o = .returned v ∧ Q_in4_3 Z a0 a1 kc1 c0 c1 c2 kc h0 n0 v U'.heap L ∧ FrameEnd U o U' L ({ frames := 2, cells := 1, slots := 3, locals := 35 } : Room).cells ({ frames := 2, cells := 1, slots := 3, locals := 35 } : Room).slots) := by
  refine MetFree.of_bodySF (plainFor_of_name own_pn1) hisR ?_
  intro p e s m args below meth c s₁ Bd hml0 hP hK
  obtain ⟨rfl, hZ, hh⟩ := hP
  have hx := Bd.exec
  have hby := Bd.bytes
  have hml : c.maxLocals = 6 := hml0
  have hown : s.vm.findClass "java/lang/String" = some m.cls := findClass_of_methodNamed Bd.named
  have hnm := (name_of_methodNamed Bd.named Bd.method).1
  have X0 : Stand p l e ({ frames := 2, cells := 1, slots := 3, locals := 35 } : Room) s m #[(.ref a0), (.ref a1), (.int (0 : Int32)), (.int (3 : Int32)), .null] below meth c s₁ [] 0 0 := Stand.of_body Bd
  have e0 : s₁.heap = h0 := by rw [← hh, Bd.state]; rfl
  have N0 := Fr.nil n0
  have pre0 : ∀ t, Steps p.tables e below (s₁.setTop (mkF m 0 #[.val (.ref a0), .val (.ref a1), .val (.int (0 : Int32)), .val (.int (3 : Int32)), .val .null, .unset] [])) t → Steps p.tables e below (s₁.setTop (entryFrame m #[(.ref a0), (.ref a1), (.int (0 : Int32)), (.int (3 : Int32)), .null] 6)) t := fun t k => castTop (own_ef_in4_3 m a0 a1) k
  obtain ⟨T68, X68, e68, st68⟩ := initO X0 hx hZ hown (ow hw 15 rfl) (ow hw 16 rfl) (ow hw 17 rfl) e0 (g := (mkF m 1 #[.val (.ref a0), .val (.ref a1), .val (.int (0 : Int32)), .val (.int (3 : Int32)), .val .null, .unset] [(.ref a0)])) rfl (by rw [hml]; rfl) rfl (hb hby own_d_in4_3_1) (by decide) (W := 0) (by show 2 * 0 + _ ≤ _; exact Nat.le_of_eq rfl) (by decide)
  obtain ⟨T69, X69, e69, st69⟩ := getS2 X68 hx hZ hown (host := "") (Or.inl (ow hw 63 rfl)) Via.refl e68 S_cs (g := (mkF m 27 #[.val (.ref a0), .val (.ref a1), .val (.int (0 : Int32)), .val (.int (3 : Int32)), .val .null, .unset] [])) rfl (hb hby own_d_in4_3_27)
  obtain ⟨_, _, ⟨T70, L70, k70, n70⟩, -, X70, ⟨Lc70, hQ70, l70, y70, z70⟩, st70⟩ := Jvm.LawKit.callS X69 hx (y := (⟨"java/lang/StringUTF16", "compress", "([CII)[B"⟩ : MethodName)) hown (mvT hZ (ow hw 70 rfl)) (mvT hZ (ow hw 71 rfl)) (mvT hZ (ow hw 72 rfl)) (mvT hZ (ow hw 73 rfl)) (by decide) (backOf (W := 0) (rm_cmpA3 l Z a0' hw [] a1 kc1 c0 c1 c2 h0 n0 Z0 VA hc_c0 hc_c1 hc_c2) hZ (ow hw 73 rfl) (ow hw 72 rfl) (by decide) (by decide)) (g := (mkF m 36 #[.val (.ref a0), .val (.ref a1), .val (.int (0 : Int32)), .val (.int (3 : Int32)), .val .null, .unset] [(.int (3 : Int32)), (.int (0 : Int32)), (.ref a1)])) rfl (by rw [hml]; rfl) (argsL := [(.ref a1), (.int (0 : Int32)), (.int (3 : Int32))]) (rest := []) (lenOf own_pd1 rfl) rfl (by show 2 * 0 + _ ≤ _; exact Nat.le_of_eq rfl) (hb hby own_d_in4_3_36) (fun _ _ => ⟨rfl, e69, (by decide : 0 + 1 ≤ _), (by decide : 0 + 3 ≤ _)⟩)
  dsimp only [Pt.U, Pt.locs, Pt.cells, Pt.slots] at X70 l70 y70 z70 st70 hQ70
  subst l70 y70 z70
  obtain ⟨r70, kk70, rfl, N70q, E70, zz70, V70⟩ := hQ70
  have N70 := Fr.app N0 N70q
  have ne70_a0_r70 : a0 ≠ r70 := Nat.ne_of_lt (Nat.lt_of_lt_of_le E_t.lt zz70)
  have ne70_a1_r70 : a1 ≠ r70 := Nat.ne_of_lt (Nat.lt_of_lt_of_le VA.lt zz70)
  have g_r70 : n0 ≤ r70 := Nat.le_trans Z0 zz70
  have sz_r70 : h0.size ≤ r70 := Nat.le_trans (Nat.le_refl _) zz70
  have KP70 : Keep h0 T70.heap [a0] := (Keep.refl h0 [a0]).ext E70
  have SZ70 : h0.size ≤ T70.heap.size := KP70.1
  have Z70 : n0 ≤ T70.heap.size := Nat.le_trans Z0 SZ70
  obtain ⟨_, _, ⟨T71, L71, k71, n71⟩, -, X71, ⟨Lc71, hQ71, l71, y71, z71⟩, st71⟩ := Jvm.LawKit.callS X70 hx (y := (⟨"java/lang/StringUTF16", "coderFromArrayLen", "([BI)B"⟩ : MethodName)) hown (mvT hZ (ow hw 77 rfl)) (mvT hZ (ow hw 78 rfl)) (mvT hZ (ow hw 72 rfl)) (mvT hZ (ow hw 79 rfl)) (by decide) (backOf (W := 1) (rm_cfl3 l Z a0' hw [] r70 kk70 _ _ T70.heap n0 Z70 V70) hZ (ow hw 79 rfl) (ow hw 72 rfl) (by decide) (by decide)) (g := (mkF m 45 #[.val (.ref a0), .val (.ref a1), .val (.int (0 : Int32)), .val (.int (3 : Int32)), .val .null, .val (.ref r70)] [(.int (3 : Int32)), (.ref r70), (.ref a0)])) rfl (by rw [hml]; rfl) (argsL := [(.ref r70), (.int (3 : Int32))]) (rest := [(.ref a0)]) (lenOf own_pd2 rfl) rfl (by show 2 * 0 + _ ≤ _; exact Nat.le_of_eq rfl) (hb hby own_d_in4_3_45) (fun _ _ => ⟨rfl, rfl, (by decide : 1 + 0 ≤ _), (by decide : 3 + 0 ≤ _)⟩)
  dsimp only [Pt.U, Pt.locs, Pt.cells, Pt.slots] at X71 l71 y71 z71 st71 hQ71
  subst l71 y71 z71
  obtain ⟨rfl, N71q, e71⟩ := hQ71
  have N71 := Fr.app N70 N71q
  have q71 : F_cfl3 = (0 : Int32) := by decide
  rw [q71] at st71
  have fx73 := (E_t.ext E70)
  have fx74 := (F0c.ext E70)
  have Fo72 := fx74
  obtain ⟨T75, h75, X75, e75, W75, st75⟩ := putFN X71 hx hZ hown (ow hw 25 rfl) Via.refl e71 Fo72 fx73 (Or.inr ⟨(ow hw 21 rfl), rfl, hnm⟩) (ow hw 5 rfl) (ty := .byte) (v' := (.int (nar .byte (0 : Int32)))) (by decide) rfl (fits_nar_byte _) (g := (mkF m 48 #[.val (.ref a0), .val (.ref a1), .val (.int (0 : Int32)), .val (.int (3 : Int32)), .val .null, .val (.ref r70)] [(.int (0 : Int32)), (.ref a0)])) rfl rfl (hb hby own_d_in4_3_48)
  have Fw75 : Fld Z h75 a0 "java/lang/String" "coder" "B" (.int (0 : Int32)) := Fo72.same W75
  have N75 := Fr.snoc X75 N71 g_t
  have KP75 : Keep h0 h75 [a0] := KP70.wr W75 (Or.inl (List.mem_of_getElem? (i := 0) rfl))
  have SZ75 : h0.size ≤ h75.size := KP75.1
  have Z75 : n0 ≤ h75.size := Nat.le_trans Z0 SZ75
  have fx77 := (fx73.wr W75)
  have fx78 := ((F0v.ext E70).other W75 (Or.inr (slot_ne (a0 := a0') (Or.inr (ow hw 20 rfl)) (Or.inr (ow hw 21 rfl)) (by decide) (t := (.array .byte)) (t' := .byte) (by decide) (by decide))))
  have Fo76 := fx78
  obtain ⟨T79, h79, X79, e79, W79, st79⟩ := putF X75 hx hZ hown (host := "") (Or.inl (ow hw 24 rfl)) Via.refl e75 Fo76 fx77 (Or.inr ⟨(ow hw 20 rfl), rfl, hnm⟩) (ow hw 5 rfl) (ty := (.array .byte)) (by decide) rfl rfl (g := (mkF m 54 #[.val (.ref a0), .val (.ref a1), .val (.int (0 : Int32)), .val (.int (3 : Int32)), .val .null, .val (.ref r70)] [(.ref r70), (.ref a0)])) rfl rfl (hb hby own_d_in4_3_54)
  have Fw79 : Fld Z h79 a0 "java/lang/String" "value" "[B" (.ref r70) := Fo76.same W79
  have N79 := Fr.snoc X79 N75 g_t
  have KP79 : Keep h0 h79 [a0] := KP75.wr W79 (Or.inl (List.mem_of_getElem? (i := 0) rfl))
  have SZ79 : h0.size ≤ h79.size := KP79.1
  have Z79 : n0 ≤ h79.size := Nat.le_trans Z0 SZ79
  have fx80 := (fx77.wr W79)
  have fx81 := (Fw75.other W79 (Or.inr (slot_ne (a0 := a0') (Or.inr (ow hw 21 rfl)) (Or.inr (ow hw 20 rfl)) (by decide) (t := .byte) (t' := (.array .byte)) (by decide) (by decide))))
  have fx82 := ((V70.other W75 (Ne.symm ne70_a0_r70)).other W79 (Ne.symm ne70_a0_r70))
  obtain ⟨fs, hr, hrun, hended, hW, hsame⟩ := X79.leave (v := none) (fun _ => rfl)
  refine ⟨_, _, pre0 _ ?_, hrun, hended, _, _, rfl, ?_, ⟨_, rfl⟩, hW, hsame.mono (by decide) (by decide)⟩
  · show Steps p.tables e below (s₁.setTop (mkF m 0 #[.val (.ref a0), .val (.ref a1), .val (.int (0 : Int32)), .val (.int (3 : Int32)), .val .null, .unset] [])) _
    refine XS.aloadN X0.here hx rfl (hb hby own_d_in4_3_0) rfl rfl ?_
    refine st68 _ ?_
    refine XS.iloadN X68.here hx rfl (hb hby own_d_in4_3_4) rfl ?_
    refine XS.ifYes X68.here hx rfl (pc0 := 5) (pc' := 27) rfl (hb hby own_d_in4_3_5) rfl ((if0 _ _).trans (feq (by decide : ¬ ((3 : Int32) = (0 : Int32)))).2) (by decide) (by decide) ?_
    refine st69 _ ?_
    refine XS.ifNo X69.here hx rfl (hb hby own_d_in4_3_30) rfl ((if0 _ _).trans (feq hkc).1) ?_
    refine XS.aloadN X69.here hx rfl (hb hby own_d_in4_3_33) rfl rfl ?_
    refine XS.iloadN X69.here hx rfl (hb hby own_d_in4_3_34) rfl ?_
    refine XS.iloadN X69.here hx rfl (hb hby own_d_in4_3_35) rfl ?_
    refine st70 _ ?_
    refine XS.astore X70.here hx rfl (hb hby own_d_in4_3_39) rfl rfl (l' := #[.val (.ref a0), .val (.ref a1), .val (.int (0 : Int32)), .val (.int (3 : Int32)), .val .null, .val (.ref r70)]) rfl ?_
    refine XS.aloadN X70.here hx rfl (hb hby own_d_in4_3_41) rfl rfl ?_
    refine XS.aload X70.here hx rfl (hb hby own_d_in4_3_42) rfl rfl ?_
    refine XS.iloadN X70.here hx rfl (hb hby own_d_in4_3_44) rfl ?_
    refine st71 _ ?_
    refine st75 _ ?_
    refine XS.aloadN X75.here hx rfl (hb hby own_d_in4_3_51) rfl rfl ?_
    refine XS.aload X75.here hx rfl (hb hby own_d_in4_3_52) rfl rfl ?_
    refine st79 _ ?_
    exact X79.returnOut hx Bd.returns (hb hby own_d_in4_3_57) hr
  · show Q_in4_3 Z a0 a1 kc1 c0 c1 c2 kc h0 n0 _ T79.heap _
    rw [e79]
    exact ⟨rfl, N79, KP79, fx80, fx81, _, _, Fw79, fx82⟩
theorem own_d_in1_3_0 : decode jdk_42_method_3_code 0 = .ok (.aload_n 0, 1) := by decide +kernel
theorem own_d_in1_3_1 : decode jdk_42_method_3_code 1 = .ok (.aload_n 1, 1) := by decide +kernel
theorem own_d_in1_3_2 : decode jdk_42_method_3_code 2 = .ok (.iconst 0, 1) := by decide +kernel
theorem own_d_in1_3_3 : decode jdk_42_method_3_code 3 = .ok (.aload_n 1, 1) := by decide +kernel
theorem own_d_in1_3_4 : decode jdk_42_method_3_code 4 = .ok (.arraylength, 1) := by decide +kernel
theorem own_d_in1_3_5 : decode jdk_42_method_3_code 5 = .ok (.aconst_null, 1) := by decide +kernel
theorem own_d_in1_3_6 : decode jdk_42_method_3_code 6 = .ok (.invokespecial 27, 3) := by decide +kernel
theorem own_d_in1_3_9 : decode jdk_42_method_3_code 9 = .ok (.return_, 1) := by decide +kernel
theorem own_ef_in1_3 (m : MethodId) (a0 : Addr) (a1 : Addr) : entryFrame m #[(.ref a0), (.ref a1)] 2 = mkF m 0 #[.val (.ref a0), .val (.ref a1)] [] := by first | (simp [entryFrame, mkF, argsToLocals, Value.category]; done) | rfl
def Q_in1_3 (Z : State) (a0 : Addr) (a1 : Addr) (kc1 : ClassId) (c0 : Int32) (c1 : Int32) (c2 : Int32) (kc : Int32) (h0 : Heap) (n0 : Nat) (v : Option Value) (h : Heap) (L : List Loc) : Prop := v = none ∧ Fr n0 L ∧ Keep h0 h [a0] ∧ Exa Z h a0 "java/lang/String" ∧ Fld Z h a0 "java/lang/String" "coder" "B" (.int (0 : Int32)) ∧ ∃ (b : Addr) (k : ClassId), Fld Z h a0 "java/lang/String" "value" "[B" (.ref b) ∧ Arv Z h b k .byte (3 : Int32) [(.int (nar .byte (c0.toInt8.toInt32))), (.int (nar .byte (c1.toInt8.toInt32))), (.int (nar .byte (c2.toInt8.toInt32)))] (.int (0 : Int32))
set_option maxRecDepth 65536 in
set_option maxHeartbeats 40000000 in
theorem rm_in1_3 (l : Launch) (Z : State) (a0' : Array Value) (hw : ∀ d ∈ tables_1, d.before a0' Z = true) (ws : List Jvm.Cond) (a0 : Addr) (a1 : Addr) (kc1 : ClassId) (c0 : Int32) (c1 : Int32) (c2 : Int32) (kc : Int32) (h0 : Heap) (n0 : Nat) (Z0 : n0 ≤ h0.size) (E_t : Exa Z h0 a0 "java/lang/String") (F0v : Fld Z h0 a0 "java/lang/String" "value" "[B" .null) (F0c : Fld Z h0 a0 "java/lang/String" "coder" "B" (.int (0 : Int32))) (g_t : n0 ≤ a0) (VA : Arv Z h0 a1 kc1 .char (3 : Int32) [(.int c0), (.int c1), (.int c2)] (.int (0 : Int32))) (na1 : a0 ≠ a1) (hc_c0 : ¬ ((255 : Int32) < c0)) (hc_c1 : ¬ ((255 : Int32) < c1)) (hc_c2 : ¬ ((255 : Int32) < c2)) (S_cs : Sta Z h0 "java/lang/String" "COMPACT_STRINGS" "Z" (.int kc)) (hkc : ¬ (kc = (0 : Int32))) :
    MetFree l (⟨"java/lang/String", "<init>", "([C)V"⟩ : MethodName) (head1 (Jvm.Cond.code (⟨"java/lang/String", "<init>", "([C)V"⟩ : MethodName) jdk_42_method_3_code 2 none :: ws) ({ frames := 3, cells := 1, slots := 3, locals := 52 } : Room)) (fun a U => a = #[(.ref a0), (.ref a1)] ∧ Z.Warmed39 U.vm ∧ U.heap = h0) (fun _ _ _ _ _ => True) (fun _ U o U' => ∃ v L, o = .returned v ∧ Q_in1_3 Z a0 a1 kc1 c0 c1 c2 kc h0 n0 v U'.heap L ∧ FrameEnd U o U' L ({ frames := 3, cells := 1, slots := 3, locals := 52 } : Room).cells ({ frames := 3, cells := 1, slots := 3, locals := 52 } : Room).slots) := by
  refine MetFree.of_bodySF (plainFor_of_name own_pn1) hisR ?_
  intro p e s m args below meth c s₁ Bd hml0 hP hK
  obtain ⟨rfl, hZ, hh⟩ := hP
  have hx := Bd.exec
  have hby := Bd.bytes
  have hml : c.maxLocals = 2 := hml0
  have hown : s.vm.findClass "java/lang/String" = some m.cls := findClass_of_methodNamed Bd.named
  have hnm := (name_of_methodNamed Bd.named Bd.method).1
  have X0 : Stand p l e ({ frames := 3, cells := 1, slots := 3, locals := 52 } : Room) s m #[(.ref a0), (.ref a1)] below meth c s₁ [] 0 0 := Stand.of_body Bd
  have e0 : s₁.heap = h0 := by rw [← hh, Bd.state]; rfl
  have N0 := Fr.nil n0
  have pre0 : ∀ t, Steps p.tables e below (s₁.setTop (mkF m 0 #[.val (.ref a0), .val (.ref a1)] [])) t → Steps p.tables e below (s₁.setTop (entryFrame m #[(.ref a0), (.ref a1)] 2)) t := fun t k => castTop (own_ef_in1_3 m a0 a1) k
  have Vc83 := VA
  obtain ⟨cl83, Ar83, q83, S83, N_83, H83, G83⟩ := Vc83
  obtain ⟨_, _, ⟨T84, L84, k84, n84⟩, -, X84, ⟨Lc84, hQ84, l84, y84, z84⟩, st84⟩ := X0.specialBack hx (y := (⟨"java/lang/String", "<init>", "([CIILjava/lang/Void;)V"⟩ : MethodName)) rfl hown (mvT hZ (ow hw 11 rfl)) (mvT hZ (ow hw 12 rfl)) (mvT hZ (ow hw 14 rfl)) (by decide) (backOf (W := 0) (rm_in4_3 l Z a0' hw [] a0 a1 kc1 c0 c1 c2 kc h0 n0 Z0 E_t F0v F0c g_t VA na1 hc_c0 hc_c1 hc_c2 S_cs hkc) hZ (ow hw 14 rfl) (ow hw 6 rfl) (by decide) (by decide)) (g := (mkF m 6 #[.val (.ref a0), .val (.ref a1)] [.null, (.int (3 : Int32)), (.int (0 : Int32)), (.ref a1), (.ref a0)])) rfl (by rw [hml]; rfl) (Steps.refl _) (a := a0) (argsL := [(.ref a1), (.int (0 : Int32)), (.int (3 : Int32)), .null]) (rest := []) (lenOf own_pd3 rfl) rfl (by show 2 * 0 + _ ≤ _; exact Nat.le_of_eq rfl) (hb hby own_d_in1_3_6) (fun _ _ => ⟨rfl, e0, (by decide : 0 + 1 ≤ _), (by decide : 0 + 3 ≤ _)⟩)
  dsimp only [Pt.U, Pt.locs, Pt.cells, Pt.slots] at X84 l84 y84 z84 st84 hQ84
  subst l84 y84 z84
  obtain ⟨rfl, N84q, K84, Ei84, Ci84, bi84, ki84, Fi84, Vi84⟩ := hQ84
  have N84 := Fr.app N0 N84q
  have KP84 : Keep h0 T84.heap [a0] := (Keep.refl h0 [a0]).trans K84 (allS (Or.inl (List.mem_of_getElem? (i := 0) rfl)) all0)
  have SZ84 : h0.size ≤ T84.heap.size := KP84.1
  have Z84 : n0 ≤ T84.heap.size := Nat.le_trans Z0 SZ84
  obtain ⟨fs, hr, hrun, hended, hW, hsame⟩ := X84.leave (v := none) (fun _ => rfl)
  refine ⟨_, _, pre0 _ ?_, hrun, hended, _, _, rfl, ?_, ⟨_, rfl⟩, hW, hsame.mono (by decide) (by decide)⟩
  · show Steps p.tables e below (s₁.setTop (mkF m 0 #[.val (.ref a0), .val (.ref a1)] [])) _
    refine XS.aloadN X0.here hx rfl (hb hby own_d_in1_3_0) rfl rfl ?_
    refine XS.aloadN X0.here hx rfl (hb hby own_d_in1_3_1) rfl rfl ?_
    refine XS.iconst X0.here hx rfl (hb hby own_d_in1_3_2) ?_
    refine XS.aloadN X0.here hx rfl (hb hby own_d_in1_3_3) rfl rfl ?_
    refine X0.arraylength hx (by rw [e0]; exact Ar83.1) (State.isArrayOf_alike hZ.alike Ar83.2.1) (g := (mkF m 4 #[.val (.ref a0), .val (.ref a1)] [(.ref a1), (.int (0 : Int32)), (.ref a1), (.ref a0)])) rfl rfl (hb hby own_d_in1_3_4) _ ?_
    rw [len_of S83 N_83]
    refine XS.aconstNull X0.here hx rfl (hb hby own_d_in1_3_5) ?_
    refine st84.trans ?_
    exact X84.returnOut hx Bd.returns (hb hby own_d_in1_3_9) hr
  · show Q_in1_3 Z a0 a1 kc1 c0 c1 c2 kc h0 n0 _ T84.heap _
    exact ⟨rfl, N84, KP84, Ei84, Ci84, _, _, Fi84, Vi84⟩
theorem own_d_in4_0_0 : decode jdk_42_method_149_code 0 = .ok (.aload_n 0, 1) := by decide +kernel
theorem own_d_in4_0_1 : decode jdk_42_method_149_code 1 = .ok (.invokespecial 1, 3) := by decide +kernel
theorem own_d_in4_0_4 : decode jdk_42_method_149_code 4 = .ok (.iload_n 3, 1) := by decide +kernel
theorem own_d_in4_0_5 : decode jdk_42_method_149_code 5 = .ok (.ifCond .ne 22, 3) := by decide +kernel
theorem own_d_in4_0_8 : decode jdk_42_method_149_code 8 = .ok (.aload_n 0, 1) := by decide +kernel
theorem own_d_in4_0_9 : decode jdk_42_method_149_code 9 = .ok (.ldc 7, 2) := by decide +kernel
theorem own_d_in4_0_11 : decode jdk_42_method_149_code 11 = .ok (.getfield 9, 3) := by decide +kernel
theorem own_d_in4_0_14 : decode jdk_42_method_149_code 14 = .ok (.putfield 9, 3) := by decide +kernel
theorem own_d_in4_0_17 : decode jdk_42_method_149_code 17 = .ok (.aload_n 0, 1) := by decide +kernel
theorem own_d_in4_0_18 : decode jdk_42_method_149_code 18 = .ok (.ldc 7, 2) := by decide +kernel
theorem own_d_in4_0_20 : decode jdk_42_method_149_code 20 = .ok (.getfield 15, 3) := by decide +kernel
theorem own_d_in4_0_23 : decode jdk_42_method_149_code 23 = .ok (.putfield 15, 3) := by decide +kernel
theorem own_d_in4_0_26 : decode jdk_42_method_149_code 26 = .ok (.return_, 1) := by decide +kernel
theorem own_ef_in4_0 (m : MethodId) (a0 : Addr) (a1 : Addr) : entryFrame m #[(.ref a0), (.ref a1), (.int (0 : Int32)), (.int (0 : Int32)), .null] 6 = mkF m 0 #[.val (.ref a0), .val (.ref a1), .val (.int (0 : Int32)), .val (.int (0 : Int32)), .val .null, .unset] [] := by first | (simp [entryFrame, mkF, argsToLocals, Value.category]; done) | rfl
def Q_in4_0 (Z : State) (a0 : Addr) (a1 : Addr) (h0 : Heap) (n0 : Nat) (v : Option Value) (h : Heap) (L : List Loc) : Prop := v = none ∧ Fr n0 L ∧ Keep h0 h [a0] ∧ Exa Z h a0 "java/lang/String" ∧ Fld Z h a0 "java/lang/String" "coder" "B" (.int (0 : Int32)) ∧ ∃ (b : Addr) (k : ClassId), Fld Z h a0 "java/lang/String" "value" "[B" (.ref b) ∧ Arv Z h b k .byte (0 : Int32) [] (.int (0 : Int32))
set_option maxRecDepth 65536 in
set_option maxHeartbeats 40000000 in
theorem rm_in4_0 (l : Launch) (Z : State) (a0' : Array Value) (hw : ∀ d ∈ tables_1, d.before a0' Z = true) (ws : List Jvm.Cond) (a0 : Addr) (a1 : Addr) (h0 : Heap) (n0 : Nat) (Z0 : n0 ≤ h0.size) (E_t : Exa Z h0 a0 "java/lang/String") (F0v : Fld Z h0 a0 "java/lang/String" "value" "[B" .null) (F0c : Fld Z h0 a0 "java/lang/String" "coder" "B" (.int (0 : Int32))) (g_t : n0 ≤ a0) :
    MetFree l (⟨"java/lang/String", "<init>", "([CIILjava/lang/Void;)V"⟩ : MethodName) (head1 (Jvm.Cond.code (⟨"java/lang/String", "<init>", "([CIILjava/lang/Void;)V"⟩ : MethodName) jdk_42_method_149_code 6 none :: ws) ({ frames := 1, cells := 4, slots := 8, locals := 12 } : Room)) (fun a U => a = #[(.ref a0), (.ref a1), (.int (0 : Int32)), (.int (0 : Int32)), .null] ∧ Z.Warmed39 U.vm ∧ U.heap = h0 ∧ CHv Z own_EL U.vm h0 ∧ ∀ x ∈ ([a0] : List Addr), Safe Z own_EL U.vm h0 x) (fun _ _ _ _ _ => True) (fun _ U o U' => ∃ v L, o = .returned v ∧ Q_in4_0 Z a0 a1 h0 n0 v U'.heap L ∧ CHr Z own_EL U.vm U.heap U'.vm U'.heap ∧ ReturnedEndW U o U' L ({ frames := 1, cells := 4, slots := 8, locals := 12 } : Room).cells ({ frames := 1, cells := 4, slots := 8, locals := 12 } : Room).slots) := by
  refine MetFree.of_bodySF (plainFor_of_name own_pn1) hisR ?_
  intro p e s m args below meth c s₁ Bd hml0 hP hK
  obtain ⟨rfl, hZ, hh, hCH, hSf⟩ := hP
  have hx := Bd.exec
  have hby := Bd.bytes
  have hml : c.maxLocals = 6 := hml0
  have hown : s.vm.findClass "java/lang/String" = some m.cls := findClass_of_methodNamed Bd.named
  have hnm := (name_of_methodNamed Bd.named Bd.method).1
  have X0 : Stand p l e ({ frames := 1, cells := 4, slots := 8, locals := 12 } : Room) s m #[(.ref a0), (.ref a1), (.int (0 : Int32)), (.int (0 : Int32)), .null] below meth c s₁ [] 0 0 := Stand.of_body Bd
  have e0 : s₁.heap = h0 := by rw [← hh, Bd.state]; rfl
  have N0 := Fr.nil n0
  have pre0 : ∀ t, Steps p.tables e below (s₁.setTop (mkF m 0 #[.val (.ref a0), .val (.ref a1), .val (.int (0 : Int32)), .val (.int (0 : Int32)), .val .null, .unset] [])) t → Steps p.tables e below (s₁.setTop (entryFrame m #[(.ref a0), (.ref a1), (.int (0 : Int32)), (.int (0 : Int32)), .null] 6)) t := fun t k => castTop (own_ef_in4_0 m a0 a1) k
  have CH0 : CHr Z own_EL s.vm h0 s.vm h0 := CHr.refl hCH
  have hEW := own_EW hw
  have hS0 : s.Since s.vm 0 := (State.WarmedH.refl s).since 0
  have hk0 : 0 ≤ h0.size := Nat.zero_le _
  have a0_lt : a0 < h0.size := E_t.lt
  have a0_sf : Safe Z own_EL s.vm h0 a0 := hSf _ (List.mem_of_getElem? (i := 0) rfl)
  obtain ⟨T85, X85, e85, st85⟩ := initO X0 hx hZ hown (ow hw 15 rfl) (ow hw 16 rfl) (ow hw 17 rfl) e0 (g := (mkF m 1 #[.val (.ref a0), .val (.ref a1), .val (.int (0 : Int32)), .val (.int (0 : Int32)), .val .null, .unset] [(.ref a0)])) rfl (by rw [hml]; rfl) rfl (hb hby own_d_in4_0_1) (by decide) (W := 0) (by show 2 * 0 + _ ≤ _; exact Nat.le_of_eq rfl) (by decide)
  have pre86 : ∀ t, Steps p.tables e below (T85.setTop (mkF m 9 #[.val (.ref a0), .val (.ref a1), .val (.int (0 : Int32)), .val (.int (0 : Int32)), .val .null, .unset] [(.ref a0)])) t → Steps p.tables e below (s₁.setTop (entryFrame m #[(.ref a0), (.ref a1), (.int (0 : Int32)), (.int (0 : Int32)), .null] 6)) t := fun t k => pre0 t (by
    refine XS.aloadN X0.here hx rfl (hb hby own_d_in4_0_0) rfl rfl ?_
    refine st85 _ ?_
    refine XS.iloadN X85.here hx rfl (hb hby own_d_in4_0_4) rfl ?_
    refine XS.ifNo X85.here hx rfl (hb hby own_d_in4_0_5) rfl ((if0 _ _).trans (teq (by decide : (0 : Int32) = (0 : Int32))).2) ?_
    refine XS.aloadN X85.here hx rfl (hb hby own_d_in4_0_8) rfl rfl ?_
    exact k)
  have wS87 : ∀ a ∈ Bundle.stringAtoms, a.before a0' Z = true := own_strAtoms (ow hw 6 rfl) (ow hw 5 rfl) (ow hw 19 rfl) (ow hw 20 rfl) (ow hw 21 rfl) (ow hw 22 rfl) (ow hw 23 rfl)
  obtain ⟨s88, T88, h88, k88, bv88, kv88, X88, e88, E88, hS88, hk88, hZ, hown, Es88, Cs88, Vs88, As88, ls88, lb88, hC88, -, hne88, st88⟩ := ldcCH (s := s) (vm0 := s.vm) X85 hx hZ hown (ow hw 18 rfl) wS87 e85 hS0 hk0 hEW (List.mem_of_getElem? (i := 0) rfl) CH0.1 (vs := []) (z := 0) ⟨by decide, by decide⟩ (by decide) rfl (g := (mkF m 9 #[.val (.ref a0), .val (.ref a1), .val (.int (0 : Int32)), .val (.int (0 : Int32)), .val .null, .unset] [(.ref a0)])) rfl (hb hby own_d_in4_0_9) (n := 0) (by decide) (by decide) (by decide) (by decide)
  have CHn88 := CH0.trans hC88
  have KP88 : Keep h0 h88 [a0] := (Keep.refl h0 [a0]).ext E88
  have SZ88 : h0.size ≤ h88.size := KP88.1
  have Z88 : n0 ≤ h88.size := Nat.le_trans Z0 SZ88
  have ne88_a0 := hne88 a0 (CHn88.safe a0_lt a0_sf)
  obtain ⟨T89, X89, e89, st89⟩ := getF X88 hx hZ hown (host := "") (Or.inl (ow hw 24 rfl)) Via.refl e88 Vs88 (g := (mkF m 11 #[.val (.ref a0), .val (.ref a1), .val (.int (0 : Int32)), .val (.int (0 : Int32)), .val .null, .unset] [(.ref s88), (.ref a0)])) rfl rfl (hb hby own_d_in4_0_11)
  have fx91 := (E_t.ext E88)
  have fx92 := (F0v.ext E88)
  have Fo90 := fx92
  obtain ⟨T93, h93, X93, e93, W93, st93⟩ := putF X89 hx hZ hown (host := "") (Or.inl (ow hw 24 rfl)) Via.refl e89 Fo90 fx91 (Or.inr ⟨(ow hw 20 rfl), rfl, hnm⟩) (ow hw 5 rfl) (ty := (.array .byte)) (by decide) rfl rfl (g := (mkF m 14 #[.val (.ref a0), .val (.ref a1), .val (.int (0 : Int32)), .val (.int (0 : Int32)), .val .null, .unset] [(.ref bv88), (.ref a0)])) rfl rfl (hb hby own_d_in4_0_14)
  have Fw93 : Fld Z h93 a0 "java/lang/String" "value" "[B" (.ref bv88) := Fo90.same W93
  have N93 := Fr.snoc X93 N0 g_t
  have KP93 : Keep h0 h93 [a0] := KP88.wr W93 (Or.inl (List.mem_of_getElem? (i := 0) rfl))
  have SZ93 : h0.size ≤ h93.size := KP93.1
  have Z93 : n0 ≤ h93.size := Nat.le_trans Z0 SZ93
  have hk93 := Nat.le_trans hk88 (Keep.of_wr W93).1
  have CH93 := CHn88.trans (CHr.wr W93 (CHn88.safe a0_lt a0_sf) CHn88.1)
  have pre94 : ∀ t, Steps p.tables e below (T93.setTop (mkF m 18 #[.val (.ref a0), .val (.ref a1), .val (.int (0 : Int32)), .val (.int (0 : Int32)), .val .null, .unset] [(.ref a0)])) t → Steps p.tables e below (s₁.setTop (entryFrame m #[(.ref a0), (.ref a1), (.int (0 : Int32)), (.int (0 : Int32)), .null] 6)) t := fun t k => pre86 t (by
    refine st88 _ ?_
    refine st89 _ ?_
    refine st93 _ ?_
    refine XS.aloadN X93.here hx rfl (hb hby own_d_in4_0_17) rfl rfl ?_
    exact k)
  have wS95 : ∀ a ∈ Bundle.stringAtoms, a.before a0' Z = true := own_strAtoms (ow hw 6 rfl) (ow hw 5 rfl) (ow hw 19 rfl) (ow hw 20 rfl) (ow hw 21 rfl) (ow hw 22 rfl) (ow hw 23 rfl)
  obtain ⟨s96, T96, h96, k96, bv96, kv96, X96, e96, E96, hS96, hk96, hZ, hown, Es96, Cs96, Vs96, As96, ls96, lb96, hC96, -, hne96, st96⟩ := ldcCH (s := s) (vm0 := T88.vm) X93 hx hZ hown (ow hw 18 rfl) wS95 e93 hS88 hk93 hEW (List.mem_of_getElem? (i := 0) rfl) CH93.1 (vs := []) (z := 0) ⟨by decide, by decide⟩ (by decide) rfl (g := (mkF m 18 #[.val (.ref a0), .val (.ref a1), .val (.int (0 : Int32)), .val (.int (0 : Int32)), .val .null, .unset] [(.ref a0)])) rfl (hb hby own_d_in4_0_18) (n := 0) (by decide) (by decide) (by decide) (by decide)
  have CHn96 := CH93.trans hC96
  have KP96 : Keep h0 h96 [a0] := KP93.ext E96
  have SZ96 : h0.size ≤ h96.size := KP96.1
  have Z96 : n0 ≤ h96.size := Nat.le_trans Z0 SZ96
  have ne96_a0 := hne96 a0 (CHn96.safe a0_lt a0_sf)
  obtain ⟨T97, X97, e97, st97⟩ := getF X96 hx hZ hown (host := "") (Or.inl (ow hw 25 rfl)) Via.refl e96 Cs96 (g := (mkF m 20 #[.val (.ref a0), .val (.ref a1), .val (.int (0 : Int32)), .val (.int (0 : Int32)), .val .null, .unset] [(.ref s96), (.ref a0)])) rfl rfl (hb hby own_d_in4_0_20)
  have fx99 := ((fx91.wr W93).ext E96)
  have fx100 := (((F0c.ext E88).other W93 (Or.inr (slot_ne (a0 := a0') (Or.inr (ow hw 21 rfl)) (Or.inr (ow hw 20 rfl)) (by decide) (t := .byte) (t' := (.array .byte)) (by decide) (by decide)))).ext E96)
  have Fo98 := fx100
  obtain ⟨T101, h101, X101, e101, W101, st101⟩ := putFN X97 hx hZ hown (ow hw 25 rfl) Via.refl e97 Fo98 fx99 (Or.inr ⟨(ow hw 21 rfl), rfl, hnm⟩) (ow hw 5 rfl) (ty := .byte) (v' := (.int (nar .byte (0 : Int32)))) (by decide) rfl (fits_nar_byte _) (g := (mkF m 23 #[.val (.ref a0), .val (.ref a1), .val (.int (0 : Int32)), .val (.int (0 : Int32)), .val .null, .unset] [(.int (0 : Int32)), (.ref a0)])) rfl rfl (hb hby own_d_in4_0_23)
  have Fw101 : Fld Z h101 a0 "java/lang/String" "coder" "B" (.int (0 : Int32)) := Fo98.same W101
  have N101 := Fr.snoc X101 N93 g_t
  have KP101 : Keep h0 h101 [a0] := KP96.wr W101 (Or.inl (List.mem_of_getElem? (i := 0) rfl))
  have SZ101 : h0.size ≤ h101.size := KP101.1
  have Z101 : n0 ≤ h101.size := Nat.le_trans Z0 SZ101
  have hk101 := Nat.le_trans hk96 (Keep.of_wr W101).1
  have CH101 := CHn96.trans (CHr.wr W101 (CHn96.safe a0_lt a0_sf) CHn96.1)
  have fx102 := (fx99.wr W101)
  have fx103 := ((Fw93.ext E96).other W101 (Or.inr (slot_ne (a0 := a0') (Or.inr (ow hw 20 rfl)) (Or.inr (ow hw 21 rfl)) (by decide) (t := (.array .byte)) (t' := .byte) (by decide) (by decide))))
  have fx104 := (((As88.other W93 (Ne.symm ne88_a0.2)).ext E96).other W101 (Ne.symm ne88_a0.2))
  obtain ⟨fs, hr, hrun, hended, hE⟩ := X101.leaveW hS96 (by rw [e101]; exact hk101) (v := none) (fun _ => rfl)
  refine ⟨_, _, pre94 _ ?_, hrun, hended, _, _, rfl, ?_, ?_, own_wmono hE (by decide) (by decide)⟩
  · show Steps p.tables e below (T93.setTop (mkF m 18 #[.val (.ref a0), .val (.ref a1), .val (.int (0 : Int32)), .val (.int (0 : Int32)), .val .null, .unset] [(.ref a0)])) _
    refine st96 _ ?_
    refine st97 _ ?_
    refine st101 _ ?_
    exact X101.returnOut hx Bd.returns (hb hby own_d_in4_0_26) hr
  · show Q_in4_0 Z a0 a1 h0 n0 _ T101.heap _
    rw [e101]
    exact ⟨rfl, N101, KP101, fx102, Fw101, _, _, fx103, fx104⟩
  · show CHr Z own_EL s.vm s.heap T101.vm T101.heap
    rw [hh, e101]
    exact CH101.trans (CHv.at (s := s) (vm0 := T96.vm) X101 hZ hEW CH101.1)
theorem own_d_in1_0_0 : decode jdk_42_method_3_code 0 = .ok (.aload_n 0, 1) := by decide +kernel
theorem own_d_in1_0_1 : decode jdk_42_method_3_code 1 = .ok (.aload_n 1, 1) := by decide +kernel
theorem own_d_in1_0_2 : decode jdk_42_method_3_code 2 = .ok (.iconst 0, 1) := by decide +kernel
theorem own_d_in1_0_3 : decode jdk_42_method_3_code 3 = .ok (.aload_n 1, 1) := by decide +kernel
theorem own_d_in1_0_4 : decode jdk_42_method_3_code 4 = .ok (.arraylength, 1) := by decide +kernel
theorem own_d_in1_0_5 : decode jdk_42_method_3_code 5 = .ok (.aconst_null, 1) := by decide +kernel
theorem own_d_in1_0_6 : decode jdk_42_method_3_code 6 = .ok (.invokespecial 27, 3) := by decide +kernel
theorem own_d_in1_0_9 : decode jdk_42_method_3_code 9 = .ok (.return_, 1) := by decide +kernel
theorem own_ef_in1_0 (m : MethodId) (a0 : Addr) (a1 : Addr) : entryFrame m #[(.ref a0), (.ref a1)] 2 = mkF m 0 #[.val (.ref a0), .val (.ref a1)] [] := by first | (simp [entryFrame, mkF, argsToLocals, Value.category]; done) | rfl
def Q_in1_0 (Z : State) (a0 : Addr) (a1 : Addr) (kc1 : ClassId) (h0 : Heap) (n0 : Nat) (v : Option Value) (h : Heap) (L : List Loc) : Prop := v = none ∧ Fr n0 L ∧ Keep h0 h [a0] ∧ Exa Z h a0 "java/lang/String" ∧ Fld Z h a0 "java/lang/String" "coder" "B" (.int (0 : Int32)) ∧ ∃ (b : Addr) (k : ClassId), Fld Z h a0 "java/lang/String" "value" "[B" (.ref b) ∧ Arv Z h b k .byte (0 : Int32) [] (.int (0 : Int32))
set_option maxRecDepth 65536 in
set_option maxHeartbeats 40000000 in
theorem rm_in1_0 (l : Launch) (Z : State) (a0' : Array Value) (hw : ∀ d ∈ tables_1, d.before a0' Z = true) (ws : List Jvm.Cond) (a0 : Addr) (a1 : Addr) (kc1 : ClassId) (h0 : Heap) (n0 : Nat) (Z0 : n0 ≤ h0.size) (E_t : Exa Z h0 a0 "java/lang/String") (F0v : Fld Z h0 a0 "java/lang/String" "value" "[B" .null) (F0c : Fld Z h0 a0 "java/lang/String" "coder" "B" (.int (0 : Int32))) (g_t : n0 ≤ a0) (VA : Arv Z h0 a1 kc1 .char (0 : Int32) [] (.int (0 : Int32))) :
    MetFree l (⟨"java/lang/String", "<init>", "([C)V"⟩ : MethodName) (head1 (Jvm.Cond.code (⟨"java/lang/String", "<init>", "([C)V"⟩ : MethodName) jdk_42_method_3_code 2 none :: ws) ({ frames := 2, cells := 4, slots := 8, locals := 29 } : Room)) (fun a U => a = #[(.ref a0), (.ref a1)] ∧ Z.Warmed39 U.vm ∧ U.heap = h0 ∧ CHv Z own_EL U.vm h0 ∧ ∀ x ∈ ([a0] : List Addr), Safe Z own_EL U.vm h0 x) (fun _ _ _ _ _ => True) (fun _ U o U' => ∃ v L, o = .returned v ∧ Q_in1_0 Z a0 a1 kc1 h0 n0 v U'.heap L ∧ CHr Z own_EL U.vm U.heap U'.vm U'.heap ∧ ReturnedEndW U o U' L ({ frames := 2, cells := 4, slots := 8, locals := 29 } : Room).cells ({ frames := 2, cells := 4, slots := 8, locals := 29 } : Room).slots) := by
  refine MetFree.of_bodySF (plainFor_of_name own_pn1) hisR ?_
  intro p e s m args below meth c s₁ Bd hml0 hP hK
  obtain ⟨rfl, hZ, hh, hCH, hSf⟩ := hP
  have hx := Bd.exec
  have hby := Bd.bytes
  have hml : c.maxLocals = 2 := hml0
  have hown : s.vm.findClass "java/lang/String" = some m.cls := findClass_of_methodNamed Bd.named
  have hnm := (name_of_methodNamed Bd.named Bd.method).1
  have X0 : Stand p l e ({ frames := 2, cells := 4, slots := 8, locals := 29 } : Room) s m #[(.ref a0), (.ref a1)] below meth c s₁ [] 0 0 := Stand.of_body Bd
  have e0 : s₁.heap = h0 := by rw [← hh, Bd.state]; rfl
  have N0 := Fr.nil n0
  have pre0 : ∀ t, Steps p.tables e below (s₁.setTop (mkF m 0 #[.val (.ref a0), .val (.ref a1)] [])) t → Steps p.tables e below (s₁.setTop (entryFrame m #[(.ref a0), (.ref a1)] 2)) t := fun t k => castTop (own_ef_in1_0 m a0 a1) k
  have CH0 : CHr Z own_EL s.vm h0 s.vm h0 := CHr.refl hCH
  have hEW := own_EW hw
  have hS0 : s.Since s.vm 0 := (State.WarmedH.refl s).since 0
  have hk0 : 0 ≤ h0.size := Nat.zero_le _
  have a0_lt : a0 < h0.size := E_t.lt
  have a0_sf : Safe Z own_EL s.vm h0 a0 := hSf _ (List.mem_of_getElem? (i := 0) rfl)
  have Vc105 := VA
  obtain ⟨cl105, Ar105, q105, S105, N_105, H105, G105⟩ := Vc105
  have pre107 : ∀ t, Steps p.tables e below (s₁.setTop (mkF m 6 #[.val (.ref a0), .val (.ref a1)] [.null, (.int (0 : Int32)), (.int (0 : Int32)), (.ref a1), (.ref a0)])) t → Steps p.tables e below (s₁.setTop (entryFrame m #[(.ref a0), (.ref a1)] 2)) t := fun t k => pre0 t (by
    refine XS.aloadN X0.here hx rfl (hb hby own_d_in1_0_0) rfl rfl ?_
    refine XS.aloadN X0.here hx rfl (hb hby own_d_in1_0_1) rfl rfl ?_
    refine XS.iconst X0.here hx rfl (hb hby own_d_in1_0_2) ?_
    refine XS.aloadN X0.here hx rfl (hb hby own_d_in1_0_3) rfl rfl ?_
    refine X0.arraylength hx (by rw [e0]; exact Ar105.1) (State.isArrayOf_alike hZ.alike Ar105.2.1) (g := (mkF m 4 #[.val (.ref a0), .val (.ref a1)] [(.ref a1), (.int (0 : Int32)), (.ref a1), (.ref a0)])) rfl rfl (hb hby own_d_in1_0_4) _ ?_
    rw [len_of S105 N_105]
    refine XS.aconstNull X0.here hx rfl (hb hby own_d_in1_0_5) ?_
    exact k)
  obtain ⟨_, _, ⟨T106, L106, k106, n106⟩, -, X106w, hS106w, hg106w, ⟨Lc106, hQ106, l106, y106, z106, hC106⟩, st106⟩ := X0.specialBackS hx (y := (⟨"java/lang/String", "<init>", "([CIILjava/lang/Void;)V"⟩ : MethodName)) rfl hown (mvT hZ (ow hw 11 rfl)) (mvT hZ (ow hw 12 rfl)) (mvT hZ (ow hw 14 rfl)) (by decide) (own_backW (s := s) (vm0 := s.vm) (W := 0) (rm_in4_0 l Z a0' hw [] a0 a1 h0 n0 Z0 E_t F0v F0c g_t) hZ (ow hw 14 rfl) (ow hw 6 rfl) (by decide) (by decide) hEW CH0.1 (allS (P := fun x => x < _ ∧ Safe Z own_EL _ _ x) ⟨E_t.lt, (CH0.safe a0_lt a0_sf)⟩ all0)) (g := (mkF m 6 #[.val (.ref a0), .val (.ref a1)] [.null, (.int (0 : Int32)), (.int (0 : Int32)), (.ref a1), (.ref a0)])) rfl (by rw [hml]; rfl) (Steps.refl _) (a := a0) (argsL := [(.ref a1), (.int (0 : Int32)), (.int (0 : Int32)), .null]) (rest := []) (lenOf own_pd3 rfl) rfl (by show 2 * 0 + _ ≤ _; exact Nat.le_of_eq rfl) (hb hby own_d_in1_0_6) (fun _ _ => ⟨rfl, e0, (by decide : 0 + 4 ≤ _), (by decide : 0 + 8 ≤ _)⟩)
  dsimp only [Pt.U, Pt.locs, Pt.cells, Pt.slots] at X106w hS106w hg106w l106 y106 z106 st106 hQ106 hC106
  subst l106 y106 z106
  obtain ⟨X106, hS106, hZ, hown⟩ := rebS hS0 (by rw [e0]; exact hk0) X106w hS106w hg106w hZ hown
  have CHn106 := CH0.trans hC106
  obtain ⟨rfl, N106q, K106, Ei106, Ci106, bi106, ki106, Fi106, Vi106⟩ := hQ106
  have N106 := Fr.app N0 N106q
  have KP106 : Keep h0 T106.heap [a0] := (Keep.refl h0 [a0]).trans K106 (allS (Or.inl (List.mem_of_getElem? (i := 0) rfl)) all0)
  have SZ106 : h0.size ≤ T106.heap.size := KP106.1
  have Z106 : n0 ≤ T106.heap.size := Nat.le_trans Z0 SZ106
  obtain ⟨fs, hr, hrun, hended, hE⟩ := X106.leaveW hS106 (Nat.le_refl _) (v := none) (fun _ => rfl)
  refine ⟨_, _, pre107 _ ?_, hrun, hended, _, _, rfl, ?_, ?_, own_wmono hE (by decide) (by decide)⟩
  · show Steps p.tables e below (s₁.setTop (mkF m 6 #[.val (.ref a0), .val (.ref a1)] [.null, (.int (0 : Int32)), (.int (0 : Int32)), (.ref a1), (.ref a0)])) _
    refine st106.trans ?_
    exact X106.returnOut hx Bd.returns (hb hby own_d_in1_0_9) hr
  · show Q_in1_0 Z a0 a1 kc1 h0 n0 _ T106.heap _
    exact ⟨rfl, N106, KP106, Ei106, Ci106, _, _, Fi106, Vi106⟩
  · show CHr Z own_EL s.vm s.heap T106.vm T106.heap
    rw [hh]
    exact CHn106.trans (CHv.at (s := s) (vm0 := T106.vm) X106 hZ hEW CHn106.1)
theorem own_i2c (y : Int32) (h0 : 0 ≤ y.toInt) (h1 : y.toInt < 65536) : y.toUInt32.toUInt16.toUInt32.toInt32 = y := by
  have hy : y.toInt = y.toBitVec.toNat := by
    have e : y.toInt = y.toBitVec.toInt := rfl
    have hb := y.toBitVec.isLt
    rw [BitVec.toInt_eq_toNat_cond] at e
    split at e <;> omega
  rw [← Int32.toBitVec_inj]
  apply BitVec.eq_of_toNat_eq
  have e2 : (y.toUInt32.toUInt16.toUInt32.toInt32).toBitVec.toNat = y.toUInt32.toUInt16.toNat := UInt16.toNat_toUInt32 _
  have e3 : y.toUInt32.toUInt16.toNat = y.toUInt32.toNat % 2 ^ 16 := UInt32.toNat_toUInt16 _
  have e4 : y.toUInt32.toNat = y.toBitVec.toNat := rfl
  rw [e2, e3, e4]
  omega
theorem own_m255 (x : Int32) : 0 ≤ (x &&& (255 : Int32)).toInt ∧ (x &&& (255 : Int32)).toInt < 256 := by
  have e1 : (x &&& (255 : Int32)).toInt = x.toInt % 2 ^ 8 := Jvm.Kit.i32_mask x 255 (k := 8) (by decide) (by decide)
  rw [e1]; omega
theorem own_cc (x : Int32) : nar .char ((x &&& (255 : Int32)).toUInt32.toUInt16.toUInt32.toInt32) = x &&& (255 : Int32) := by
  have h := own_m255 x
  rw [own_i2c _ h.1 (by omega)]
  exact own_i2c _ h.1 (by omega)
theorem own_ch (x : Int32) : ¬ ((255 : Int32) < nar .char ((x &&& (255 : Int32)).toUInt32.toUInt16.toUInt32.toInt32)) := by
  have h := own_m255 x
  rw [own_cc, Int32.lt_iff_toInt_lt]
  have c : (255 : Int32).toInt = 255 := by decide
  rw [c]; omega

theorem own_lenN (n : Nat) (h : n ≤ 3) : (Int32.ofNat n).toNatClampNeg = n := by
  match n, h with
  | 0, _ => rfl
  | 1, _ => rfl
  | 2, _ => rfl
  | 3, _ => rfl
theorem own_sameL {Z : State} {h : Heap} {a b0 b1 : Addr} {k0 k1 : ClassId} {bs0 bs1 : List Int32} (l0 : bs0.length ≤ 3) (l1 : bs1.length ≤ 3) (F0 : Fld Z h a "java/lang/String" "value" "[B" (.ref b0)) (F1 : Fld Z h a "java/lang/String" "value" "[B" (.ref b1)) (A0 : Arv Z h b0 k0 .byte (Int32.ofNat bs0.length) (bs0.map Value.int) (.int 0)) (A1 : Arv Z h b1 k1 .byte (Int32.ofNat bs1.length) (bs1.map Value.int) (.int 0)) : bs0 = bs1 := by
  have e1 := F0.fin (Vm.Alike.refl _) (U := { Z with heap := h })
  have e2 := F1.fin (Vm.Alike.refl _) (U := { Z with heap := h })
  have e3 : b0 = b1 := by have q := e1.symm.trans e2; simpa using q
  subst e3
  obtain ⟨c0, r0, -, s0, -, h0, -⟩ := A0
  obtain ⟨c1, r1, -, s1, -, h1, -⟩ := A1
  have e4 : c0 = c1 := Option.some.inj (r0.1.symm.trans r1.1)
  subst e4
  rw [own_lenN _ l0] at s0
  rw [own_lenN _ l1] at s1
  have el : bs0.length = bs1.length := s0.symm.trans s1
  refine List.ext_getElem el fun i hi hi' => ?_
  have q := (h0 i (by omega)).symm.trans (h1 i (by omega))
  simp [List.getD_eq_getElem?_getD, hi, hi'] at q
  exact q
theorem own_notasg {Z : State} {a0 : Array Value} {C S K : String} {n : Nat} (w : (Jvm.Cond.superclass C S).before a0 Z = true) (wn : (Jvm.Cond.noSuperclass S).before a0 Z = true) (wi : (Jvm.Cond.instantiable K n).before a0 Z = true) (h1 : C ≠ K) (h2 : S ≠ K) : ∃ c t, Z.vm.findClass C = some c ∧ Z.vm.findClass K = some t ∧ Z.vm.assignable c t = false := by
  obtain ⟨t, k', g0, g2, g5, g6, -⟩ := Cond.instantiable_spec wi
  obtain ⟨c, q0⟩ := found_sup w
  obtain ⟨p, k, kp, q1, q2, q3, q4, q5, q6, q7⟩ := Cond.superclass_spec q0 w
  obtain ⟨c', k2, r1, r2, r3, -, -⟩ := Cond.noSuperclass_spec wn
  have n2 := ids_ne r1 g0 h2
  have n1 := ids_ne q0 g0 h1
  have hN : NS Z S K := ⟨c', t, r1, g0, fun fuel => by
    cases fuel with
    | zero => rfl
    | succ f => simp [Vm.isSubclassAux, n2, r2, r3]⟩
  obtain ⟨c3, t3, u1, u2, u3⟩ := NS.step w hN h1
  cases q0.symm.trans u1
  cases g0.symm.trans u2
  have gi : k'.isInterface = false := by
    cases hi : k'.isInterface with
    | false => rfl
    | true => simp [hi] at g6
  refine ⟨c, t, q0, g0, ?_⟩
  show Z.vm.assignableAux (255 + 1) c t = false
  simp [Vm.assignableAux, n1, q2, g2, q5, g5, gi, Vm.isSubclass, u3]
theorem own_pn2 : plainName "com/example/entry_to_apps/entrytoapps/GridProfileEqualsPinLaw" = true := by first | (simp [plainName, overriddenIn]; done) | decide +kernel
theorem own_d_mk_0 : decode method_2_code 0 = .ok (.iload_n 0, 1) := by decide +kernel
theorem own_d_mk_1 : decode method_2_code 1 = .ok (.bipush 16, 2) := by decide +kernel
theorem own_d_mk_3 : decode method_2_code 3 = .ok (.iushr, 1) := by decide +kernel
theorem own_d_mk_4 : decode method_2_code 4 = .ok (.iconst 3, 1) := by decide +kernel
theorem own_d_mk_5 : decode method_2_code 5 = .ok (.iand, 1) := by decide +kernel
theorem own_d_mk_6 : decode method_2_code 6 = .ok (.istore_n 1, 1) := by decide +kernel
theorem own_d_mk_7 : decode method_2_code 7 = .ok (.iload_n 0, 1) := by decide +kernel
theorem own_d_mk_8 : decode method_2_code 8 = .ok (.sipush 255, 3) := by decide +kernel
theorem own_d_mk_11 : decode method_2_code 11 = .ok (.iand, 1) := by decide +kernel
theorem own_d_mk_12 : decode method_2_code 12 = .ok (.i2c, 1) := by decide +kernel
theorem own_d_mk_13 : decode method_2_code 13 = .ok (.istore_n 2, 1) := by decide +kernel
theorem own_d_mk_14 : decode method_2_code 14 = .ok (.iload_n 0, 1) := by decide +kernel
theorem own_d_mk_15 : decode method_2_code 15 = .ok (.bipush 8, 2) := by decide +kernel
theorem own_d_mk_17 : decode method_2_code 17 = .ok (.iushr, 1) := by decide +kernel
theorem own_d_mk_18 : decode method_2_code 18 = .ok (.sipush 255, 3) := by decide +kernel
theorem own_d_mk_21 : decode method_2_code 21 = .ok (.iand, 1) := by decide +kernel
theorem own_d_mk_22 : decode method_2_code 22 = .ok (.i2c, 1) := by decide +kernel
theorem own_d_mk_23 : decode method_2_code 23 = .ok (.istore_n 3, 1) := by decide +kernel
theorem own_d_mk_24 : decode method_2_code 24 = .ok (.iload_n 0, 1) := by decide +kernel
theorem own_d_mk_25 : decode method_2_code 25 = .ok (.bipush 24, 2) := by decide +kernel
theorem own_d_mk_27 : decode method_2_code 27 = .ok (.iushr, 1) := by decide +kernel
theorem own_d_mk_28 : decode method_2_code 28 = .ok (.sipush 255, 3) := by decide +kernel
theorem own_d_mk_31 : decode method_2_code 31 = .ok (.iand, 1) := by decide +kernel
theorem own_d_mk_32 : decode method_2_code 32 = .ok (.i2c, 1) := by decide +kernel
theorem own_d_mk_33 : decode method_2_code 33 = .ok (.istore 4, 2) := by decide +kernel
theorem own_d_mk_35 : decode method_2_code 35 = .ok (.iload_n 1, 1) := by decide +kernel
theorem own_d_mk_36 : decode method_2_code 36 = .ok (.ifCond .ne 14, 3) := by decide +kernel
theorem own_d_mk_39 : decode method_2_code 39 = .ok (.new 7, 3) := by decide +kernel
theorem own_d_mk_42 : decode method_2_code 42 = .ok (.dup, 1) := by decide +kernel
theorem own_d_mk_43 : decode method_2_code 43 = .ok (.iconst 0, 1) := by decide +kernel
theorem own_d_mk_44 : decode method_2_code 44 = .ok (.newarray .char, 2) := by decide +kernel
theorem own_d_mk_46 : decode method_2_code 46 = .ok (.invokespecial 9, 3) := by decide +kernel
theorem own_pd4 : parseMethodDescriptor "([C)V" = some ⟨[(.array .char)], none⟩ := by decide +kernel
theorem own_d_mk_49 : decode method_2_code 49 = .ok (.areturn, 1) := by decide +kernel
theorem own_d_mk_50 : decode method_2_code 50 = .ok (.iload_n 1, 1) := by decide +kernel
theorem own_d_mk_51 : decode method_2_code 51 = .ok (.iconst 1, 1) := by decide +kernel
theorem own_d_mk_52 : decode method_2_code 52 = .ok (.if_icmp .ne 18, 3) := by decide +kernel
theorem own_d_mk_55 : decode method_2_code 55 = .ok (.new 7, 3) := by decide +kernel
theorem own_d_mk_58 : decode method_2_code 58 = .ok (.dup, 1) := by decide +kernel
theorem own_d_mk_59 : decode method_2_code 59 = .ok (.iconst 1, 1) := by decide +kernel
theorem own_d_mk_60 : decode method_2_code 60 = .ok (.newarray .char, 2) := by decide +kernel
theorem own_d_mk_62 : decode method_2_code 62 = .ok (.dup, 1) := by decide +kernel
theorem own_d_mk_63 : decode method_2_code 63 = .ok (.iconst 0, 1) := by decide +kernel
theorem own_d_mk_64 : decode method_2_code 64 = .ok (.iload_n 2, 1) := by decide +kernel
theorem own_d_mk_65 : decode method_2_code 65 = .ok (.castore, 1) := by decide +kernel
theorem own_d_mk_66 : decode method_2_code 66 = .ok (.invokespecial 9, 3) := by decide +kernel
theorem own_d_mk_69 : decode method_2_code 69 = .ok (.areturn, 1) := by decide +kernel
theorem own_d_mk_70 : decode method_2_code 70 = .ok (.iload_n 1, 1) := by decide +kernel
theorem own_d_mk_71 : decode method_2_code 71 = .ok (.iconst 2, 1) := by decide +kernel
theorem own_d_mk_72 : decode method_2_code 72 = .ok (.if_icmp .ne 22, 3) := by decide +kernel
theorem own_d_mk_75 : decode method_2_code 75 = .ok (.new 7, 3) := by decide +kernel
theorem own_d_mk_78 : decode method_2_code 78 = .ok (.dup, 1) := by decide +kernel
theorem own_d_mk_79 : decode method_2_code 79 = .ok (.iconst 2, 1) := by decide +kernel
theorem own_d_mk_80 : decode method_2_code 80 = .ok (.newarray .char, 2) := by decide +kernel
theorem own_d_mk_82 : decode method_2_code 82 = .ok (.dup, 1) := by decide +kernel
theorem own_d_mk_83 : decode method_2_code 83 = .ok (.iconst 0, 1) := by decide +kernel
theorem own_d_mk_84 : decode method_2_code 84 = .ok (.iload_n 2, 1) := by decide +kernel
theorem own_d_mk_85 : decode method_2_code 85 = .ok (.castore, 1) := by decide +kernel
theorem own_d_mk_86 : decode method_2_code 86 = .ok (.dup, 1) := by decide +kernel
theorem own_d_mk_87 : decode method_2_code 87 = .ok (.iconst 1, 1) := by decide +kernel
theorem own_d_mk_88 : decode method_2_code 88 = .ok (.iload_n 3, 1) := by decide +kernel
theorem own_d_mk_89 : decode method_2_code 89 = .ok (.castore, 1) := by decide +kernel
theorem own_d_mk_90 : decode method_2_code 90 = .ok (.invokespecial 9, 3) := by decide +kernel
theorem own_d_mk_93 : decode method_2_code 93 = .ok (.areturn, 1) := by decide +kernel
theorem own_d_mk_94 : decode method_2_code 94 = .ok (.new 7, 3) := by decide +kernel
theorem own_d_mk_97 : decode method_2_code 97 = .ok (.dup, 1) := by decide +kernel
theorem own_d_mk_98 : decode method_2_code 98 = .ok (.iconst 3, 1) := by decide +kernel
theorem own_d_mk_99 : decode method_2_code 99 = .ok (.newarray .char, 2) := by decide +kernel
theorem own_d_mk_101 : decode method_2_code 101 = .ok (.dup, 1) := by decide +kernel
theorem own_d_mk_102 : decode method_2_code 102 = .ok (.iconst 0, 1) := by decide +kernel
theorem own_d_mk_103 : decode method_2_code 103 = .ok (.iload_n 2, 1) := by decide +kernel
theorem own_d_mk_104 : decode method_2_code 104 = .ok (.castore, 1) := by decide +kernel
theorem own_d_mk_105 : decode method_2_code 105 = .ok (.dup, 1) := by decide +kernel
theorem own_d_mk_106 : decode method_2_code 106 = .ok (.iconst 1, 1) := by decide +kernel
theorem own_d_mk_107 : decode method_2_code 107 = .ok (.iload_n 3, 1) := by decide +kernel
theorem own_d_mk_108 : decode method_2_code 108 = .ok (.castore, 1) := by decide +kernel
theorem own_d_mk_109 : decode method_2_code 109 = .ok (.dup, 1) := by decide +kernel
theorem own_d_mk_110 : decode method_2_code 110 = .ok (.iconst 2, 1) := by decide +kernel
theorem own_d_mk_111 : decode method_2_code 111 = .ok (.iload 4, 2) := by decide +kernel
theorem own_d_mk_113 : decode method_2_code 113 = .ok (.castore, 1) := by decide +kernel
theorem own_d_mk_114 : decode method_2_code 114 = .ok (.invokespecial 9, 3) := by decide +kernel
theorem own_d_mk_117 : decode method_2_code 117 = .ok (.areturn, 1) := by decide +kernel
def FB_mk (p0 : Int32) : List Int32 := (if (((p0.toUInt32 >>> ((16 : Int32) &&& 31).toUInt32).toInt32) &&& (3 : Int32)) = (0 : Int32) then [] else (if (((p0.toUInt32 >>> ((16 : Int32) &&& 31).toUInt32).toInt32) &&& (3 : Int32)) = (1 : Int32) then [(nar .byte ((nar .char ((p0 &&& (255 : Int32)).toUInt32.toUInt16.toUInt32.toInt32)).toInt8.toInt32))] else (if (((p0.toUInt32 >>> ((16 : Int32) &&& 31).toUInt32).toInt32) &&& (3 : Int32)) = (2 : Int32) then [(nar .byte ((nar .char ((p0 &&& (255 : Int32)).toUInt32.toUInt16.toUInt32.toInt32)).toInt8.toInt32)), (nar .byte ((nar .char ((((p0.toUInt32 >>> ((8 : Int32) &&& 31).toUInt32).toInt32) &&& (255 : Int32)).toUInt32.toUInt16.toUInt32.toInt32)).toInt8.toInt32))] else [(nar .byte ((nar .char ((p0 &&& (255 : Int32)).toUInt32.toUInt16.toUInt32.toInt32)).toInt8.toInt32)), (nar .byte ((nar .char ((((p0.toUInt32 >>> ((8 : Int32) &&& 31).toUInt32).toInt32) &&& (255 : Int32)).toUInt32.toUInt16.toUInt32.toInt32)).toInt8.toInt32)), (nar .byte ((nar .char ((((p0.toUInt32 >>> ((24 : Int32) &&& 31).toUInt32).toInt32) &&& (255 : Int32)).toUInt32.toUInt16.toUInt32.toInt32)).toInt8.toInt32))])))
theorem own_ef_mk (m : MethodId) (p0 : Int32) : entryFrame m #[(.int p0)] 5 = mkF m 0 #[.val (.int p0), .unset, .unset, .unset, .unset] [] := by first | (simp [entryFrame, mkF, argsToLocals, Value.category]; done) | rfl
def Q_mk (Z : State) (p0 : Int32) (kc : Int32) (h0 : Heap) (n0 : Nat) (v : Option Value) (h : Heap) (L : List Loc) : Prop := ∃ (r b : Addr) (k : ClassId), v = some (.ref r) ∧ Fr n0 L ∧ Ext h0 h ∧ h0.size ≤ r ∧ Exa Z h r "java/lang/String" ∧ Fld Z h r "java/lang/String" "coder" "B" (.int (0 : Int32)) ∧ Fld Z h r "java/lang/String" "value" "[B" (.ref b) ∧ Arv Z h b k .byte (Int32.ofNat (FB_mk p0).length) ((FB_mk p0).map Value.int) (.int 0)
set_option maxRecDepth 65536 in
set_option maxHeartbeats 40000000 in
theorem rm_mk (l : Launch) (Z : State) (a0' : Array Value) (hw : ∀ d ∈ tables_1, d.before a0' Z = true) (ws : List Jvm.Cond) (p0 : Int32) (kc : Int32) (h0 : Heap) (n0 : Nat) (Z0 : n0 ≤ h0.size) (S_cs : Sta Z h0 "java/lang/String" "COMPACT_STRINGS" "Z" (.int kc)) (hkc : ¬ (kc = (0 : Int32))) :
    MetFree l (⟨"com/example/entry_to_apps/entrytoapps/GridProfileEqualsPinLaw", "mkName", "(I)Ljava/lang/String;"⟩ : MethodName) (head1 (Jvm.Cond.code (⟨"com/example/entry_to_apps/entrytoapps/GridProfileEqualsPinLaw", "mkName", "(I)Ljava/lang/String;"⟩ : MethodName) method_2_code 5 (some (.object "java/lang/String")) :: ws) ({ frames := 4, cells := 6, slots := 12, locals := 66 } : Room)) (fun a U => a = #[(.int p0)] ∧ Z.Warmed39 U.vm ∧ U.heap = h0 ∧ CHv Z own_EL U.vm h0 ∧ ∀ x ∈ ([] : List Addr), Safe Z own_EL U.vm h0 x) (fun _ _ _ _ _ => True) (fun _ U o U' => ∃ v L, o = .returned v ∧ Q_mk Z p0 kc h0 n0 v U'.heap L ∧ CHr Z own_EL U.vm U.heap U'.vm U'.heap ∧ ReturnedEndW U o U' L ({ frames := 4, cells := 6, slots := 12, locals := 66 } : Room).cells ({ frames := 4, cells := 6, slots := 12, locals := 66 } : Room).slots) := by
  refine MetFree.of_bodySF (plainFor_of_name own_pn2) hisR ?_
  intro p e s m args below meth c s₁ Bd hml0 hP hK
  obtain ⟨rfl, hZ, hh, hCH, hSf⟩ := hP
  have hx := Bd.exec
  have hby := Bd.bytes
  have hml : c.maxLocals = 5 := hml0
  have hown : s.vm.findClass "com/example/entry_to_apps/entrytoapps/GridProfileEqualsPinLaw" = some m.cls := findClass_of_methodNamed Bd.named
  have hnm := (name_of_methodNamed Bd.named Bd.method).1
  have X0 : Stand p l e ({ frames := 4, cells := 6, slots := 12, locals := 66 } : Room) s m #[(.int p0)] below meth c s₁ [] 0 0 := Stand.of_body Bd
  have e0 : s₁.heap = h0 := by rw [← hh, Bd.state]; rfl
  have N0 := Fr.nil n0
  have pre0 : ∀ t, Steps p.tables e below (s₁.setTop (mkF m 0 #[.val (.int p0), .unset, .unset, .unset, .unset] [])) t → Steps p.tables e below (s₁.setTop (entryFrame m #[(.int p0)] 5)) t := fun t k => castTop (own_ef_mk m p0) k
  have CH0 : CHr Z own_EL s.vm h0 s.vm h0 := CHr.refl hCH
  have hEW := own_EW hw
  have hS0 : s.Since s.vm 0 := (State.WarmedH.refl s).since 0
  have hk0 : 0 ≤ h0.size := Nat.zero_le _
  have pre109 : ∀ t, Steps p.tables e below (s₁.setTop (mkF m 36 #[.val (.int p0), .val (.int (((p0.toUInt32 >>> ((16 : Int32) &&& 31).toUInt32).toInt32) &&& (3 : Int32))), .val (.int ((p0 &&& (255 : Int32)).toUInt32.toUInt16.toUInt32.toInt32)), .val (.int ((((p0.toUInt32 >>> ((8 : Int32) &&& 31).toUInt32).toInt32) &&& (255 : Int32)).toUInt32.toUInt16.toUInt32.toInt32)), .val (.int ((((p0.toUInt32 >>> ((24 : Int32) &&& 31).toUInt32).toInt32) &&& (255 : Int32)).toUInt32.toUInt16.toUInt32.toInt32))] [(.int (((p0.toUInt32 >>> ((16 : Int32) &&& 31).toUInt32).toInt32) &&& (3 : Int32)))])) t → Steps p.tables e below (s₁.setTop (entryFrame m #[(.int p0)] 5)) t := fun t k => pre0 t (by
    refine XS.iloadN X0.here hx rfl (hb hby own_d_mk_0) rfl ?_
    refine XS.bipush X0.here hx rfl (hb hby own_d_mk_1) ?_
    refine XS.iushr X0.here hx rfl (hb hby own_d_mk_3) rfl ?_
    refine XS.iconst X0.here hx rfl (hb hby own_d_mk_4) ?_
    refine XS.iand X0.here hx rfl (hb hby own_d_mk_5) rfl ?_
    refine XS.istoreN X0.here hx rfl (hb hby own_d_mk_6) rfl (l' := #[.val (.int p0), .val (.int (((p0.toUInt32 >>> ((16 : Int32) &&& 31).toUInt32).toInt32) &&& (3 : Int32))), .unset, .unset, .unset]) rfl ?_
    refine XS.iloadN X0.here hx rfl (hb hby own_d_mk_7) rfl ?_
    refine XS.sipush X0.here hx rfl (hb hby own_d_mk_8) ?_
    refine XS.iand X0.here hx rfl (hb hby own_d_mk_11) rfl ?_
    refine XS.i2c X0.here hx rfl (hb hby own_d_mk_12) rfl ?_
    refine XS.istoreN X0.here hx rfl (hb hby own_d_mk_13) rfl (l' := #[.val (.int p0), .val (.int (((p0.toUInt32 >>> ((16 : Int32) &&& 31).toUInt32).toInt32) &&& (3 : Int32))), .val (.int ((p0 &&& (255 : Int32)).toUInt32.toUInt16.toUInt32.toInt32)), .unset, .unset]) rfl ?_
    refine XS.iloadN X0.here hx rfl (hb hby own_d_mk_14) rfl ?_
    refine XS.bipush X0.here hx rfl (hb hby own_d_mk_15) ?_
    refine XS.iushr X0.here hx rfl (hb hby own_d_mk_17) rfl ?_
    refine XS.sipush X0.here hx rfl (hb hby own_d_mk_18) ?_
    refine XS.iand X0.here hx rfl (hb hby own_d_mk_21) rfl ?_
    refine XS.i2c X0.here hx rfl (hb hby own_d_mk_22) rfl ?_
    refine XS.istoreN X0.here hx rfl (hb hby own_d_mk_23) rfl (l' := #[.val (.int p0), .val (.int (((p0.toUInt32 >>> ((16 : Int32) &&& 31).toUInt32).toInt32) &&& (3 : Int32))), .val (.int ((p0 &&& (255 : Int32)).toUInt32.toUInt16.toUInt32.toInt32)), .val (.int ((((p0.toUInt32 >>> ((8 : Int32) &&& 31).toUInt32).toInt32) &&& (255 : Int32)).toUInt32.toUInt16.toUInt32.toInt32)), .unset]) rfl ?_
    refine XS.iloadN X0.here hx rfl (hb hby own_d_mk_24) rfl ?_
    refine XS.bipush X0.here hx rfl (hb hby own_d_mk_25) ?_
    refine XS.iushr X0.here hx rfl (hb hby own_d_mk_27) rfl ?_
    refine XS.sipush X0.here hx rfl (hb hby own_d_mk_28) ?_
    refine XS.iand X0.here hx rfl (hb hby own_d_mk_31) rfl ?_
    refine XS.i2c X0.here hx rfl (hb hby own_d_mk_32) rfl ?_
    refine XS.istore X0.here hx rfl (hb hby own_d_mk_33) rfl (l' := #[.val (.int p0), .val (.int (((p0.toUInt32 >>> ((16 : Int32) &&& 31).toUInt32).toInt32) &&& (3 : Int32))), .val (.int ((p0 &&& (255 : Int32)).toUInt32.toUInt16.toUInt32.toInt32)), .val (.int ((((p0.toUInt32 >>> ((8 : Int32) &&& 31).toUInt32).toInt32) &&& (255 : Int32)).toUInt32.toUInt16.toUInt32.toInt32)), .val (.int ((((p0.toUInt32 >>> ((24 : Int32) &&& 31).toUInt32).toInt32) &&& (255 : Int32)).toUInt32.toUInt16.toUInt32.toInt32))]) rfl ?_
    refine XS.iloadN X0.here hx rfl (hb hby own_d_mk_35) rfl ?_
    exact k)
  by_cases hc36_108 : (((p0.toUInt32 >>> ((16 : Int32) &&& 31).toUInt32).toInt32) &&& (3 : Int32)) = (0 : Int32)
  · obtain ⟨T110, h110, X110, e110, E110, A110, D110, -, st110⟩ := newO X0 hx hZ hown (ow hw 4 rfl) (ow hw 5 rfl) (ow hw 6 rfl) e0 (g := (mkF m 39 #[.val (.int p0), .val (.int (((p0.toUInt32 >>> ((16 : Int32) &&& 31).toUInt32).toInt32) &&& (3 : Int32))), .val (.int ((p0 &&& (255 : Int32)).toUInt32.toUInt16.toUInt32.toInt32)), .val (.int ((((p0.toUInt32 >>> ((8 : Int32) &&& 31).toUInt32).toInt32) &&& (255 : Int32)).toUInt32.toUInt16.toUInt32.toInt32)), .val (.int ((((p0.toUInt32 >>> ((24 : Int32) &&& 31).toUInt32).toInt32) &&& (255 : Int32)).toUInt32.toUInt16.toUInt32.toInt32))] [])) rfl (hb hby own_d_mk_39) (by decide) (by decide)
    obtain ⟨b110, g110⟩ : ∃ z, z = h0.size := ⟨_, rfl⟩
    rw [← g110] at A110 D110 st110
    have szb_b110 : h0.size ≤ b110 := Nat.le_of_eq g110.symm
    have g_b110 : n0 ≤ b110 := Nat.le_trans Z0 (Nat.le_of_eq g110.symm)
    have sz_b110 : h0.size ≤ b110 := Nat.le_trans (Nat.le_refl _) (Nat.le_of_eq g110.symm)
    have EX110 : Ext h0 h110 := E110
    have SZ110 : h0.size ≤ h110.size := EX110.1
    have Z110 : n0 ≤ h110.size := Nat.le_trans Z0 SZ110
    have hk110 := Nat.le_trans hk0 E110.1
    have EXb110 : Ext h0 h110 := E110
    have F0_value_b110 := D110 (Or.inr (ow hw 20 rfl)) (ty := (.array .byte)) (by decide)
    have F0_coder_b110 := D110 (Or.inr (ow hw 21 rfl)) (ty := .byte) (by decide)
    obtain ⟨T111, h111, k111, X111, e111, E111, A111, st111⟩ := newP X110 hx hZ (ow hw 7 rfl) e110 (g := (mkF m 44 #[.val (.int p0), .val (.int (((p0.toUInt32 >>> ((16 : Int32) &&& 31).toUInt32).toInt32) &&& (3 : Int32))), .val (.int ((p0 &&& (255 : Int32)).toUInt32.toUInt16.toUInt32.toInt32)), .val (.int ((((p0.toUInt32 >>> ((8 : Int32) &&& 31).toUInt32).toInt32) &&& (255 : Int32)).toUInt32.toUInt16.toUInt32.toInt32)), .val (.int ((((p0.toUInt32 >>> ((24 : Int32) &&& 31).toUInt32).toInt32) &&& (255 : Int32)).toUInt32.toUInt16.toUInt32.toInt32))] [(.int (0 : Int32)), (.ref b110), (.ref b110)])) rfl (hb hby own_d_mk_44) rfl (by decide) (cap := 0) (by decide) (by decide) (by decide) (by decide)
    obtain ⟨b111, g111⟩ : ∃ z, z = h110.size := ⟨_, rfl⟩
    rw [← g111] at A111 st111
    have ne111_b110_b111 : b110 ≠ b111 := Nat.ne_of_lt (Nat.lt_of_lt_of_le A110.lt (Nat.le_of_eq g111.symm))
    have V_b111 : Arv Z h111 b111 k111 .char (0 : Int32) [] (.int (0 : Int32)) := Arv.new A111 (by decide)
    have szb_b111 : h0.size ≤ b111 := Nat.le_trans EXb110.1 (Nat.le_of_eq g111.symm)
    have g_b111 : n0 ≤ b111 := Nat.le_trans Z110 (Nat.le_of_eq g111.symm)
    have sz_b111 : h0.size ≤ b111 := Nat.le_trans SZ110 (Nat.le_of_eq g111.symm)
    have EX111 : Ext h0 h111 := own_exttr EX110 E111
    have SZ111 : h0.size ≤ h111.size := EX111.1
    have Z111 : n0 ≤ h111.size := Nat.le_trans Z0 SZ111
    have hk111 := Nat.le_trans hk110 E111.1
    have EXb111 : Ext h0 h111 := own_exttr EXb110 E111
    have fx113 := (A110.ext E111)
    have fx114 := (F0_value_b110.ext E111)
    have fx115 := (F0_coder_b110.ext E111)
    have pre116 : ∀ t, Steps p.tables e below (T111.setTop (mkF m 46 #[.val (.int p0), .val (.int (((p0.toUInt32 >>> ((16 : Int32) &&& 31).toUInt32).toInt32) &&& (3 : Int32))), .val (.int ((p0 &&& (255 : Int32)).toUInt32.toUInt16.toUInt32.toInt32)), .val (.int ((((p0.toUInt32 >>> ((8 : Int32) &&& 31).toUInt32).toInt32) &&& (255 : Int32)).toUInt32.toUInt16.toUInt32.toInt32)), .val (.int ((((p0.toUInt32 >>> ((24 : Int32) &&& 31).toUInt32).toInt32) &&& (255 : Int32)).toUInt32.toUInt16.toUInt32.toInt32))] [(.ref b111), (.ref b110), (.ref b110)])) t → Steps p.tables e below (s₁.setTop (entryFrame m #[(.int p0)] 5)) t := fun t k => pre109 t (by
      refine XS.ifNo X0.here hx rfl (hb hby own_d_mk_36) rfl ((if0 _ _).trans (teq hc36_108).2) ?_
      refine st110 _ ?_
      refine XS.dup X110.here hx rfl (hb hby own_d_mk_42) rfl rfl ?_
      refine XS.iconst X110.here hx rfl (hb hby own_d_mk_43) ?_
      refine st111 _ ?_
      exact k)
    obtain ⟨_, _, ⟨T112, L112, k112, n112⟩, -, X112w, hS112w, hg112w, ⟨Lc112, hQ112, l112, y112, z112, hC112⟩, st112⟩ := X111.specialBackS hx (y := (⟨"java/lang/String", "<init>", "([C)V"⟩ : MethodName)) rfl hown (mvT hZ (ow hw 8 rfl)) (mvT hZ (ow hw 9 rfl)) (mvT hZ (ow hw 10 rfl)) (by decide) (own_backW (s := s) (vm0 := s.vm) (W := 1) (rm_in1_0 l Z a0' hw [] b110 b111 k111 h111 n0 Z111 fx113 fx114 fx115 g_b110 V_b111) hZ (ow hw 10 rfl) (ow hw 6 rfl) (by decide) (by decide) hEW (CH0.trans (CHr.ext EXb111 CH0.1)).1 (allS (P := fun x => x < _ ∧ Safe Z own_EL _ _ x) ⟨fx113.lt, (own_safe CH0.1 EXb111 szb_b110)⟩ all0)) (g := (mkF m 46 #[.val (.int p0), .val (.int (((p0.toUInt32 >>> ((16 : Int32) &&& 31).toUInt32).toInt32) &&& (3 : Int32))), .val (.int ((p0 &&& (255 : Int32)).toUInt32.toUInt16.toUInt32.toInt32)), .val (.int ((((p0.toUInt32 >>> ((8 : Int32) &&& 31).toUInt32).toInt32) &&& (255 : Int32)).toUInt32.toUInt16.toUInt32.toInt32)), .val (.int ((((p0.toUInt32 >>> ((24 : Int32) &&& 31).toUInt32).toInt32) &&& (255 : Int32)).toUInt32.toUInt16.toUInt32.toInt32))] [(.ref b111), (.ref b110), (.ref b110)])) rfl (by rw [hml]; rfl) (Steps.refl _) (a := b110) (argsL := [(.ref b111)]) (rest := [(.ref b110)]) (lenOf own_pd4 rfl) rfl (by show 2 * 0 + _ ≤ _; exact Nat.le_of_eq rfl) (hb hby own_d_mk_46) (fun _ _ => ⟨rfl, e111, (by decide : 2 + 4 ≤ _), (by decide : 4 + 8 ≤ _)⟩)
    dsimp only [Pt.U, Pt.locs, Pt.cells, Pt.slots] at X112w hS112w hg112w l112 y112 z112 st112 hQ112 hC112
    subst l112 y112 z112
    obtain ⟨X112, hS112, hZ, hown⟩ := rebS hS0 (by rw [e111]; exact hk111) X112w hS112w hg112w hZ hown
    have CHn112 := (CH0.trans (CHr.ext EXb111 CH0.1)).trans hC112
    obtain ⟨rfl, N112q, K112, Ei112, Ci112, bi112, ki112, Fi112, Vi112⟩ := hQ112
    have N112 := Fr.app N0 N112q
    have EX112 : Ext h0 T112.heap := own_extkeep EX111 K112 sz_b110
    have SZ112 : h0.size ≤ T112.heap.size := EX112.1
    have Z112 : n0 ≤ T112.heap.size := Nat.le_trans Z0 SZ112
    obtain ⟨fs, hr, hrun, hended, hE⟩ := X112.leaveW hS112 (Nat.le_refl _) (v := some (.ref b110)) (fun h => by rw [Bd.returns] at h; cases h)
    refine ⟨_, _, pre116 _ ?_, hrun, hended, _, _, rfl, ?_, ?_, own_wmono hE (by decide) (by decide)⟩
    · show Steps p.tables e below (T111.setTop (mkF m 46 #[.val (.int p0), .val (.int (((p0.toUInt32 >>> ((16 : Int32) &&& 31).toUInt32).toInt32) &&& (3 : Int32))), .val (.int ((p0 &&& (255 : Int32)).toUInt32.toUInt16.toUInt32.toInt32)), .val (.int ((((p0.toUInt32 >>> ((8 : Int32) &&& 31).toUInt32).toInt32) &&& (255 : Int32)).toUInt32.toUInt16.toUInt32.toInt32)), .val (.int ((((p0.toUInt32 >>> ((24 : Int32) &&& 31).toUInt32).toInt32) &&& (255 : Int32)).toUInt32.toUInt16.toUInt32.toInt32))] [(.ref b111), (.ref b110), (.ref b110)])) _
      refine st112.trans ?_
      exact own_retA X112 hx Bd.returns rfl rfl rfl (hb hby own_d_mk_49) hr
    · show Q_mk Z p0 kc h0 n0 _ T112.heap _
      refine ⟨_, _, ki112, rfl, N112, EX112, sz_b110, Ei112, Ci112, Fi112, ?_⟩
      rw [FB_mk, if_pos hc36_108]
      exact Vi112
    · show CHr Z own_EL s.vm s.heap T112.vm T112.heap
      rw [hh]
      exact CHn112.trans (CHv.at (s := s) (vm0 := T112.vm) X112 hZ hEW CHn112.1)
  · have pre118 : ∀ t, Steps p.tables e below (s₁.setTop (mkF m 52 #[.val (.int p0), .val (.int (((p0.toUInt32 >>> ((16 : Int32) &&& 31).toUInt32).toInt32) &&& (3 : Int32))), .val (.int ((p0 &&& (255 : Int32)).toUInt32.toUInt16.toUInt32.toInt32)), .val (.int ((((p0.toUInt32 >>> ((8 : Int32) &&& 31).toUInt32).toInt32) &&& (255 : Int32)).toUInt32.toUInt16.toUInt32.toInt32)), .val (.int ((((p0.toUInt32 >>> ((24 : Int32) &&& 31).toUInt32).toInt32) &&& (255 : Int32)).toUInt32.toUInt16.toUInt32.toInt32))] [(.int (1 : Int32)), (.int (((p0.toUInt32 >>> ((16 : Int32) &&& 31).toUInt32).toInt32) &&& (3 : Int32)))])) t → Steps p.tables e below (s₁.setTop (entryFrame m #[(.int p0)] 5)) t := fun t k => pre109 t (by
      refine XS.ifYes X0.here hx rfl (pc0 := 36) (pc' := 50) rfl (hb hby own_d_mk_36) rfl ((if0 _ _).trans (feq hc36_108).2) (by decide) (by decide) ?_
      refine XS.iloadN X0.here hx rfl (hb hby own_d_mk_50) rfl ?_
      refine XS.iconst X0.here hx rfl (hb hby own_d_mk_51) ?_
      exact k)
    by_cases hc52_117 : (((p0.toUInt32 >>> ((16 : Int32) &&& 31).toUInt32).toInt32) &&& (3 : Int32)) = (1 : Int32)
    · obtain ⟨T119, h119, X119, e119, E119, A119, D119, -, st119⟩ := newO X0 hx hZ hown (ow hw 4 rfl) (ow hw 5 rfl) (ow hw 6 rfl) e0 (g := (mkF m 55 #[.val (.int p0), .val (.int (((p0.toUInt32 >>> ((16 : Int32) &&& 31).toUInt32).toInt32) &&& (3 : Int32))), .val (.int ((p0 &&& (255 : Int32)).toUInt32.toUInt16.toUInt32.toInt32)), .val (.int ((((p0.toUInt32 >>> ((8 : Int32) &&& 31).toUInt32).toInt32) &&& (255 : Int32)).toUInt32.toUInt16.toUInt32.toInt32)), .val (.int ((((p0.toUInt32 >>> ((24 : Int32) &&& 31).toUInt32).toInt32) &&& (255 : Int32)).toUInt32.toUInt16.toUInt32.toInt32))] [])) rfl (hb hby own_d_mk_55) (by decide) (by decide)
      obtain ⟨b119, g119⟩ : ∃ z, z = h0.size := ⟨_, rfl⟩
      rw [← g119] at A119 D119 st119
      have szb_b119 : h0.size ≤ b119 := Nat.le_of_eq g119.symm
      have g_b119 : n0 ≤ b119 := Nat.le_trans Z0 (Nat.le_of_eq g119.symm)
      have sz_b119 : h0.size ≤ b119 := Nat.le_trans (Nat.le_refl _) (Nat.le_of_eq g119.symm)
      have EX119 : Ext h0 h119 := E119
      have SZ119 : h0.size ≤ h119.size := EX119.1
      have Z119 : n0 ≤ h119.size := Nat.le_trans Z0 SZ119
      have hk119 := Nat.le_trans hk0 E119.1
      have EXb119 : Ext h0 h119 := E119
      have F0_value_b119 := D119 (Or.inr (ow hw 20 rfl)) (ty := (.array .byte)) (by decide)
      have F0_coder_b119 := D119 (Or.inr (ow hw 21 rfl)) (ty := .byte) (by decide)
      obtain ⟨T120, h120, k120, X120, e120, E120, A120, st120⟩ := newP X119 hx hZ (ow hw 7 rfl) e119 (g := (mkF m 60 #[.val (.int p0), .val (.int (((p0.toUInt32 >>> ((16 : Int32) &&& 31).toUInt32).toInt32) &&& (3 : Int32))), .val (.int ((p0 &&& (255 : Int32)).toUInt32.toUInt16.toUInt32.toInt32)), .val (.int ((((p0.toUInt32 >>> ((8 : Int32) &&& 31).toUInt32).toInt32) &&& (255 : Int32)).toUInt32.toUInt16.toUInt32.toInt32)), .val (.int ((((p0.toUInt32 >>> ((24 : Int32) &&& 31).toUInt32).toInt32) &&& (255 : Int32)).toUInt32.toUInt16.toUInt32.toInt32))] [(.int (1 : Int32)), (.ref b119), (.ref b119)])) rfl (hb hby own_d_mk_60) rfl (by decide) (cap := 1) (by decide) (by decide) (by decide) (by decide)
      obtain ⟨b120, g120⟩ : ∃ z, z = h119.size := ⟨_, rfl⟩
      rw [← g120] at A120 st120
      have ne120_b119_b120 : b119 ≠ b120 := Nat.ne_of_lt (Nat.lt_of_lt_of_le A119.lt (Nat.le_of_eq g120.symm))
      have V_b120 : Arv Z h120 b120 k120 .char (1 : Int32) [(.int (0 : Int32))] (.int (0 : Int32)) := (Arv.new A120 (by decide)).pad (pad_rep [] (.int (0 : Int32)) 1)
      have szb_b120 : h0.size ≤ b120 := Nat.le_trans EXb119.1 (Nat.le_of_eq g120.symm)
      have g_b120 : n0 ≤ b120 := Nat.le_trans Z119 (Nat.le_of_eq g120.symm)
      have sz_b120 : h0.size ≤ b120 := Nat.le_trans SZ119 (Nat.le_of_eq g120.symm)
      have EX120 : Ext h0 h120 := own_exttr EX119 E120
      have SZ120 : h0.size ≤ h120.size := EX120.1
      have Z120 : n0 ≤ h120.size := Nat.le_trans Z0 SZ120
      have hk120 := Nat.le_trans hk119 E120.1
      have EXb120 : Ext h0 h120 := own_exttr EXb119 E120
      have Vc121 := V_b120
      obtain ⟨cl121, Ar121, q121, S121, N_121, H121, G121⟩ := Vc121
      have hin121 : ¬ ((0 : Int32) < 0 ∨ cl121.slots.size ≤ ((0 : Int32)).toNatClampNeg) := inb_of S121 ⟨by decide, by decide⟩
      obtain ⟨T122, h122, X122, e122, W122, st122⟩ := stC X120 hx hZ e120 Ar121 (j := (0 : Int32)) hin121 (g := (mkF m 65 #[.val (.int p0), .val (.int (((p0.toUInt32 >>> ((16 : Int32) &&& 31).toUInt32).toInt32) &&& (3 : Int32))), .val (.int ((p0 &&& (255 : Int32)).toUInt32.toUInt16.toUInt32.toInt32)), .val (.int ((((p0.toUInt32 >>> ((8 : Int32) &&& 31).toUInt32).toInt32) &&& (255 : Int32)).toUInt32.toUInt16.toUInt32.toInt32)), .val (.int ((((p0.toUInt32 >>> ((24 : Int32) &&& 31).toUInt32).toInt32) &&& (255 : Int32)).toUInt32.toUInt16.toUInt32.toInt32))] [(.int ((p0 &&& (255 : Int32)).toUInt32.toUInt16.toUInt32.toInt32)), (.int (0 : Int32)), (.ref b120), (.ref b120), (.ref b119), (.ref b119)])) rfl rfl (hb hby own_d_mk_65)
      have V_b120_122 : Arv Z h122 b120 k120 .char (1 : Int32) [(.int (nar .char ((p0 &&& (255 : Int32)).toUInt32.toUInt16.toUInt32.toInt32)))] (.int (0 : Int32)) := Arv.set Ar121 q121 S121 N_121 H121 G121 (fits_nar_char _) W122 0 rfl (Nat.le_of_ble_eq_true rfl)
      have N122 := Fr.snoc X122 N0 g_b120
      have EX122 : Ext h0 h122 := own_extwr EX120 W122 sz_b120
      have SZ122 : h0.size ≤ h122.size := EX122.1
      have Z122 : n0 ≤ h122.size := Nat.le_trans Z0 SZ122
      have hk122 := Nat.le_trans hk120 (Keep.of_wr W122).1
      have EXb122 : Ext h0 h122 := own_extwr EXb120 W122 (Nat.le_trans szb_b120 (Nat.le_of_eq rfl))
      have fx124 := ((A119.ext E120).wr W122)
      have fx125 := ((F0_value_b119.ext E120).other W122 (Or.inl ne120_b119_b120))
      have fx126 := ((F0_coder_b119.ext E120).other W122 (Or.inl ne120_b119_b120))
      obtain ⟨_, _, ⟨T123, L123, k123, n123⟩, -, X123, ⟨Lc123, hQ123, l123, y123, z123⟩, st123⟩ := X122.specialBack hx (y := (⟨"java/lang/String", "<init>", "([C)V"⟩ : MethodName)) rfl hown (mvT hZ (ow hw 8 rfl)) (mvT hZ (ow hw 9 rfl)) (mvT hZ (ow hw 10 rfl)) (by decide) (backOf (W := 1) (rm_in1_1 l Z a0' hw [] b119 b120 k120 (nar .char ((p0 &&& (255 : Int32)).toUInt32.toUInt16.toUInt32.toInt32)) kc h122 n0 Z122 fx124 fx125 fx126 g_b119 V_b120_122 ne120_b119_b120 (own_ch _) (S_cs.ext EX122) hkc) hZ (ow hw 10 rfl) (ow hw 6 rfl) (by decide) (by decide)) (g := (mkF m 66 #[.val (.int p0), .val (.int (((p0.toUInt32 >>> ((16 : Int32) &&& 31).toUInt32).toInt32) &&& (3 : Int32))), .val (.int ((p0 &&& (255 : Int32)).toUInt32.toUInt16.toUInt32.toInt32)), .val (.int ((((p0.toUInt32 >>> ((8 : Int32) &&& 31).toUInt32).toInt32) &&& (255 : Int32)).toUInt32.toUInt16.toUInt32.toInt32)), .val (.int ((((p0.toUInt32 >>> ((24 : Int32) &&& 31).toUInt32).toInt32) &&& (255 : Int32)).toUInt32.toUInt16.toUInt32.toInt32))] [(.ref b120), (.ref b119), (.ref b119)])) rfl (by rw [hml]; rfl) (Steps.refl _) (a := b119) (argsL := [(.ref b120)]) (rest := [(.ref b119)]) (lenOf own_pd4 rfl) rfl (by show 2 * 0 + _ ≤ _; exact Nat.le_of_eq rfl) (hb hby own_d_mk_66) (fun _ _ => ⟨rfl, e122, (by decide : 2 + 1 ≤ _), (by decide : 5 + 1 ≤ _)⟩)
      dsimp only [Pt.U, Pt.locs, Pt.cells, Pt.slots] at X123 l123 y123 z123 st123 hQ123
      subst l123 y123 z123
      obtain ⟨rfl, N123q, K123, Ei123, Ci123, bi123, ki123, Fi123, Vi123⟩ := hQ123
      have N123 := Fr.app N122 N123q
      have EX123 : Ext h0 T123.heap := own_extkeep EX122 K123 sz_b119
      have SZ123 : h0.size ≤ T123.heap.size := EX123.1
      have Z123 : n0 ≤ T123.heap.size := Nat.le_trans Z0 SZ123
      have hk123 := Nat.le_trans hk122 K123.1
      have EXb123 : Ext h0 T123.heap := own_extkeep EXb122 K123 szb_b119
      obtain ⟨fs, hr, hrun, hended, hE⟩ := X123.leaveW hS0 hk123 (v := some (.ref b119)) (fun h => by rw [Bd.returns] at h; cases h)
      refine ⟨_, _, pre118 _ ?_, hrun, hended, _, _, rfl, ?_, ?_, own_wmono hE (by decide) (by decide)⟩
      · show Steps p.tables e below (s₁.setTop (mkF m 52 #[.val (.int p0), .val (.int (((p0.toUInt32 >>> ((16 : Int32) &&& 31).toUInt32).toInt32) &&& (3 : Int32))), .val (.int ((p0 &&& (255 : Int32)).toUInt32.toUInt16.toUInt32.toInt32)), .val (.int ((((p0.toUInt32 >>> ((8 : Int32) &&& 31).toUInt32).toInt32) &&& (255 : Int32)).toUInt32.toUInt16.toUInt32.toInt32)), .val (.int ((((p0.toUInt32 >>> ((24 : Int32) &&& 31).toUInt32).toInt32) &&& (255 : Int32)).toUInt32.toUInt16.toUInt32.toInt32))] [(.int (1 : Int32)), (.int (((p0.toUInt32 >>> ((16 : Int32) &&& 31).toUInt32).toInt32) &&& (3 : Int32)))])) _
        refine XS.icmpNo X0.here hx rfl (hb hby own_d_mk_52) rfl (teq hc52_117).2 ?_
        refine st119 _ ?_
        refine XS.dup X119.here hx rfl (hb hby own_d_mk_58) rfl rfl ?_
        refine XS.iconst X119.here hx rfl (hb hby own_d_mk_59) ?_
        refine st120 _ ?_
        refine XS.dup X120.here hx rfl (hb hby own_d_mk_62) rfl rfl ?_
        refine XS.iconst X120.here hx rfl (hb hby own_d_mk_63) ?_
        refine XS.iloadN X120.here hx rfl (hb hby own_d_mk_64) rfl ?_
        refine st122 _ ?_
        refine st123.trans ?_
        exact own_retA X123 hx Bd.returns rfl rfl rfl (hb hby own_d_mk_69) hr
      · show Q_mk Z p0 kc h0 n0 _ T123.heap _
        refine ⟨_, _, ki123, rfl, N123, EX123, sz_b119, Ei123, Ci123, Fi123, ?_⟩
        rw [FB_mk, if_neg hc36_108, if_pos hc52_117]
        exact Vi123
      · show CHr Z own_EL s.vm s.heap T123.vm T123.heap
        rw [hh]
        exact (CH0.trans (CHr.ext EXb123 CH0.1)).trans (CHv.at (s := s) (vm0 := s.vm) X123 hZ hEW (CH0.trans (CHr.ext EXb123 CH0.1)).1)
    · have pre128 : ∀ t, Steps p.tables e below (s₁.setTop (mkF m 72 #[.val (.int p0), .val (.int (((p0.toUInt32 >>> ((16 : Int32) &&& 31).toUInt32).toInt32) &&& (3 : Int32))), .val (.int ((p0 &&& (255 : Int32)).toUInt32.toUInt16.toUInt32.toInt32)), .val (.int ((((p0.toUInt32 >>> ((8 : Int32) &&& 31).toUInt32).toInt32) &&& (255 : Int32)).toUInt32.toUInt16.toUInt32.toInt32)), .val (.int ((((p0.toUInt32 >>> ((24 : Int32) &&& 31).toUInt32).toInt32) &&& (255 : Int32)).toUInt32.toUInt16.toUInt32.toInt32))] [(.int (2 : Int32)), (.int (((p0.toUInt32 >>> ((16 : Int32) &&& 31).toUInt32).toInt32) &&& (3 : Int32)))])) t → Steps p.tables e below (s₁.setTop (entryFrame m #[(.int p0)] 5)) t := fun t k => pre118 t (by
        refine XS.icmpYes X0.here hx rfl (pc0 := 52) (pc' := 70) rfl (hb hby own_d_mk_52) rfl (feq hc52_117).2 (by decide) (by decide) ?_
        refine XS.iloadN X0.here hx rfl (hb hby own_d_mk_70) rfl ?_
        refine XS.iconst X0.here hx rfl (hb hby own_d_mk_71) ?_
        exact k)
      by_cases hc72_127 : (((p0.toUInt32 >>> ((16 : Int32) &&& 31).toUInt32).toInt32) &&& (3 : Int32)) = (2 : Int32)
      · obtain ⟨T129, h129, X129, e129, E129, A129, D129, -, st129⟩ := newO X0 hx hZ hown (ow hw 4 rfl) (ow hw 5 rfl) (ow hw 6 rfl) e0 (g := (mkF m 75 #[.val (.int p0), .val (.int (((p0.toUInt32 >>> ((16 : Int32) &&& 31).toUInt32).toInt32) &&& (3 : Int32))), .val (.int ((p0 &&& (255 : Int32)).toUInt32.toUInt16.toUInt32.toInt32)), .val (.int ((((p0.toUInt32 >>> ((8 : Int32) &&& 31).toUInt32).toInt32) &&& (255 : Int32)).toUInt32.toUInt16.toUInt32.toInt32)), .val (.int ((((p0.toUInt32 >>> ((24 : Int32) &&& 31).toUInt32).toInt32) &&& (255 : Int32)).toUInt32.toUInt16.toUInt32.toInt32))] [])) rfl (hb hby own_d_mk_75) (by decide) (by decide)
        obtain ⟨b129, g129⟩ : ∃ z, z = h0.size := ⟨_, rfl⟩
        rw [← g129] at A129 D129 st129
        have szb_b129 : h0.size ≤ b129 := Nat.le_of_eq g129.symm
        have g_b129 : n0 ≤ b129 := Nat.le_trans Z0 (Nat.le_of_eq g129.symm)
        have sz_b129 : h0.size ≤ b129 := Nat.le_trans (Nat.le_refl _) (Nat.le_of_eq g129.symm)
        have EX129 : Ext h0 h129 := E129
        have SZ129 : h0.size ≤ h129.size := EX129.1
        have Z129 : n0 ≤ h129.size := Nat.le_trans Z0 SZ129
        have hk129 := Nat.le_trans hk0 E129.1
        have EXb129 : Ext h0 h129 := E129
        have F0_value_b129 := D129 (Or.inr (ow hw 20 rfl)) (ty := (.array .byte)) (by decide)
        have F0_coder_b129 := D129 (Or.inr (ow hw 21 rfl)) (ty := .byte) (by decide)
        obtain ⟨T130, h130, k130, X130, e130, E130, A130, st130⟩ := newP X129 hx hZ (ow hw 7 rfl) e129 (g := (mkF m 80 #[.val (.int p0), .val (.int (((p0.toUInt32 >>> ((16 : Int32) &&& 31).toUInt32).toInt32) &&& (3 : Int32))), .val (.int ((p0 &&& (255 : Int32)).toUInt32.toUInt16.toUInt32.toInt32)), .val (.int ((((p0.toUInt32 >>> ((8 : Int32) &&& 31).toUInt32).toInt32) &&& (255 : Int32)).toUInt32.toUInt16.toUInt32.toInt32)), .val (.int ((((p0.toUInt32 >>> ((24 : Int32) &&& 31).toUInt32).toInt32) &&& (255 : Int32)).toUInt32.toUInt16.toUInt32.toInt32))] [(.int (2 : Int32)), (.ref b129), (.ref b129)])) rfl (hb hby own_d_mk_80) rfl (by decide) (cap := 2) (by decide) (by decide) (by decide) (by decide)
        obtain ⟨b130, g130⟩ : ∃ z, z = h129.size := ⟨_, rfl⟩
        rw [← g130] at A130 st130
        have ne130_b129_b130 : b129 ≠ b130 := Nat.ne_of_lt (Nat.lt_of_lt_of_le A129.lt (Nat.le_of_eq g130.symm))
        have V_b130 : Arv Z h130 b130 k130 .char (2 : Int32) [(.int (0 : Int32)), (.int (0 : Int32))] (.int (0 : Int32)) := (Arv.new A130 (by decide)).pad (pad_rep [] (.int (0 : Int32)) 2)
        have szb_b130 : h0.size ≤ b130 := Nat.le_trans EXb129.1 (Nat.le_of_eq g130.symm)
        have g_b130 : n0 ≤ b130 := Nat.le_trans Z129 (Nat.le_of_eq g130.symm)
        have sz_b130 : h0.size ≤ b130 := Nat.le_trans SZ129 (Nat.le_of_eq g130.symm)
        have EX130 : Ext h0 h130 := own_exttr EX129 E130
        have SZ130 : h0.size ≤ h130.size := EX130.1
        have Z130 : n0 ≤ h130.size := Nat.le_trans Z0 SZ130
        have hk130 := Nat.le_trans hk129 E130.1
        have EXb130 : Ext h0 h130 := own_exttr EXb129 E130
        have Vc131 := V_b130
        obtain ⟨cl131, Ar131, q131, S131, N_131, H131, G131⟩ := Vc131
        have hin131 : ¬ ((0 : Int32) < 0 ∨ cl131.slots.size ≤ ((0 : Int32)).toNatClampNeg) := inb_of S131 ⟨by decide, by decide⟩
        obtain ⟨T132, h132, X132, e132, W132, st132⟩ := stC X130 hx hZ e130 Ar131 (j := (0 : Int32)) hin131 (g := (mkF m 85 #[.val (.int p0), .val (.int (((p0.toUInt32 >>> ((16 : Int32) &&& 31).toUInt32).toInt32) &&& (3 : Int32))), .val (.int ((p0 &&& (255 : Int32)).toUInt32.toUInt16.toUInt32.toInt32)), .val (.int ((((p0.toUInt32 >>> ((8 : Int32) &&& 31).toUInt32).toInt32) &&& (255 : Int32)).toUInt32.toUInt16.toUInt32.toInt32)), .val (.int ((((p0.toUInt32 >>> ((24 : Int32) &&& 31).toUInt32).toInt32) &&& (255 : Int32)).toUInt32.toUInt16.toUInt32.toInt32))] [(.int ((p0 &&& (255 : Int32)).toUInt32.toUInt16.toUInt32.toInt32)), (.int (0 : Int32)), (.ref b130), (.ref b130), (.ref b129), (.ref b129)])) rfl rfl (hb hby own_d_mk_85)
        have V_b130_132 : Arv Z h132 b130 k130 .char (2 : Int32) [(.int (nar .char ((p0 &&& (255 : Int32)).toUInt32.toUInt16.toUInt32.toInt32))), (.int (0 : Int32))] (.int (0 : Int32)) := Arv.set Ar131 q131 S131 N_131 H131 G131 (fits_nar_char _) W132 0 rfl (Nat.le_of_ble_eq_true rfl)
        have N132 := Fr.snoc X132 N0 g_b130
        have EX132 : Ext h0 h132 := own_extwr EX130 W132 sz_b130
        have SZ132 : h0.size ≤ h132.size := EX132.1
        have Z132 : n0 ≤ h132.size := Nat.le_trans Z0 SZ132
        have hk132 := Nat.le_trans hk130 (Keep.of_wr W132).1
        have EXb132 : Ext h0 h132 := own_extwr EXb130 W132 (Nat.le_trans szb_b130 (Nat.le_of_eq rfl))
        have Vc133 := V_b130_132
        obtain ⟨cl133, Ar133, q133, S133, N_133, H133, G133⟩ := Vc133
        have hin133 : ¬ ((1 : Int32) < 0 ∨ cl133.slots.size ≤ ((1 : Int32)).toNatClampNeg) := inb_of S133 ⟨by decide, by decide⟩
        obtain ⟨T134, h134, X134, e134, W134, st134⟩ := stC X132 hx hZ e132 Ar133 (j := (1 : Int32)) hin133 (g := (mkF m 89 #[.val (.int p0), .val (.int (((p0.toUInt32 >>> ((16 : Int32) &&& 31).toUInt32).toInt32) &&& (3 : Int32))), .val (.int ((p0 &&& (255 : Int32)).toUInt32.toUInt16.toUInt32.toInt32)), .val (.int ((((p0.toUInt32 >>> ((8 : Int32) &&& 31).toUInt32).toInt32) &&& (255 : Int32)).toUInt32.toUInt16.toUInt32.toInt32)), .val (.int ((((p0.toUInt32 >>> ((24 : Int32) &&& 31).toUInt32).toInt32) &&& (255 : Int32)).toUInt32.toUInt16.toUInt32.toInt32))] [(.int ((((p0.toUInt32 >>> ((8 : Int32) &&& 31).toUInt32).toInt32) &&& (255 : Int32)).toUInt32.toUInt16.toUInt32.toInt32)), (.int (1 : Int32)), (.ref b130), (.ref b130), (.ref b129), (.ref b129)])) rfl rfl (hb hby own_d_mk_89)
        have V_b130_134 : Arv Z h134 b130 k130 .char (2 : Int32) [(.int (nar .char ((p0 &&& (255 : Int32)).toUInt32.toUInt16.toUInt32.toInt32))), (.int (nar .char ((((p0.toUInt32 >>> ((8 : Int32) &&& 31).toUInt32).toInt32) &&& (255 : Int32)).toUInt32.toUInt16.toUInt32.toInt32)))] (.int (0 : Int32)) := Arv.set Ar133 q133 S133 N_133 H133 G133 (fits_nar_char _) W134 1 rfl (Nat.le_of_ble_eq_true rfl)
        have N134 := Fr.snoc X134 N132 g_b130
        have EX134 : Ext h0 h134 := own_extwr EX132 W134 sz_b130
        have SZ134 : h0.size ≤ h134.size := EX134.1
        have Z134 : n0 ≤ h134.size := Nat.le_trans Z0 SZ134
        have hk134 := Nat.le_trans hk132 (Keep.of_wr W134).1
        have EXb134 : Ext h0 h134 := own_extwr EXb132 W134 (Nat.le_trans szb_b130 (Nat.le_of_eq rfl))
        have fx136 := (((A129.ext E130).wr W132).wr W134)
        have fx137 := (((F0_value_b129.ext E130).other W132 (Or.inl ne130_b129_b130)).other W134 (Or.inl ne130_b129_b130))
        have fx138 := (((F0_coder_b129.ext E130).other W132 (Or.inl ne130_b129_b130)).other W134 (Or.inl ne130_b129_b130))
        obtain ⟨_, _, ⟨T135, L135, k135, n135⟩, -, X135, ⟨Lc135, hQ135, l135, y135, z135⟩, st135⟩ := X134.specialBack hx (y := (⟨"java/lang/String", "<init>", "([C)V"⟩ : MethodName)) rfl hown (mvT hZ (ow hw 8 rfl)) (mvT hZ (ow hw 9 rfl)) (mvT hZ (ow hw 10 rfl)) (by decide) (backOf (W := 1) (rm_in1_2 l Z a0' hw [] b129 b130 k130 (nar .char ((p0 &&& (255 : Int32)).toUInt32.toUInt16.toUInt32.toInt32)) (nar .char ((((p0.toUInt32 >>> ((8 : Int32) &&& 31).toUInt32).toInt32) &&& (255 : Int32)).toUInt32.toUInt16.toUInt32.toInt32)) kc h134 n0 Z134 fx136 fx137 fx138 g_b129 V_b130_134 ne130_b129_b130 (own_ch _) (own_ch _) (S_cs.ext EX134) hkc) hZ (ow hw 10 rfl) (ow hw 6 rfl) (by decide) (by decide)) (g := (mkF m 90 #[.val (.int p0), .val (.int (((p0.toUInt32 >>> ((16 : Int32) &&& 31).toUInt32).toInt32) &&& (3 : Int32))), .val (.int ((p0 &&& (255 : Int32)).toUInt32.toUInt16.toUInt32.toInt32)), .val (.int ((((p0.toUInt32 >>> ((8 : Int32) &&& 31).toUInt32).toInt32) &&& (255 : Int32)).toUInt32.toUInt16.toUInt32.toInt32)), .val (.int ((((p0.toUInt32 >>> ((24 : Int32) &&& 31).toUInt32).toInt32) &&& (255 : Int32)).toUInt32.toUInt16.toUInt32.toInt32))] [(.ref b130), (.ref b129), (.ref b129)])) rfl (by rw [hml]; rfl) (Steps.refl _) (a := b129) (argsL := [(.ref b130)]) (rest := [(.ref b129)]) (lenOf own_pd4 rfl) rfl (by show 2 * 0 + _ ≤ _; exact Nat.le_of_eq rfl) (hb hby own_d_mk_90) (fun _ _ => ⟨rfl, e134, (by decide : 2 + 1 ≤ _), (by decide : 6 + 2 ≤ _)⟩)
        dsimp only [Pt.U, Pt.locs, Pt.cells, Pt.slots] at X135 l135 y135 z135 st135 hQ135
        subst l135 y135 z135
        obtain ⟨rfl, N135q, K135, Ei135, Ci135, bi135, ki135, Fi135, Vi135⟩ := hQ135
        have N135 := Fr.app N134 N135q
        have EX135 : Ext h0 T135.heap := own_extkeep EX134 K135 sz_b129
        have SZ135 : h0.size ≤ T135.heap.size := EX135.1
        have Z135 : n0 ≤ T135.heap.size := Nat.le_trans Z0 SZ135
        have hk135 := Nat.le_trans hk134 K135.1
        have EXb135 : Ext h0 T135.heap := own_extkeep EXb134 K135 szb_b129
        obtain ⟨fs, hr, hrun, hended, hE⟩ := X135.leaveW hS0 hk135 (v := some (.ref b129)) (fun h => by rw [Bd.returns] at h; cases h)
        refine ⟨_, _, pre128 _ ?_, hrun, hended, _, _, rfl, ?_, ?_, own_wmono hE (by decide) (by decide)⟩
        · show Steps p.tables e below (s₁.setTop (mkF m 72 #[.val (.int p0), .val (.int (((p0.toUInt32 >>> ((16 : Int32) &&& 31).toUInt32).toInt32) &&& (3 : Int32))), .val (.int ((p0 &&& (255 : Int32)).toUInt32.toUInt16.toUInt32.toInt32)), .val (.int ((((p0.toUInt32 >>> ((8 : Int32) &&& 31).toUInt32).toInt32) &&& (255 : Int32)).toUInt32.toUInt16.toUInt32.toInt32)), .val (.int ((((p0.toUInt32 >>> ((24 : Int32) &&& 31).toUInt32).toInt32) &&& (255 : Int32)).toUInt32.toUInt16.toUInt32.toInt32))] [(.int (2 : Int32)), (.int (((p0.toUInt32 >>> ((16 : Int32) &&& 31).toUInt32).toInt32) &&& (3 : Int32)))])) _
          refine XS.icmpNo X0.here hx rfl (hb hby own_d_mk_72) rfl (teq hc72_127).2 ?_
          refine st129 _ ?_
          refine XS.dup X129.here hx rfl (hb hby own_d_mk_78) rfl rfl ?_
          refine XS.iconst X129.here hx rfl (hb hby own_d_mk_79) ?_
          refine st130 _ ?_
          refine XS.dup X130.here hx rfl (hb hby own_d_mk_82) rfl rfl ?_
          refine XS.iconst X130.here hx rfl (hb hby own_d_mk_83) ?_
          refine XS.iloadN X130.here hx rfl (hb hby own_d_mk_84) rfl ?_
          refine st132 _ ?_
          refine XS.dup X132.here hx rfl (hb hby own_d_mk_86) rfl rfl ?_
          refine XS.iconst X132.here hx rfl (hb hby own_d_mk_87) ?_
          refine XS.iloadN X132.here hx rfl (hb hby own_d_mk_88) rfl ?_
          refine st134 _ ?_
          refine st135.trans ?_
          exact own_retA X135 hx Bd.returns rfl rfl rfl (hb hby own_d_mk_93) hr
        · show Q_mk Z p0 kc h0 n0 _ T135.heap _
          refine ⟨_, _, ki135, rfl, N135, EX135, sz_b129, Ei135, Ci135, Fi135, ?_⟩
          rw [FB_mk, if_neg hc36_108, if_neg hc52_117, if_pos hc72_127]
          exact Vi135
        · show CHr Z own_EL s.vm s.heap T135.vm T135.heap
          rw [hh]
          exact (CH0.trans (CHr.ext EXb135 CH0.1)).trans (CHv.at (s := s) (vm0 := s.vm) X135 hZ hEW (CH0.trans (CHr.ext EXb135 CH0.1)).1)
      · obtain ⟨T139, h139, X139, e139, E139, A139, D139, -, st139⟩ := newO X0 hx hZ hown (ow hw 4 rfl) (ow hw 5 rfl) (ow hw 6 rfl) e0 (g := (mkF m 94 #[.val (.int p0), .val (.int (((p0.toUInt32 >>> ((16 : Int32) &&& 31).toUInt32).toInt32) &&& (3 : Int32))), .val (.int ((p0 &&& (255 : Int32)).toUInt32.toUInt16.toUInt32.toInt32)), .val (.int ((((p0.toUInt32 >>> ((8 : Int32) &&& 31).toUInt32).toInt32) &&& (255 : Int32)).toUInt32.toUInt16.toUInt32.toInt32)), .val (.int ((((p0.toUInt32 >>> ((24 : Int32) &&& 31).toUInt32).toInt32) &&& (255 : Int32)).toUInt32.toUInt16.toUInt32.toInt32))] [])) rfl (hb hby own_d_mk_94) (by decide) (by decide)
        obtain ⟨b139, g139⟩ : ∃ z, z = h0.size := ⟨_, rfl⟩
        rw [← g139] at A139 D139 st139
        have szb_b139 : h0.size ≤ b139 := Nat.le_of_eq g139.symm
        have g_b139 : n0 ≤ b139 := Nat.le_trans Z0 (Nat.le_of_eq g139.symm)
        have sz_b139 : h0.size ≤ b139 := Nat.le_trans (Nat.le_refl _) (Nat.le_of_eq g139.symm)
        have EX139 : Ext h0 h139 := E139
        have SZ139 : h0.size ≤ h139.size := EX139.1
        have Z139 : n0 ≤ h139.size := Nat.le_trans Z0 SZ139
        have hk139 := Nat.le_trans hk0 E139.1
        have EXb139 : Ext h0 h139 := E139
        have F0_value_b139 := D139 (Or.inr (ow hw 20 rfl)) (ty := (.array .byte)) (by decide)
        have F0_coder_b139 := D139 (Or.inr (ow hw 21 rfl)) (ty := .byte) (by decide)
        obtain ⟨T140, h140, k140, X140, e140, E140, A140, st140⟩ := newP X139 hx hZ (ow hw 7 rfl) e139 (g := (mkF m 99 #[.val (.int p0), .val (.int (((p0.toUInt32 >>> ((16 : Int32) &&& 31).toUInt32).toInt32) &&& (3 : Int32))), .val (.int ((p0 &&& (255 : Int32)).toUInt32.toUInt16.toUInt32.toInt32)), .val (.int ((((p0.toUInt32 >>> ((8 : Int32) &&& 31).toUInt32).toInt32) &&& (255 : Int32)).toUInt32.toUInt16.toUInt32.toInt32)), .val (.int ((((p0.toUInt32 >>> ((24 : Int32) &&& 31).toUInt32).toInt32) &&& (255 : Int32)).toUInt32.toUInt16.toUInt32.toInt32))] [(.int (3 : Int32)), (.ref b139), (.ref b139)])) rfl (hb hby own_d_mk_99) rfl (by decide) (cap := 3) (by decide) (by decide) (by decide) (by decide)
        obtain ⟨b140, g140⟩ : ∃ z, z = h139.size := ⟨_, rfl⟩
        rw [← g140] at A140 st140
        have ne140_b139_b140 : b139 ≠ b140 := Nat.ne_of_lt (Nat.lt_of_lt_of_le A139.lt (Nat.le_of_eq g140.symm))
        have V_b140 : Arv Z h140 b140 k140 .char (3 : Int32) [(.int (0 : Int32)), (.int (0 : Int32)), (.int (0 : Int32))] (.int (0 : Int32)) := (Arv.new A140 (by decide)).pad (pad_rep [] (.int (0 : Int32)) 3)
        have szb_b140 : h0.size ≤ b140 := Nat.le_trans EXb139.1 (Nat.le_of_eq g140.symm)
        have g_b140 : n0 ≤ b140 := Nat.le_trans Z139 (Nat.le_of_eq g140.symm)
        have sz_b140 : h0.size ≤ b140 := Nat.le_trans SZ139 (Nat.le_of_eq g140.symm)
        have EX140 : Ext h0 h140 := own_exttr EX139 E140
        have SZ140 : h0.size ≤ h140.size := EX140.1
        have Z140 : n0 ≤ h140.size := Nat.le_trans Z0 SZ140
        have hk140 := Nat.le_trans hk139 E140.1
        have EXb140 : Ext h0 h140 := own_exttr EXb139 E140
        have Vc141 := V_b140
        obtain ⟨cl141, Ar141, q141, S141, N_141, H141, G141⟩ := Vc141
        have hin141 : ¬ ((0 : Int32) < 0 ∨ cl141.slots.size ≤ ((0 : Int32)).toNatClampNeg) := inb_of S141 ⟨by decide, by decide⟩
        obtain ⟨T142, h142, X142, e142, W142, st142⟩ := stC X140 hx hZ e140 Ar141 (j := (0 : Int32)) hin141 (g := (mkF m 104 #[.val (.int p0), .val (.int (((p0.toUInt32 >>> ((16 : Int32) &&& 31).toUInt32).toInt32) &&& (3 : Int32))), .val (.int ((p0 &&& (255 : Int32)).toUInt32.toUInt16.toUInt32.toInt32)), .val (.int ((((p0.toUInt32 >>> ((8 : Int32) &&& 31).toUInt32).toInt32) &&& (255 : Int32)).toUInt32.toUInt16.toUInt32.toInt32)), .val (.int ((((p0.toUInt32 >>> ((24 : Int32) &&& 31).toUInt32).toInt32) &&& (255 : Int32)).toUInt32.toUInt16.toUInt32.toInt32))] [(.int ((p0 &&& (255 : Int32)).toUInt32.toUInt16.toUInt32.toInt32)), (.int (0 : Int32)), (.ref b140), (.ref b140), (.ref b139), (.ref b139)])) rfl rfl (hb hby own_d_mk_104)
        have V_b140_142 : Arv Z h142 b140 k140 .char (3 : Int32) [(.int (nar .char ((p0 &&& (255 : Int32)).toUInt32.toUInt16.toUInt32.toInt32))), (.int (0 : Int32)), (.int (0 : Int32))] (.int (0 : Int32)) := Arv.set Ar141 q141 S141 N_141 H141 G141 (fits_nar_char _) W142 0 rfl (Nat.le_of_ble_eq_true rfl)
        have N142 := Fr.snoc X142 N0 g_b140
        have EX142 : Ext h0 h142 := own_extwr EX140 W142 sz_b140
        have SZ142 : h0.size ≤ h142.size := EX142.1
        have Z142 : n0 ≤ h142.size := Nat.le_trans Z0 SZ142
        have hk142 := Nat.le_trans hk140 (Keep.of_wr W142).1
        have EXb142 : Ext h0 h142 := own_extwr EXb140 W142 (Nat.le_trans szb_b140 (Nat.le_of_eq rfl))
        have Vc143 := V_b140_142
        obtain ⟨cl143, Ar143, q143, S143, N_143, H143, G143⟩ := Vc143
        have hin143 : ¬ ((1 : Int32) < 0 ∨ cl143.slots.size ≤ ((1 : Int32)).toNatClampNeg) := inb_of S143 ⟨by decide, by decide⟩
        obtain ⟨T144, h144, X144, e144, W144, st144⟩ := stC X142 hx hZ e142 Ar143 (j := (1 : Int32)) hin143 (g := (mkF m 108 #[.val (.int p0), .val (.int (((p0.toUInt32 >>> ((16 : Int32) &&& 31).toUInt32).toInt32) &&& (3 : Int32))), .val (.int ((p0 &&& (255 : Int32)).toUInt32.toUInt16.toUInt32.toInt32)), .val (.int ((((p0.toUInt32 >>> ((8 : Int32) &&& 31).toUInt32).toInt32) &&& (255 : Int32)).toUInt32.toUInt16.toUInt32.toInt32)), .val (.int ((((p0.toUInt32 >>> ((24 : Int32) &&& 31).toUInt32).toInt32) &&& (255 : Int32)).toUInt32.toUInt16.toUInt32.toInt32))] [(.int ((((p0.toUInt32 >>> ((8 : Int32) &&& 31).toUInt32).toInt32) &&& (255 : Int32)).toUInt32.toUInt16.toUInt32.toInt32)), (.int (1 : Int32)), (.ref b140), (.ref b140), (.ref b139), (.ref b139)])) rfl rfl (hb hby own_d_mk_108)
        have V_b140_144 : Arv Z h144 b140 k140 .char (3 : Int32) [(.int (nar .char ((p0 &&& (255 : Int32)).toUInt32.toUInt16.toUInt32.toInt32))), (.int (nar .char ((((p0.toUInt32 >>> ((8 : Int32) &&& 31).toUInt32).toInt32) &&& (255 : Int32)).toUInt32.toUInt16.toUInt32.toInt32))), (.int (0 : Int32))] (.int (0 : Int32)) := Arv.set Ar143 q143 S143 N_143 H143 G143 (fits_nar_char _) W144 1 rfl (Nat.le_of_ble_eq_true rfl)
        have N144 := Fr.snoc X144 N142 g_b140
        have EX144 : Ext h0 h144 := own_extwr EX142 W144 sz_b140
        have SZ144 : h0.size ≤ h144.size := EX144.1
        have Z144 : n0 ≤ h144.size := Nat.le_trans Z0 SZ144
        have hk144 := Nat.le_trans hk142 (Keep.of_wr W144).1
        have EXb144 : Ext h0 h144 := own_extwr EXb142 W144 (Nat.le_trans szb_b140 (Nat.le_of_eq rfl))
        have Vc145 := V_b140_144
        obtain ⟨cl145, Ar145, q145, S145, N_145, H145, G145⟩ := Vc145
        have hin145 : ¬ ((2 : Int32) < 0 ∨ cl145.slots.size ≤ ((2 : Int32)).toNatClampNeg) := inb_of S145 ⟨by decide, by decide⟩
        obtain ⟨T146, h146, X146, e146, W146, st146⟩ := stC X144 hx hZ e144 Ar145 (j := (2 : Int32)) hin145 (g := (mkF m 113 #[.val (.int p0), .val (.int (((p0.toUInt32 >>> ((16 : Int32) &&& 31).toUInt32).toInt32) &&& (3 : Int32))), .val (.int ((p0 &&& (255 : Int32)).toUInt32.toUInt16.toUInt32.toInt32)), .val (.int ((((p0.toUInt32 >>> ((8 : Int32) &&& 31).toUInt32).toInt32) &&& (255 : Int32)).toUInt32.toUInt16.toUInt32.toInt32)), .val (.int ((((p0.toUInt32 >>> ((24 : Int32) &&& 31).toUInt32).toInt32) &&& (255 : Int32)).toUInt32.toUInt16.toUInt32.toInt32))] [(.int ((((p0.toUInt32 >>> ((24 : Int32) &&& 31).toUInt32).toInt32) &&& (255 : Int32)).toUInt32.toUInt16.toUInt32.toInt32)), (.int (2 : Int32)), (.ref b140), (.ref b140), (.ref b139), (.ref b139)])) rfl rfl (hb hby own_d_mk_113)
        have V_b140_146 : Arv Z h146 b140 k140 .char (3 : Int32) [(.int (nar .char ((p0 &&& (255 : Int32)).toUInt32.toUInt16.toUInt32.toInt32))), (.int (nar .char ((((p0.toUInt32 >>> ((8 : Int32) &&& 31).toUInt32).toInt32) &&& (255 : Int32)).toUInt32.toUInt16.toUInt32.toInt32))), (.int (nar .char ((((p0.toUInt32 >>> ((24 : Int32) &&& 31).toUInt32).toInt32) &&& (255 : Int32)).toUInt32.toUInt16.toUInt32.toInt32)))] (.int (0 : Int32)) := Arv.set Ar145 q145 S145 N_145 H145 G145 (fits_nar_char _) W146 2 rfl (Nat.le_of_ble_eq_true rfl)
        have N146 := Fr.snoc X146 N144 g_b140
        have EX146 : Ext h0 h146 := own_extwr EX144 W146 sz_b140
        have SZ146 : h0.size ≤ h146.size := EX146.1
        have Z146 : n0 ≤ h146.size := Nat.le_trans Z0 SZ146
        have hk146 := Nat.le_trans hk144 (Keep.of_wr W146).1
        have EXb146 : Ext h0 h146 := own_extwr EXb144 W146 (Nat.le_trans szb_b140 (Nat.le_of_eq rfl))
        have fx148 := ((((A139.ext E140).wr W142).wr W144).wr W146)
        have fx149 := ((((F0_value_b139.ext E140).other W142 (Or.inl ne140_b139_b140)).other W144 (Or.inl ne140_b139_b140)).other W146 (Or.inl ne140_b139_b140))
        have fx150 := ((((F0_coder_b139.ext E140).other W142 (Or.inl ne140_b139_b140)).other W144 (Or.inl ne140_b139_b140)).other W146 (Or.inl ne140_b139_b140))
        obtain ⟨_, _, ⟨T147, L147, k147, n147⟩, -, X147, ⟨Lc147, hQ147, l147, y147, z147⟩, st147⟩ := X146.specialBack hx (y := (⟨"java/lang/String", "<init>", "([C)V"⟩ : MethodName)) rfl hown (mvT hZ (ow hw 8 rfl)) (mvT hZ (ow hw 9 rfl)) (mvT hZ (ow hw 10 rfl)) (by decide) (backOf (W := 1) (rm_in1_3 l Z a0' hw [] b139 b140 k140 (nar .char ((p0 &&& (255 : Int32)).toUInt32.toUInt16.toUInt32.toInt32)) (nar .char ((((p0.toUInt32 >>> ((8 : Int32) &&& 31).toUInt32).toInt32) &&& (255 : Int32)).toUInt32.toUInt16.toUInt32.toInt32)) (nar .char ((((p0.toUInt32 >>> ((24 : Int32) &&& 31).toUInt32).toInt32) &&& (255 : Int32)).toUInt32.toUInt16.toUInt32.toInt32)) kc h146 n0 Z146 fx148 fx149 fx150 g_b139 V_b140_146 ne140_b139_b140 (own_ch _) (own_ch _) (own_ch _) (S_cs.ext EX146) hkc) hZ (ow hw 10 rfl) (ow hw 6 rfl) (by decide) (by decide)) (g := (mkF m 114 #[.val (.int p0), .val (.int (((p0.toUInt32 >>> ((16 : Int32) &&& 31).toUInt32).toInt32) &&& (3 : Int32))), .val (.int ((p0 &&& (255 : Int32)).toUInt32.toUInt16.toUInt32.toInt32)), .val (.int ((((p0.toUInt32 >>> ((8 : Int32) &&& 31).toUInt32).toInt32) &&& (255 : Int32)).toUInt32.toUInt16.toUInt32.toInt32)), .val (.int ((((p0.toUInt32 >>> ((24 : Int32) &&& 31).toUInt32).toInt32) &&& (255 : Int32)).toUInt32.toUInt16.toUInt32.toInt32))] [(.ref b140), (.ref b139), (.ref b139)])) rfl (by rw [hml]; rfl) (Steps.refl _) (a := b139) (argsL := [(.ref b140)]) (rest := [(.ref b139)]) (lenOf own_pd4 rfl) rfl (by show 2 * 0 + _ ≤ _; exact Nat.le_of_eq rfl) (hb hby own_d_mk_114) (fun _ _ => ⟨rfl, e146, (by decide : 2 + 1 ≤ _), (by decide : 7 + 3 ≤ _)⟩)
        dsimp only [Pt.U, Pt.locs, Pt.cells, Pt.slots] at X147 l147 y147 z147 st147 hQ147
        subst l147 y147 z147
        obtain ⟨rfl, N147q, K147, Ei147, Ci147, bi147, ki147, Fi147, Vi147⟩ := hQ147
        have N147 := Fr.app N146 N147q
        have EX147 : Ext h0 T147.heap := own_extkeep EX146 K147 sz_b139
        have SZ147 : h0.size ≤ T147.heap.size := EX147.1
        have Z147 : n0 ≤ T147.heap.size := Nat.le_trans Z0 SZ147
        have hk147 := Nat.le_trans hk146 K147.1
        have EXb147 : Ext h0 T147.heap := own_extkeep EXb146 K147 szb_b139
        obtain ⟨fs, hr, hrun, hended, hE⟩ := X147.leaveW hS0 hk147 (v := some (.ref b139)) (fun h => by rw [Bd.returns] at h; cases h)
        refine ⟨_, _, pre128 _ ?_, hrun, hended, _, _, rfl, ?_, ?_, own_wmono hE (by decide) (by decide)⟩
        · show Steps p.tables e below (s₁.setTop (mkF m 72 #[.val (.int p0), .val (.int (((p0.toUInt32 >>> ((16 : Int32) &&& 31).toUInt32).toInt32) &&& (3 : Int32))), .val (.int ((p0 &&& (255 : Int32)).toUInt32.toUInt16.toUInt32.toInt32)), .val (.int ((((p0.toUInt32 >>> ((8 : Int32) &&& 31).toUInt32).toInt32) &&& (255 : Int32)).toUInt32.toUInt16.toUInt32.toInt32)), .val (.int ((((p0.toUInt32 >>> ((24 : Int32) &&& 31).toUInt32).toInt32) &&& (255 : Int32)).toUInt32.toUInt16.toUInt32.toInt32))] [(.int (2 : Int32)), (.int (((p0.toUInt32 >>> ((16 : Int32) &&& 31).toUInt32).toInt32) &&& (3 : Int32)))])) _
          refine XS.icmpYes X0.here hx rfl (pc0 := 72) (pc' := 94) rfl (hb hby own_d_mk_72) rfl (feq hc72_127).2 (by decide) (by decide) ?_
          refine st139 _ ?_
          refine XS.dup X139.here hx rfl (hb hby own_d_mk_97) rfl rfl ?_
          refine XS.iconst X139.here hx rfl (hb hby own_d_mk_98) ?_
          refine st140 _ ?_
          refine XS.dup X140.here hx rfl (hb hby own_d_mk_101) rfl rfl ?_
          refine XS.iconst X140.here hx rfl (hb hby own_d_mk_102) ?_
          refine XS.iloadN X140.here hx rfl (hb hby own_d_mk_103) rfl ?_
          refine st142 _ ?_
          refine XS.dup X142.here hx rfl (hb hby own_d_mk_105) rfl rfl ?_
          refine XS.iconst X142.here hx rfl (hb hby own_d_mk_106) ?_
          refine XS.iloadN X142.here hx rfl (hb hby own_d_mk_107) rfl ?_
          refine st144 _ ?_
          refine XS.dup X144.here hx rfl (hb hby own_d_mk_109) rfl rfl ?_
          refine XS.iconst X144.here hx rfl (hb hby own_d_mk_110) ?_
          refine XS.iload X144.here hx rfl (hb hby own_d_mk_111) rfl ?_
          refine st146 _ ?_
          refine st147.trans ?_
          exact own_retA X147 hx Bd.returns rfl rfl rfl (hb hby own_d_mk_117) hr
        · show Q_mk Z p0 kc h0 n0 _ T147.heap _
          refine ⟨_, _, ki147, rfl, N147, EX147, sz_b139, Ei147, Ci147, Fi147, ?_⟩
          rw [FB_mk, if_neg hc36_108, if_neg hc52_117, if_neg hc72_127]
          exact Vi147
        · show CHr Z own_EL s.vm s.heap T147.vm T147.heap
          rw [hh]
          exact (CH0.trans (CHr.ext EXb147 CH0.1)).trans (CHv.at (s := s) (vm0 := s.vm) X147 hZ hEW (CH0.trans (CHr.ext EXb147 CH0.1)).1)
theorem own_pn3 : plainName "java/lang/StringLatin1" = true := by first | (simp [plainName, overriddenIn]; done) | decide +kernel
theorem own_d_leq0_0 : decode jdk_43_method_13_code 0 = .ok (.aload_n 0, 1) := by decide +kernel
theorem own_d_leq0_1 : decode jdk_43_method_13_code 1 = .ok (.arraylength, 1) := by decide +kernel
theorem own_d_leq0_2 : decode jdk_43_method_13_code 2 = .ok (.aload_n 1, 1) := by decide +kernel
theorem own_d_leq0_3 : decode jdk_43_method_13_code 3 = .ok (.arraylength, 1) := by decide +kernel
theorem own_d_leq0_4 : decode jdk_43_method_13_code 4 = .ok (.if_icmp .ne 30, 3) := by decide +kernel
theorem own_d_leq0_7 : decode jdk_43_method_13_code 7 = .ok (.iconst 0, 1) := by decide +kernel
theorem own_d_leq0_8 : decode jdk_43_method_13_code 8 = .ok (.istore_n 2, 1) := by decide +kernel
theorem own_d_leq0_9 : decode jdk_43_method_13_code 9 = .ok (.iload_n 2, 1) := by decide +kernel
theorem own_d_leq0_10 : decode jdk_43_method_13_code 10 = .ok (.aload_n 0, 1) := by decide +kernel
theorem own_d_leq0_11 : decode jdk_43_method_13_code 11 = .ok (.arraylength, 1) := by decide +kernel
theorem own_d_leq0_12 : decode jdk_43_method_13_code 12 = .ok (.if_icmp .ge 20, 3) := by decide +kernel
theorem own_d_leq0_32 : decode jdk_43_method_13_code 32 = .ok (.iconst 1, 1) := by decide +kernel
theorem own_d_leq0_33 : decode jdk_43_method_13_code 33 = .ok (.ireturn, 1) := by decide +kernel
def F_leq0  : Int32 := (1 : Int32)
theorem own_ef_leq0 (m : MethodId) (a0 : Addr) (a1 : Addr) : entryFrame m #[(.ref a0), (.ref a1)] 3 = mkF m 0 #[.val (.ref a0), .val (.ref a1), .unset] [] := by first | (simp [entryFrame, mkF, argsToLocals, Value.category]; done) | rfl
def Q_leq0 (Z : State) (a0 : Addr) (a1 : Addr) (k0 : ClassId) (k1 : ClassId) (h0 : Heap) (n0 : Nat) (v : Option Value) (h : Heap) (L : List Loc) : Prop := v = some (.int F_leq0) ∧ Fr n0 L ∧ h = h0
set_option maxRecDepth 65536 in
set_option maxHeartbeats 40000000 in
theorem rm_leq0 (l : Launch) (Z : State) (a0' : Array Value) (hw : ∀ d ∈ tables_1, d.before a0' Z = true) (ws : List Jvm.Cond) (a0 : Addr) (a1 : Addr) (k0 : ClassId) (k1 : ClassId) (h0 : Heap) (n0 : Nat) (Z0 : n0 ≤ h0.size) (W0 : Arv Z h0 a0 k0 .byte (0 : Int32) [] (.int 0)) (W1 : Arv Z h0 a1 k1 .byte (0 : Int32) [] (.int 0)) :
    MetFree l (⟨"java/lang/StringLatin1", "equals", "([B[B)Z"⟩ : MethodName) (head1 (Jvm.Cond.code (⟨"java/lang/StringLatin1", "equals", "([B[B)Z"⟩ : MethodName) jdk_43_method_13_code 3 (some .boolean) :: ws) ({ frames := 0, cells := 0, slots := 0, locals := 0 } : Room)) (fun a U => a = #[(.ref a0), (.ref a1)] ∧ Z.Warmed39 U.vm ∧ U.heap = h0) (fun _ _ _ _ _ => True) (fun _ U o U' => ∃ v L, o = .returned v ∧ Q_leq0 Z a0 a1 k0 k1 h0 n0 v U'.heap L ∧ FrameEnd U o U' L ({ frames := 0, cells := 0, slots := 0, locals := 0 } : Room).cells ({ frames := 0, cells := 0, slots := 0, locals := 0 } : Room).slots) := by
  refine MetFree.of_bodySF (plainFor_of_name own_pn3) hisR ?_
  intro p e s m args below meth c s₁ Bd hml0 hP hK
  obtain ⟨rfl, hZ, hh⟩ := hP
  have hx := Bd.exec
  have hby := Bd.bytes
  have hml : c.maxLocals = 3 := hml0
  have hown : s.vm.findClass "java/lang/StringLatin1" = some m.cls := findClass_of_methodNamed Bd.named
  have hnm := (name_of_methodNamed Bd.named Bd.method).1
  have X0 : Stand p l e ({ frames := 0, cells := 0, slots := 0, locals := 0 } : Room) s m #[(.ref a0), (.ref a1)] below meth c s₁ [] 0 0 := Stand.of_body Bd
  have e0 : s₁.heap = h0 := by rw [← hh, Bd.state]; rfl
  have N0 := Fr.nil n0
  have pre0 : ∀ t, Steps p.tables e below (s₁.setTop (mkF m 0 #[.val (.ref a0), .val (.ref a1), .unset] [])) t → Steps p.tables e below (s₁.setTop (entryFrame m #[(.ref a0), (.ref a1)] 3)) t := fun t k => castTop (own_ef_leq0 m a0 a1) k
  have Vc151 := W0
  obtain ⟨cl151, Ar151, q151, S151, N_151, H151, G151⟩ := Vc151
  have Vc152 := W1
  obtain ⟨cl152, Ar152, q152, S152, N_152, H152, G152⟩ := Vc152
  have Vc153 := W0
  obtain ⟨cl153, Ar153, q153, S153, N_153, H153, G153⟩ := Vc153
  obtain ⟨fs, hr, hrun, hended, hW, hsame⟩ := X0.leave (v := some (.int (1 : Int32))) (fun h => by rw [Bd.returns] at h; cases h)
  refine ⟨_, _, pre0 _ ?_, hrun, hended, _, _, rfl, ?_, ⟨_, rfl⟩, hW, hsame.mono (by decide) (by decide)⟩
  · show Steps p.tables e below (s₁.setTop (mkF m 0 #[.val (.ref a0), .val (.ref a1), .unset] [])) _
    refine XS.aloadN X0.here hx rfl (hb hby own_d_leq0_0) rfl rfl ?_
    refine X0.arraylength hx (by rw [e0]; exact Ar151.1) (State.isArrayOf_alike hZ.alike Ar151.2.1) (g := (mkF m 1 #[.val (.ref a0), .val (.ref a1), .unset] [(.ref a0)])) rfl rfl (hb hby own_d_leq0_1) _ ?_
    rw [len_of S151 N_151]
    refine XS.aloadN X0.here hx rfl (hb hby own_d_leq0_2) rfl rfl ?_
    refine X0.arraylength hx (by rw [e0]; exact Ar152.1) (State.isArrayOf_alike hZ.alike Ar152.2.1) (g := (mkF m 3 #[.val (.ref a0), .val (.ref a1), .unset] [(.ref a1), (.int (0 : Int32))])) rfl rfl (hb hby own_d_leq0_3) _ ?_
    rw [len_of S152 N_152]
    refine XS.icmpNo X0.here hx rfl (hb hby own_d_leq0_4) rfl (teq (by decide : (0 : Int32) = (0 : Int32))).2 ?_
    refine XS.iconst X0.here hx rfl (hb hby own_d_leq0_7) ?_
    refine XS.istoreN X0.here hx rfl (hb hby own_d_leq0_8) rfl (l' := #[.val (.ref a0), .val (.ref a1), .val (.int (0 : Int32))]) rfl ?_
    refine XS.iloadN X0.here hx rfl (hb hby own_d_leq0_9) rfl ?_
    refine XS.aloadN X0.here hx rfl (hb hby own_d_leq0_10) rfl rfl ?_
    refine X0.arraylength hx (by rw [e0]; exact Ar153.1) (State.isArrayOf_alike hZ.alike Ar153.2.1) (g := (mkF m 11 #[.val (.ref a0), .val (.ref a1), .val (.int (0 : Int32))] [(.ref a0), (.int (0 : Int32))])) rfl rfl (hb hby own_d_leq0_11) _ ?_
    rw [len_of S153 N_153]
    refine XS.icmpYes X0.here hx rfl (pc0 := 12) (pc' := 32) rfl (hb hby own_d_leq0_12) rfl (flt (by decide : ¬ ((0 : Int32) < (0 : Int32)))).2.1 (by decide) (by decide) ?_
    refine XS.iconst X0.here hx rfl (hb hby own_d_leq0_32) ?_
    exact retN X0 hx (t := .boolean) Bd.returns (by simp) (hb hby own_d_leq0_33) hr
  · show Q_leq0 Z a0 a1 k0 k1 h0 n0 _ s₁.heap _
    refine ⟨?_, N0, e0⟩
    rw [F_leq0]
theorem own_d_leq1_0 : decode jdk_43_method_13_code 0 = .ok (.aload_n 0, 1) := by decide +kernel
theorem own_d_leq1_1 : decode jdk_43_method_13_code 1 = .ok (.arraylength, 1) := by decide +kernel
theorem own_d_leq1_2 : decode jdk_43_method_13_code 2 = .ok (.aload_n 1, 1) := by decide +kernel
theorem own_d_leq1_3 : decode jdk_43_method_13_code 3 = .ok (.arraylength, 1) := by decide +kernel
theorem own_d_leq1_4 : decode jdk_43_method_13_code 4 = .ok (.if_icmp .ne 30, 3) := by decide +kernel
theorem own_d_leq1_7 : decode jdk_43_method_13_code 7 = .ok (.iconst 0, 1) := by decide +kernel
theorem own_d_leq1_8 : decode jdk_43_method_13_code 8 = .ok (.istore_n 2, 1) := by decide +kernel
theorem own_d_leq1_9 : decode jdk_43_method_13_code 9 = .ok (.iload_n 2, 1) := by decide +kernel
theorem own_d_leq1_10 : decode jdk_43_method_13_code 10 = .ok (.aload_n 0, 1) := by decide +kernel
theorem own_d_leq1_11 : decode jdk_43_method_13_code 11 = .ok (.arraylength, 1) := by decide +kernel
theorem own_d_leq1_12 : decode jdk_43_method_13_code 12 = .ok (.if_icmp .ge 20, 3) := by decide +kernel
theorem own_d_leq1_15 : decode jdk_43_method_13_code 15 = .ok (.aload_n 0, 1) := by decide +kernel
theorem own_d_leq1_16 : decode jdk_43_method_13_code 16 = .ok (.iload_n 2, 1) := by decide +kernel
theorem own_d_leq1_17 : decode jdk_43_method_13_code 17 = .ok (.baload, 1) := by decide +kernel
theorem own_d_leq1_18 : decode jdk_43_method_13_code 18 = .ok (.aload_n 1, 1) := by decide +kernel
theorem own_d_leq1_19 : decode jdk_43_method_13_code 19 = .ok (.iload_n 2, 1) := by decide +kernel
theorem own_d_leq1_20 : decode jdk_43_method_13_code 20 = .ok (.baload, 1) := by decide +kernel
theorem own_d_leq1_21 : decode jdk_43_method_13_code 21 = .ok (.if_icmp .eq 5, 3) := by decide +kernel
theorem own_d_leq1_26 : decode jdk_43_method_13_code 26 = .ok (.iinc 2 1, 3) := by decide +kernel
theorem own_d_leq1_29 : decode jdk_43_method_13_code 29 = .ok (.goto (-20), 3) := by decide +kernel
theorem own_d_leq1_32 : decode jdk_43_method_13_code 32 = .ok (.iconst 1, 1) := by decide +kernel
theorem own_d_leq1_33 : decode jdk_43_method_13_code 33 = .ok (.ireturn, 1) := by decide +kernel
theorem own_d_leq1_24 : decode jdk_43_method_13_code 24 = .ok (.iconst 0, 1) := by decide +kernel
theorem own_d_leq1_25 : decode jdk_43_method_13_code 25 = .ok (.ireturn, 1) := by decide +kernel
def F_leq1 (x0 : Int32) (y0 : Int32) : Int32 := (if x0 = y0 then (1 : Int32) else (0 : Int32))
theorem own_ef_leq1 (m : MethodId) (a0 : Addr) (a1 : Addr) : entryFrame m #[(.ref a0), (.ref a1)] 3 = mkF m 0 #[.val (.ref a0), .val (.ref a1), .unset] [] := by first | (simp [entryFrame, mkF, argsToLocals, Value.category]; done) | rfl
def Q_leq1 (Z : State) (a0 : Addr) (a1 : Addr) (k0 : ClassId) (k1 : ClassId) (x0 : Int32) (y0 : Int32) (h0 : Heap) (n0 : Nat) (v : Option Value) (h : Heap) (L : List Loc) : Prop := v = some (.int (F_leq1 x0 y0)) ∧ Fr n0 L ∧ h = h0
set_option maxRecDepth 65536 in
set_option maxHeartbeats 40000000 in
theorem rm_leq1 (l : Launch) (Z : State) (a0' : Array Value) (hw : ∀ d ∈ tables_1, d.before a0' Z = true) (ws : List Jvm.Cond) (a0 : Addr) (a1 : Addr) (k0 : ClassId) (k1 : ClassId) (x0 : Int32) (y0 : Int32) (h0 : Heap) (n0 : Nat) (Z0 : n0 ≤ h0.size) (W0 : Arv Z h0 a0 k0 .byte (1 : Int32) [(.int x0)] (.int 0)) (W1 : Arv Z h0 a1 k1 .byte (1 : Int32) [(.int y0)] (.int 0)) :
    MetFree l (⟨"java/lang/StringLatin1", "equals", "([B[B)Z"⟩ : MethodName) (head1 (Jvm.Cond.code (⟨"java/lang/StringLatin1", "equals", "([B[B)Z"⟩ : MethodName) jdk_43_method_13_code 3 (some .boolean) :: ws) ({ frames := 0, cells := 0, slots := 0, locals := 0 } : Room)) (fun a U => a = #[(.ref a0), (.ref a1)] ∧ Z.Warmed39 U.vm ∧ U.heap = h0) (fun _ _ _ _ _ => True) (fun _ U o U' => ∃ v L, o = .returned v ∧ Q_leq1 Z a0 a1 k0 k1 x0 y0 h0 n0 v U'.heap L ∧ FrameEnd U o U' L ({ frames := 0, cells := 0, slots := 0, locals := 0 } : Room).cells ({ frames := 0, cells := 0, slots := 0, locals := 0 } : Room).slots) := by
  refine MetFree.of_bodySF (plainFor_of_name own_pn3) hisR ?_
  intro p e s m args below meth c s₁ Bd hml0 hP hK
  obtain ⟨rfl, hZ, hh⟩ := hP
  have hx := Bd.exec
  have hby := Bd.bytes
  have hml : c.maxLocals = 3 := hml0
  have hown : s.vm.findClass "java/lang/StringLatin1" = some m.cls := findClass_of_methodNamed Bd.named
  have hnm := (name_of_methodNamed Bd.named Bd.method).1
  have X0 : Stand p l e ({ frames := 0, cells := 0, slots := 0, locals := 0 } : Room) s m #[(.ref a0), (.ref a1)] below meth c s₁ [] 0 0 := Stand.of_body Bd
  have e0 : s₁.heap = h0 := by rw [← hh, Bd.state]; rfl
  have N0 := Fr.nil n0
  have pre0 : ∀ t, Steps p.tables e below (s₁.setTop (mkF m 0 #[.val (.ref a0), .val (.ref a1), .unset] [])) t → Steps p.tables e below (s₁.setTop (entryFrame m #[(.ref a0), (.ref a1)] 3)) t := fun t k => castTop (own_ef_leq1 m a0 a1) k
  have Vc154 := W0
  obtain ⟨cl154, Ar154, q154, S154, N_154, H154, G154⟩ := Vc154
  have Vc155 := W1
  obtain ⟨cl155, Ar155, q155, S155, N_155, H155, G155⟩ := Vc155
  have Vc156 := W0
  obtain ⟨cl156, Ar156, q156, S156, N_156, H156, G156⟩ := Vc156
  have Vc157 := W0
  obtain ⟨cl157, Ar157, q157, S157, N_157, H157, G157⟩ := Vc157
  have hin157 : ¬ ((0 : Int32) < 0 ∨ cl157.slots.size ≤ ((0 : Int32)).toNatClampNeg) := inb_of S157 ⟨by decide, by decide⟩
  have hat157 : cl157.slots[((0 : Int32)).toNatClampNeg]? = some (.int x0) := H157 0 (by rw [S157]; decide)
  have Vc158 := W1
  obtain ⟨cl158, Ar158, q158, S158, N_158, H158, G158⟩ := Vc158
  have hin158 : ¬ ((0 : Int32) < 0 ∨ cl158.slots.size ≤ ((0 : Int32)).toNatClampNeg) := inb_of S158 ⟨by decide, by decide⟩
  have hat158 : cl158.slots[((0 : Int32)).toNatClampNeg]? = some (.int y0) := H158 0 (by rw [S158]; decide)
  have pre160 : ∀ t, Steps p.tables e below (s₁.setTop (mkF m 21 #[.val (.ref a0), .val (.ref a1), .val (.int (0 : Int32))] [(.int y0), (.int x0)])) t → Steps p.tables e below (s₁.setTop (entryFrame m #[(.ref a0), (.ref a1)] 3)) t := fun t k => pre0 t (by
    refine XS.aloadN X0.here hx rfl (hb hby own_d_leq1_0) rfl rfl ?_
    refine X0.arraylength hx (by rw [e0]; exact Ar154.1) (State.isArrayOf_alike hZ.alike Ar154.2.1) (g := (mkF m 1 #[.val (.ref a0), .val (.ref a1), .unset] [(.ref a0)])) rfl rfl (hb hby own_d_leq1_1) _ ?_
    rw [len_of S154 N_154]
    refine XS.aloadN X0.here hx rfl (hb hby own_d_leq1_2) rfl rfl ?_
    refine X0.arraylength hx (by rw [e0]; exact Ar155.1) (State.isArrayOf_alike hZ.alike Ar155.2.1) (g := (mkF m 3 #[.val (.ref a0), .val (.ref a1), .unset] [(.ref a1), (.int (1 : Int32))])) rfl rfl (hb hby own_d_leq1_3) _ ?_
    rw [len_of S155 N_155]
    refine XS.icmpNo X0.here hx rfl (hb hby own_d_leq1_4) rfl (teq (by decide : (1 : Int32) = (1 : Int32))).2 ?_
    refine XS.iconst X0.here hx rfl (hb hby own_d_leq1_7) ?_
    refine XS.istoreN X0.here hx rfl (hb hby own_d_leq1_8) rfl (l' := #[.val (.ref a0), .val (.ref a1), .val (.int (0 : Int32))]) rfl ?_
    refine XS.iloadN X0.here hx rfl (hb hby own_d_leq1_9) rfl ?_
    refine XS.aloadN X0.here hx rfl (hb hby own_d_leq1_10) rfl rfl ?_
    refine X0.arraylength hx (by rw [e0]; exact Ar156.1) (State.isArrayOf_alike hZ.alike Ar156.2.1) (g := (mkF m 11 #[.val (.ref a0), .val (.ref a1), .val (.int (0 : Int32))] [(.ref a0), (.int (0 : Int32))])) rfl rfl (hb hby own_d_leq1_11) _ ?_
    rw [len_of S156 N_156]
    refine XS.icmpNo X0.here hx rfl (hb hby own_d_leq1_12) rfl (tlt (by decide : (0 : Int32) < (1 : Int32))).2.1 ?_
    refine XS.aloadN X0.here hx rfl (hb hby own_d_leq1_15) rfl rfl ?_
    refine XS.iloadN X0.here hx rfl (hb hby own_d_leq1_16) rfl ?_
    refine X0.baloadBytes hx (j := (0 : Int32)) (v := (.int x0)) (by rw [e0]; exact Ar157.1) (State.isArrayOf_alike hZ.alike Ar157.2.1) Ar157.2.2 hin157 hat157 (g := (mkF m 17 #[.val (.ref a0), .val (.ref a1), .val (.int (0 : Int32))] [(.int (0 : Int32)), (.ref a0)])) rfl rfl (hb hby own_d_leq1_17) _ ?_
    refine XS.aloadN X0.here hx rfl (hb hby own_d_leq1_18) rfl rfl ?_
    refine XS.iloadN X0.here hx rfl (hb hby own_d_leq1_19) rfl ?_
    refine X0.baloadBytes hx (j := (0 : Int32)) (v := (.int y0)) (by rw [e0]; exact Ar158.1) (State.isArrayOf_alike hZ.alike Ar158.2.1) Ar158.2.2 hin158 hat158 (g := (mkF m 20 #[.val (.ref a0), .val (.ref a1), .val (.int (0 : Int32))] [(.int (0 : Int32)), (.ref a1), (.int x0)])) rfl rfl (hb hby own_d_leq1_20) _ ?_
    exact k)
  by_cases hc21_159 : x0 = y0
  · have Vc161 := W0
    obtain ⟨cl161, Ar161, q161, S161, N_161, H161, G161⟩ := Vc161
    obtain ⟨fs, hr, hrun, hended, hW, hsame⟩ := X0.leave (v := some (.int (1 : Int32))) (fun h => by rw [Bd.returns] at h; cases h)
    refine ⟨_, _, pre160 _ ?_, hrun, hended, _, _, rfl, ?_, ⟨_, rfl⟩, hW, hsame.mono (by decide) (by decide)⟩
    · show Steps p.tables e below (s₁.setTop (mkF m 21 #[.val (.ref a0), .val (.ref a1), .val (.int (0 : Int32))] [(.int y0), (.int x0)])) _
      refine XS.icmpYes X0.here hx rfl (pc0 := 21) (pc' := 26) rfl (hb hby own_d_leq1_21) rfl (teq hc21_159).1 (by decide) (by decide) ?_
      refine XS.iinc X0.here hx rfl (hb hby own_d_leq1_26) rfl (l' := #[.val (.ref a0), .val (.ref a1), .val (.int ((0 : Int32) + (1 : Int32)))]) rfl ?_
      refine XS.goto X0.here hx rfl (pc0 := 29) (pc' := 9) rfl (hb hby own_d_leq1_29) (by decide) (by decide) ?_
      refine XS.iloadN X0.here hx rfl (hb hby own_d_leq1_9) rfl ?_
      refine XS.aloadN X0.here hx rfl (hb hby own_d_leq1_10) rfl rfl ?_
      refine X0.arraylength hx (by rw [e0]; exact Ar161.1) (State.isArrayOf_alike hZ.alike Ar161.2.1) (g := (mkF m 11 #[.val (.ref a0), .val (.ref a1), .val (.int ((0 : Int32) + (1 : Int32)))] [(.ref a0), (.int ((0 : Int32) + (1 : Int32)))])) rfl rfl (hb hby own_d_leq1_11) _ ?_
      rw [len_of S161 N_161]
      refine XS.icmpYes X0.here hx rfl (pc0 := 12) (pc' := 32) rfl (hb hby own_d_leq1_12) rfl (flt (by decide : ¬ (((0 : Int32) + (1 : Int32)) < (1 : Int32)))).2.1 (by decide) (by decide) ?_
      refine XS.iconst X0.here hx rfl (hb hby own_d_leq1_32) ?_
      exact retN X0 hx (t := .boolean) Bd.returns (by simp) (hb hby own_d_leq1_33) hr
    · show Q_leq1 Z a0 a1 k0 k1 x0 y0 h0 n0 _ s₁.heap _
      refine ⟨?_, N0, e0⟩
      rw [F_leq1, if_pos hc21_159]
  · obtain ⟨fs, hr, hrun, hended, hW, hsame⟩ := X0.leave (v := some (.int (0 : Int32))) (fun h => by rw [Bd.returns] at h; cases h)
    refine ⟨_, _, pre160 _ ?_, hrun, hended, _, _, rfl, ?_, ⟨_, rfl⟩, hW, hsame.mono (by decide) (by decide)⟩
    · show Steps p.tables e below (s₁.setTop (mkF m 21 #[.val (.ref a0), .val (.ref a1), .val (.int (0 : Int32))] [(.int y0), (.int x0)])) _
      refine XS.icmpNo X0.here hx rfl (hb hby own_d_leq1_21) rfl (feq hc21_159).1 ?_
      refine XS.iconst X0.here hx rfl (hb hby own_d_leq1_24) ?_
      exact retN X0 hx (t := .boolean) Bd.returns (by simp) (hb hby own_d_leq1_25) hr
    · show Q_leq1 Z a0 a1 k0 k1 x0 y0 h0 n0 _ s₁.heap _
      refine ⟨?_, N0, e0⟩
      rw [F_leq1, if_neg hc21_159]
theorem own_d_leq2_0 : decode jdk_43_method_13_code 0 = .ok (.aload_n 0, 1) := by decide +kernel
theorem own_d_leq2_1 : decode jdk_43_method_13_code 1 = .ok (.arraylength, 1) := by decide +kernel
theorem own_d_leq2_2 : decode jdk_43_method_13_code 2 = .ok (.aload_n 1, 1) := by decide +kernel
theorem own_d_leq2_3 : decode jdk_43_method_13_code 3 = .ok (.arraylength, 1) := by decide +kernel
theorem own_d_leq2_4 : decode jdk_43_method_13_code 4 = .ok (.if_icmp .ne 30, 3) := by decide +kernel
theorem own_d_leq2_7 : decode jdk_43_method_13_code 7 = .ok (.iconst 0, 1) := by decide +kernel
theorem own_d_leq2_8 : decode jdk_43_method_13_code 8 = .ok (.istore_n 2, 1) := by decide +kernel
theorem own_d_leq2_9 : decode jdk_43_method_13_code 9 = .ok (.iload_n 2, 1) := by decide +kernel
theorem own_d_leq2_10 : decode jdk_43_method_13_code 10 = .ok (.aload_n 0, 1) := by decide +kernel
theorem own_d_leq2_11 : decode jdk_43_method_13_code 11 = .ok (.arraylength, 1) := by decide +kernel
theorem own_d_leq2_12 : decode jdk_43_method_13_code 12 = .ok (.if_icmp .ge 20, 3) := by decide +kernel
theorem own_d_leq2_15 : decode jdk_43_method_13_code 15 = .ok (.aload_n 0, 1) := by decide +kernel
theorem own_d_leq2_16 : decode jdk_43_method_13_code 16 = .ok (.iload_n 2, 1) := by decide +kernel
theorem own_d_leq2_17 : decode jdk_43_method_13_code 17 = .ok (.baload, 1) := by decide +kernel
theorem own_d_leq2_18 : decode jdk_43_method_13_code 18 = .ok (.aload_n 1, 1) := by decide +kernel
theorem own_d_leq2_19 : decode jdk_43_method_13_code 19 = .ok (.iload_n 2, 1) := by decide +kernel
theorem own_d_leq2_20 : decode jdk_43_method_13_code 20 = .ok (.baload, 1) := by decide +kernel
theorem own_d_leq2_21 : decode jdk_43_method_13_code 21 = .ok (.if_icmp .eq 5, 3) := by decide +kernel
theorem own_d_leq2_26 : decode jdk_43_method_13_code 26 = .ok (.iinc 2 1, 3) := by decide +kernel
theorem own_d_leq2_29 : decode jdk_43_method_13_code 29 = .ok (.goto (-20), 3) := by decide +kernel
theorem own_d_leq2_32 : decode jdk_43_method_13_code 32 = .ok (.iconst 1, 1) := by decide +kernel
theorem own_d_leq2_33 : decode jdk_43_method_13_code 33 = .ok (.ireturn, 1) := by decide +kernel
theorem own_d_leq2_24 : decode jdk_43_method_13_code 24 = .ok (.iconst 0, 1) := by decide +kernel
theorem own_d_leq2_25 : decode jdk_43_method_13_code 25 = .ok (.ireturn, 1) := by decide +kernel
def F_leq2 (x0 : Int32) (x1 : Int32) (y0 : Int32) (y1 : Int32) : Int32 := (if x0 = y0 then (if x1 = y1 then (1 : Int32) else (0 : Int32)) else (0 : Int32))
theorem own_ef_leq2 (m : MethodId) (a0 : Addr) (a1 : Addr) : entryFrame m #[(.ref a0), (.ref a1)] 3 = mkF m 0 #[.val (.ref a0), .val (.ref a1), .unset] [] := by first | (simp [entryFrame, mkF, argsToLocals, Value.category]; done) | rfl
def Q_leq2 (Z : State) (a0 : Addr) (a1 : Addr) (k0 : ClassId) (k1 : ClassId) (x0 : Int32) (x1 : Int32) (y0 : Int32) (y1 : Int32) (h0 : Heap) (n0 : Nat) (v : Option Value) (h : Heap) (L : List Loc) : Prop := v = some (.int (F_leq2 x0 x1 y0 y1)) ∧ Fr n0 L ∧ h = h0
set_option maxRecDepth 65536 in
set_option maxHeartbeats 40000000 in
theorem rm_leq2 (l : Launch) (Z : State) (a0' : Array Value) (hw : ∀ d ∈ tables_1, d.before a0' Z = true) (ws : List Jvm.Cond) (a0 : Addr) (a1 : Addr) (k0 : ClassId) (k1 : ClassId) (x0 : Int32) (x1 : Int32) (y0 : Int32) (y1 : Int32) (h0 : Heap) (n0 : Nat) (Z0 : n0 ≤ h0.size) (W0 : Arv Z h0 a0 k0 .byte (2 : Int32) [(.int x0), (.int x1)] (.int 0)) (W1 : Arv Z h0 a1 k1 .byte (2 : Int32) [(.int y0), (.int y1)] (.int 0)) :
    MetFree l (⟨"java/lang/StringLatin1", "equals", "([B[B)Z"⟩ : MethodName) (head1 (Jvm.Cond.code (⟨"java/lang/StringLatin1", "equals", "([B[B)Z"⟩ : MethodName) jdk_43_method_13_code 3 (some .boolean) :: ws) ({ frames := 0, cells := 0, slots := 0, locals := 0 } : Room)) (fun a U => a = #[(.ref a0), (.ref a1)] ∧ Z.Warmed39 U.vm ∧ U.heap = h0) (fun _ _ _ _ _ => True) (fun _ U o U' => ∃ v L, o = .returned v ∧ Q_leq2 Z a0 a1 k0 k1 x0 x1 y0 y1 h0 n0 v U'.heap L ∧ FrameEnd U o U' L ({ frames := 0, cells := 0, slots := 0, locals := 0 } : Room).cells ({ frames := 0, cells := 0, slots := 0, locals := 0 } : Room).slots) := by
  refine MetFree.of_bodySF (plainFor_of_name own_pn3) hisR ?_
  intro p e s m args below meth c s₁ Bd hml0 hP hK
  obtain ⟨rfl, hZ, hh⟩ := hP
  have hx := Bd.exec
  have hby := Bd.bytes
  have hml : c.maxLocals = 3 := hml0
  have hown : s.vm.findClass "java/lang/StringLatin1" = some m.cls := findClass_of_methodNamed Bd.named
  have hnm := (name_of_methodNamed Bd.named Bd.method).1
  have X0 : Stand p l e ({ frames := 0, cells := 0, slots := 0, locals := 0 } : Room) s m #[(.ref a0), (.ref a1)] below meth c s₁ [] 0 0 := Stand.of_body Bd
  have e0 : s₁.heap = h0 := by rw [← hh, Bd.state]; rfl
  have N0 := Fr.nil n0
  have pre0 : ∀ t, Steps p.tables e below (s₁.setTop (mkF m 0 #[.val (.ref a0), .val (.ref a1), .unset] [])) t → Steps p.tables e below (s₁.setTop (entryFrame m #[(.ref a0), (.ref a1)] 3)) t := fun t k => castTop (own_ef_leq2 m a0 a1) k
  have Vc162 := W0
  obtain ⟨cl162, Ar162, q162, S162, N_162, H162, G162⟩ := Vc162
  have Vc163 := W1
  obtain ⟨cl163, Ar163, q163, S163, N_163, H163, G163⟩ := Vc163
  have Vc164 := W0
  obtain ⟨cl164, Ar164, q164, S164, N_164, H164, G164⟩ := Vc164
  have Vc165 := W0
  obtain ⟨cl165, Ar165, q165, S165, N_165, H165, G165⟩ := Vc165
  have hin165 : ¬ ((0 : Int32) < 0 ∨ cl165.slots.size ≤ ((0 : Int32)).toNatClampNeg) := inb_of S165 ⟨by decide, by decide⟩
  have hat165 : cl165.slots[((0 : Int32)).toNatClampNeg]? = some (.int x0) := H165 0 (by rw [S165]; decide)
  have Vc166 := W1
  obtain ⟨cl166, Ar166, q166, S166, N_166, H166, G166⟩ := Vc166
  have hin166 : ¬ ((0 : Int32) < 0 ∨ cl166.slots.size ≤ ((0 : Int32)).toNatClampNeg) := inb_of S166 ⟨by decide, by decide⟩
  have hat166 : cl166.slots[((0 : Int32)).toNatClampNeg]? = some (.int y0) := H166 0 (by rw [S166]; decide)
  have pre168 : ∀ t, Steps p.tables e below (s₁.setTop (mkF m 21 #[.val (.ref a0), .val (.ref a1), .val (.int (0 : Int32))] [(.int y0), (.int x0)])) t → Steps p.tables e below (s₁.setTop (entryFrame m #[(.ref a0), (.ref a1)] 3)) t := fun t k => pre0 t (by
    refine XS.aloadN X0.here hx rfl (hb hby own_d_leq2_0) rfl rfl ?_
    refine X0.arraylength hx (by rw [e0]; exact Ar162.1) (State.isArrayOf_alike hZ.alike Ar162.2.1) (g := (mkF m 1 #[.val (.ref a0), .val (.ref a1), .unset] [(.ref a0)])) rfl rfl (hb hby own_d_leq2_1) _ ?_
    rw [len_of S162 N_162]
    refine XS.aloadN X0.here hx rfl (hb hby own_d_leq2_2) rfl rfl ?_
    refine X0.arraylength hx (by rw [e0]; exact Ar163.1) (State.isArrayOf_alike hZ.alike Ar163.2.1) (g := (mkF m 3 #[.val (.ref a0), .val (.ref a1), .unset] [(.ref a1), (.int (2 : Int32))])) rfl rfl (hb hby own_d_leq2_3) _ ?_
    rw [len_of S163 N_163]
    refine XS.icmpNo X0.here hx rfl (hb hby own_d_leq2_4) rfl (teq (by decide : (2 : Int32) = (2 : Int32))).2 ?_
    refine XS.iconst X0.here hx rfl (hb hby own_d_leq2_7) ?_
    refine XS.istoreN X0.here hx rfl (hb hby own_d_leq2_8) rfl (l' := #[.val (.ref a0), .val (.ref a1), .val (.int (0 : Int32))]) rfl ?_
    refine XS.iloadN X0.here hx rfl (hb hby own_d_leq2_9) rfl ?_
    refine XS.aloadN X0.here hx rfl (hb hby own_d_leq2_10) rfl rfl ?_
    refine X0.arraylength hx (by rw [e0]; exact Ar164.1) (State.isArrayOf_alike hZ.alike Ar164.2.1) (g := (mkF m 11 #[.val (.ref a0), .val (.ref a1), .val (.int (0 : Int32))] [(.ref a0), (.int (0 : Int32))])) rfl rfl (hb hby own_d_leq2_11) _ ?_
    rw [len_of S164 N_164]
    refine XS.icmpNo X0.here hx rfl (hb hby own_d_leq2_12) rfl (tlt (by decide : (0 : Int32) < (2 : Int32))).2.1 ?_
    refine XS.aloadN X0.here hx rfl (hb hby own_d_leq2_15) rfl rfl ?_
    refine XS.iloadN X0.here hx rfl (hb hby own_d_leq2_16) rfl ?_
    refine X0.baloadBytes hx (j := (0 : Int32)) (v := (.int x0)) (by rw [e0]; exact Ar165.1) (State.isArrayOf_alike hZ.alike Ar165.2.1) Ar165.2.2 hin165 hat165 (g := (mkF m 17 #[.val (.ref a0), .val (.ref a1), .val (.int (0 : Int32))] [(.int (0 : Int32)), (.ref a0)])) rfl rfl (hb hby own_d_leq2_17) _ ?_
    refine XS.aloadN X0.here hx rfl (hb hby own_d_leq2_18) rfl rfl ?_
    refine XS.iloadN X0.here hx rfl (hb hby own_d_leq2_19) rfl ?_
    refine X0.baloadBytes hx (j := (0 : Int32)) (v := (.int y0)) (by rw [e0]; exact Ar166.1) (State.isArrayOf_alike hZ.alike Ar166.2.1) Ar166.2.2 hin166 hat166 (g := (mkF m 20 #[.val (.ref a0), .val (.ref a1), .val (.int (0 : Int32))] [(.int (0 : Int32)), (.ref a1), (.int x0)])) rfl rfl (hb hby own_d_leq2_20) _ ?_
    exact k)
  by_cases hc21_167 : x0 = y0
  · have Vc169 := W0
    obtain ⟨cl169, Ar169, q169, S169, N_169, H169, G169⟩ := Vc169
    have Vc170 := W0
    obtain ⟨cl170, Ar170, q170, S170, N_170, H170, G170⟩ := Vc170
    have hin170 : ¬ (((0 : Int32) + (1 : Int32)) < 0 ∨ cl170.slots.size ≤ (((0 : Int32) + (1 : Int32))).toNatClampNeg) := inb_of S170 ⟨by decide, by decide⟩
    have hat170 : cl170.slots[(((0 : Int32) + (1 : Int32))).toNatClampNeg]? = some (.int x1) := H170 1 (by rw [S170]; decide)
    have Vc171 := W1
    obtain ⟨cl171, Ar171, q171, S171, N_171, H171, G171⟩ := Vc171
    have hin171 : ¬ (((0 : Int32) + (1 : Int32)) < 0 ∨ cl171.slots.size ≤ (((0 : Int32) + (1 : Int32))).toNatClampNeg) := inb_of S171 ⟨by decide, by decide⟩
    have hat171 : cl171.slots[(((0 : Int32) + (1 : Int32))).toNatClampNeg]? = some (.int y1) := H171 1 (by rw [S171]; decide)
    have pre173 : ∀ t, Steps p.tables e below (s₁.setTop (mkF m 21 #[.val (.ref a0), .val (.ref a1), .val (.int ((0 : Int32) + (1 : Int32)))] [(.int y1), (.int x1)])) t → Steps p.tables e below (s₁.setTop (entryFrame m #[(.ref a0), (.ref a1)] 3)) t := fun t k => pre168 t (by
      refine XS.icmpYes X0.here hx rfl (pc0 := 21) (pc' := 26) rfl (hb hby own_d_leq2_21) rfl (teq hc21_167).1 (by decide) (by decide) ?_
      refine XS.iinc X0.here hx rfl (hb hby own_d_leq2_26) rfl (l' := #[.val (.ref a0), .val (.ref a1), .val (.int ((0 : Int32) + (1 : Int32)))]) rfl ?_
      refine XS.goto X0.here hx rfl (pc0 := 29) (pc' := 9) rfl (hb hby own_d_leq2_29) (by decide) (by decide) ?_
      refine XS.iloadN X0.here hx rfl (hb hby own_d_leq2_9) rfl ?_
      refine XS.aloadN X0.here hx rfl (hb hby own_d_leq2_10) rfl rfl ?_
      refine X0.arraylength hx (by rw [e0]; exact Ar169.1) (State.isArrayOf_alike hZ.alike Ar169.2.1) (g := (mkF m 11 #[.val (.ref a0), .val (.ref a1), .val (.int ((0 : Int32) + (1 : Int32)))] [(.ref a0), (.int ((0 : Int32) + (1 : Int32)))])) rfl rfl (hb hby own_d_leq2_11) _ ?_
      rw [len_of S169 N_169]
      refine XS.icmpNo X0.here hx rfl (hb hby own_d_leq2_12) rfl (tlt (by decide : ((0 : Int32) + (1 : Int32)) < (2 : Int32))).2.1 ?_
      refine XS.aloadN X0.here hx rfl (hb hby own_d_leq2_15) rfl rfl ?_
      refine XS.iloadN X0.here hx rfl (hb hby own_d_leq2_16) rfl ?_
      refine X0.baloadBytes hx (j := ((0 : Int32) + (1 : Int32))) (v := (.int x1)) (by rw [e0]; exact Ar170.1) (State.isArrayOf_alike hZ.alike Ar170.2.1) Ar170.2.2 hin170 hat170 (g := (mkF m 17 #[.val (.ref a0), .val (.ref a1), .val (.int ((0 : Int32) + (1 : Int32)))] [(.int ((0 : Int32) + (1 : Int32))), (.ref a0)])) rfl rfl (hb hby own_d_leq2_17) _ ?_
      refine XS.aloadN X0.here hx rfl (hb hby own_d_leq2_18) rfl rfl ?_
      refine XS.iloadN X0.here hx rfl (hb hby own_d_leq2_19) rfl ?_
      refine X0.baloadBytes hx (j := ((0 : Int32) + (1 : Int32))) (v := (.int y1)) (by rw [e0]; exact Ar171.1) (State.isArrayOf_alike hZ.alike Ar171.2.1) Ar171.2.2 hin171 hat171 (g := (mkF m 20 #[.val (.ref a0), .val (.ref a1), .val (.int ((0 : Int32) + (1 : Int32)))] [(.int ((0 : Int32) + (1 : Int32))), (.ref a1), (.int x1)])) rfl rfl (hb hby own_d_leq2_20) _ ?_
      exact k)
    by_cases hc21_172 : x1 = y1
    · have Vc174 := W0
      obtain ⟨cl174, Ar174, q174, S174, N_174, H174, G174⟩ := Vc174
      obtain ⟨fs, hr, hrun, hended, hW, hsame⟩ := X0.leave (v := some (.int (1 : Int32))) (fun h => by rw [Bd.returns] at h; cases h)
      refine ⟨_, _, pre173 _ ?_, hrun, hended, _, _, rfl, ?_, ⟨_, rfl⟩, hW, hsame.mono (by decide) (by decide)⟩
      · show Steps p.tables e below (s₁.setTop (mkF m 21 #[.val (.ref a0), .val (.ref a1), .val (.int ((0 : Int32) + (1 : Int32)))] [(.int y1), (.int x1)])) _
        refine XS.icmpYes X0.here hx rfl (pc0 := 21) (pc' := 26) rfl (hb hby own_d_leq2_21) rfl (teq hc21_172).1 (by decide) (by decide) ?_
        refine XS.iinc X0.here hx rfl (hb hby own_d_leq2_26) rfl (l' := #[.val (.ref a0), .val (.ref a1), .val (.int (((0 : Int32) + (1 : Int32)) + (1 : Int32)))]) rfl ?_
        refine XS.goto X0.here hx rfl (pc0 := 29) (pc' := 9) rfl (hb hby own_d_leq2_29) (by decide) (by decide) ?_
        refine XS.iloadN X0.here hx rfl (hb hby own_d_leq2_9) rfl ?_
        refine XS.aloadN X0.here hx rfl (hb hby own_d_leq2_10) rfl rfl ?_
        refine X0.arraylength hx (by rw [e0]; exact Ar174.1) (State.isArrayOf_alike hZ.alike Ar174.2.1) (g := (mkF m 11 #[.val (.ref a0), .val (.ref a1), .val (.int (((0 : Int32) + (1 : Int32)) + (1 : Int32)))] [(.ref a0), (.int (((0 : Int32) + (1 : Int32)) + (1 : Int32)))])) rfl rfl (hb hby own_d_leq2_11) _ ?_
        rw [len_of S174 N_174]
        refine XS.icmpYes X0.here hx rfl (pc0 := 12) (pc' := 32) rfl (hb hby own_d_leq2_12) rfl (flt (by decide : ¬ ((((0 : Int32) + (1 : Int32)) + (1 : Int32)) < (2 : Int32)))).2.1 (by decide) (by decide) ?_
        refine XS.iconst X0.here hx rfl (hb hby own_d_leq2_32) ?_
        exact retN X0 hx (t := .boolean) Bd.returns (by simp) (hb hby own_d_leq2_33) hr
      · show Q_leq2 Z a0 a1 k0 k1 x0 x1 y0 y1 h0 n0 _ s₁.heap _
        refine ⟨?_, N0, e0⟩
        rw [F_leq2, if_pos hc21_167, if_pos hc21_172]
    · obtain ⟨fs, hr, hrun, hended, hW, hsame⟩ := X0.leave (v := some (.int (0 : Int32))) (fun h => by rw [Bd.returns] at h; cases h)
      refine ⟨_, _, pre173 _ ?_, hrun, hended, _, _, rfl, ?_, ⟨_, rfl⟩, hW, hsame.mono (by decide) (by decide)⟩
      · show Steps p.tables e below (s₁.setTop (mkF m 21 #[.val (.ref a0), .val (.ref a1), .val (.int ((0 : Int32) + (1 : Int32)))] [(.int y1), (.int x1)])) _
        refine XS.icmpNo X0.here hx rfl (hb hby own_d_leq2_21) rfl (feq hc21_172).1 ?_
        refine XS.iconst X0.here hx rfl (hb hby own_d_leq2_24) ?_
        exact retN X0 hx (t := .boolean) Bd.returns (by simp) (hb hby own_d_leq2_25) hr
      · show Q_leq2 Z a0 a1 k0 k1 x0 x1 y0 y1 h0 n0 _ s₁.heap _
        refine ⟨?_, N0, e0⟩
        rw [F_leq2, if_pos hc21_167, if_neg hc21_172]
  · obtain ⟨fs, hr, hrun, hended, hW, hsame⟩ := X0.leave (v := some (.int (0 : Int32))) (fun h => by rw [Bd.returns] at h; cases h)
    refine ⟨_, _, pre168 _ ?_, hrun, hended, _, _, rfl, ?_, ⟨_, rfl⟩, hW, hsame.mono (by decide) (by decide)⟩
    · show Steps p.tables e below (s₁.setTop (mkF m 21 #[.val (.ref a0), .val (.ref a1), .val (.int (0 : Int32))] [(.int y0), (.int x0)])) _
      refine XS.icmpNo X0.here hx rfl (hb hby own_d_leq2_21) rfl (feq hc21_167).1 ?_
      refine XS.iconst X0.here hx rfl (hb hby own_d_leq2_24) ?_
      exact retN X0 hx (t := .boolean) Bd.returns (by simp) (hb hby own_d_leq2_25) hr
    · show Q_leq2 Z a0 a1 k0 k1 x0 x1 y0 y1 h0 n0 _ s₁.heap _
      refine ⟨?_, N0, e0⟩
      rw [F_leq2, if_neg hc21_167]
theorem own_d_leq3_0 : decode jdk_43_method_13_code 0 = .ok (.aload_n 0, 1) := by decide +kernel
theorem own_d_leq3_1 : decode jdk_43_method_13_code 1 = .ok (.arraylength, 1) := by decide +kernel
theorem own_d_leq3_2 : decode jdk_43_method_13_code 2 = .ok (.aload_n 1, 1) := by decide +kernel
theorem own_d_leq3_3 : decode jdk_43_method_13_code 3 = .ok (.arraylength, 1) := by decide +kernel
theorem own_d_leq3_4 : decode jdk_43_method_13_code 4 = .ok (.if_icmp .ne 30, 3) := by decide +kernel
theorem own_d_leq3_7 : decode jdk_43_method_13_code 7 = .ok (.iconst 0, 1) := by decide +kernel
theorem own_d_leq3_8 : decode jdk_43_method_13_code 8 = .ok (.istore_n 2, 1) := by decide +kernel
theorem own_d_leq3_9 : decode jdk_43_method_13_code 9 = .ok (.iload_n 2, 1) := by decide +kernel
theorem own_d_leq3_10 : decode jdk_43_method_13_code 10 = .ok (.aload_n 0, 1) := by decide +kernel
theorem own_d_leq3_11 : decode jdk_43_method_13_code 11 = .ok (.arraylength, 1) := by decide +kernel
theorem own_d_leq3_12 : decode jdk_43_method_13_code 12 = .ok (.if_icmp .ge 20, 3) := by decide +kernel
theorem own_d_leq3_15 : decode jdk_43_method_13_code 15 = .ok (.aload_n 0, 1) := by decide +kernel
theorem own_d_leq3_16 : decode jdk_43_method_13_code 16 = .ok (.iload_n 2, 1) := by decide +kernel
theorem own_d_leq3_17 : decode jdk_43_method_13_code 17 = .ok (.baload, 1) := by decide +kernel
theorem own_d_leq3_18 : decode jdk_43_method_13_code 18 = .ok (.aload_n 1, 1) := by decide +kernel
theorem own_d_leq3_19 : decode jdk_43_method_13_code 19 = .ok (.iload_n 2, 1) := by decide +kernel
theorem own_d_leq3_20 : decode jdk_43_method_13_code 20 = .ok (.baload, 1) := by decide +kernel
theorem own_d_leq3_21 : decode jdk_43_method_13_code 21 = .ok (.if_icmp .eq 5, 3) := by decide +kernel
theorem own_d_leq3_26 : decode jdk_43_method_13_code 26 = .ok (.iinc 2 1, 3) := by decide +kernel
theorem own_d_leq3_29 : decode jdk_43_method_13_code 29 = .ok (.goto (-20), 3) := by decide +kernel
theorem own_d_leq3_32 : decode jdk_43_method_13_code 32 = .ok (.iconst 1, 1) := by decide +kernel
theorem own_d_leq3_33 : decode jdk_43_method_13_code 33 = .ok (.ireturn, 1) := by decide +kernel
theorem own_d_leq3_24 : decode jdk_43_method_13_code 24 = .ok (.iconst 0, 1) := by decide +kernel
theorem own_d_leq3_25 : decode jdk_43_method_13_code 25 = .ok (.ireturn, 1) := by decide +kernel
def F_leq3 (x0 : Int32) (x1 : Int32) (x2 : Int32) (y0 : Int32) (y1 : Int32) (y2 : Int32) : Int32 := (if x0 = y0 then (if x1 = y1 then (if x2 = y2 then (1 : Int32) else (0 : Int32)) else (0 : Int32)) else (0 : Int32))
theorem own_ef_leq3 (m : MethodId) (a0 : Addr) (a1 : Addr) : entryFrame m #[(.ref a0), (.ref a1)] 3 = mkF m 0 #[.val (.ref a0), .val (.ref a1), .unset] [] := by first | (simp [entryFrame, mkF, argsToLocals, Value.category]; done) | rfl
def Q_leq3 (Z : State) (a0 : Addr) (a1 : Addr) (k0 : ClassId) (k1 : ClassId) (x0 : Int32) (x1 : Int32) (x2 : Int32) (y0 : Int32) (y1 : Int32) (y2 : Int32) (h0 : Heap) (n0 : Nat) (v : Option Value) (h : Heap) (L : List Loc) : Prop := v = some (.int (F_leq3 x0 x1 x2 y0 y1 y2)) ∧ Fr n0 L ∧ h = h0
set_option maxRecDepth 65536 in
set_option maxHeartbeats 40000000 in
theorem rm_leq3 (l : Launch) (Z : State) (a0' : Array Value) (hw : ∀ d ∈ tables_1, d.before a0' Z = true) (ws : List Jvm.Cond) (a0 : Addr) (a1 : Addr) (k0 : ClassId) (k1 : ClassId) (x0 : Int32) (x1 : Int32) (x2 : Int32) (y0 : Int32) (y1 : Int32) (y2 : Int32) (h0 : Heap) (n0 : Nat) (Z0 : n0 ≤ h0.size) (W0 : Arv Z h0 a0 k0 .byte (3 : Int32) [(.int x0), (.int x1), (.int x2)] (.int 0)) (W1 : Arv Z h0 a1 k1 .byte (3 : Int32) [(.int y0), (.int y1), (.int y2)] (.int 0)) :
    MetFree l (⟨"java/lang/StringLatin1", "equals", "([B[B)Z"⟩ : MethodName) (head1 (Jvm.Cond.code (⟨"java/lang/StringLatin1", "equals", "([B[B)Z"⟩ : MethodName) jdk_43_method_13_code 3 (some .boolean) :: ws) ({ frames := 0, cells := 0, slots := 0, locals := 0 } : Room)) (fun a U => a = #[(.ref a0), (.ref a1)] ∧ Z.Warmed39 U.vm ∧ U.heap = h0) (fun _ _ _ _ _ => True) (fun _ U o U' => ∃ v L, o = .returned v ∧ Q_leq3 Z a0 a1 k0 k1 x0 x1 x2 y0 y1 y2 h0 n0 v U'.heap L ∧ FrameEnd U o U' L ({ frames := 0, cells := 0, slots := 0, locals := 0 } : Room).cells ({ frames := 0, cells := 0, slots := 0, locals := 0 } : Room).slots) := by
  refine MetFree.of_bodySF (plainFor_of_name own_pn3) hisR ?_
  intro p e s m args below meth c s₁ Bd hml0 hP hK
  obtain ⟨rfl, hZ, hh⟩ := hP
  have hx := Bd.exec
  have hby := Bd.bytes
  have hml : c.maxLocals = 3 := hml0
  have hown : s.vm.findClass "java/lang/StringLatin1" = some m.cls := findClass_of_methodNamed Bd.named
  have hnm := (name_of_methodNamed Bd.named Bd.method).1
  have X0 : Stand p l e ({ frames := 0, cells := 0, slots := 0, locals := 0 } : Room) s m #[(.ref a0), (.ref a1)] below meth c s₁ [] 0 0 := Stand.of_body Bd
  have e0 : s₁.heap = h0 := by rw [← hh, Bd.state]; rfl
  have N0 := Fr.nil n0
  have pre0 : ∀ t, Steps p.tables e below (s₁.setTop (mkF m 0 #[.val (.ref a0), .val (.ref a1), .unset] [])) t → Steps p.tables e below (s₁.setTop (entryFrame m #[(.ref a0), (.ref a1)] 3)) t := fun t k => castTop (own_ef_leq3 m a0 a1) k
  have Vc175 := W0
  obtain ⟨cl175, Ar175, q175, S175, N_175, H175, G175⟩ := Vc175
  have Vc176 := W1
  obtain ⟨cl176, Ar176, q176, S176, N_176, H176, G176⟩ := Vc176
  have Vc177 := W0
  obtain ⟨cl177, Ar177, q177, S177, N_177, H177, G177⟩ := Vc177
  have Vc178 := W0
  obtain ⟨cl178, Ar178, q178, S178, N_178, H178, G178⟩ := Vc178
  have hin178 : ¬ ((0 : Int32) < 0 ∨ cl178.slots.size ≤ ((0 : Int32)).toNatClampNeg) := inb_of S178 ⟨by decide, by decide⟩
  have hat178 : cl178.slots[((0 : Int32)).toNatClampNeg]? = some (.int x0) := H178 0 (by rw [S178]; decide)
  have Vc179 := W1
  obtain ⟨cl179, Ar179, q179, S179, N_179, H179, G179⟩ := Vc179
  have hin179 : ¬ ((0 : Int32) < 0 ∨ cl179.slots.size ≤ ((0 : Int32)).toNatClampNeg) := inb_of S179 ⟨by decide, by decide⟩
  have hat179 : cl179.slots[((0 : Int32)).toNatClampNeg]? = some (.int y0) := H179 0 (by rw [S179]; decide)
  have pre181 : ∀ t, Steps p.tables e below (s₁.setTop (mkF m 21 #[.val (.ref a0), .val (.ref a1), .val (.int (0 : Int32))] [(.int y0), (.int x0)])) t → Steps p.tables e below (s₁.setTop (entryFrame m #[(.ref a0), (.ref a1)] 3)) t := fun t k => pre0 t (by
    refine XS.aloadN X0.here hx rfl (hb hby own_d_leq3_0) rfl rfl ?_
    refine X0.arraylength hx (by rw [e0]; exact Ar175.1) (State.isArrayOf_alike hZ.alike Ar175.2.1) (g := (mkF m 1 #[.val (.ref a0), .val (.ref a1), .unset] [(.ref a0)])) rfl rfl (hb hby own_d_leq3_1) _ ?_
    rw [len_of S175 N_175]
    refine XS.aloadN X0.here hx rfl (hb hby own_d_leq3_2) rfl rfl ?_
    refine X0.arraylength hx (by rw [e0]; exact Ar176.1) (State.isArrayOf_alike hZ.alike Ar176.2.1) (g := (mkF m 3 #[.val (.ref a0), .val (.ref a1), .unset] [(.ref a1), (.int (3 : Int32))])) rfl rfl (hb hby own_d_leq3_3) _ ?_
    rw [len_of S176 N_176]
    refine XS.icmpNo X0.here hx rfl (hb hby own_d_leq3_4) rfl (teq (by decide : (3 : Int32) = (3 : Int32))).2 ?_
    refine XS.iconst X0.here hx rfl (hb hby own_d_leq3_7) ?_
    refine XS.istoreN X0.here hx rfl (hb hby own_d_leq3_8) rfl (l' := #[.val (.ref a0), .val (.ref a1), .val (.int (0 : Int32))]) rfl ?_
    refine XS.iloadN X0.here hx rfl (hb hby own_d_leq3_9) rfl ?_
    refine XS.aloadN X0.here hx rfl (hb hby own_d_leq3_10) rfl rfl ?_
    refine X0.arraylength hx (by rw [e0]; exact Ar177.1) (State.isArrayOf_alike hZ.alike Ar177.2.1) (g := (mkF m 11 #[.val (.ref a0), .val (.ref a1), .val (.int (0 : Int32))] [(.ref a0), (.int (0 : Int32))])) rfl rfl (hb hby own_d_leq3_11) _ ?_
    rw [len_of S177 N_177]
    refine XS.icmpNo X0.here hx rfl (hb hby own_d_leq3_12) rfl (tlt (by decide : (0 : Int32) < (3 : Int32))).2.1 ?_
    refine XS.aloadN X0.here hx rfl (hb hby own_d_leq3_15) rfl rfl ?_
    refine XS.iloadN X0.here hx rfl (hb hby own_d_leq3_16) rfl ?_
    refine X0.baloadBytes hx (j := (0 : Int32)) (v := (.int x0)) (by rw [e0]; exact Ar178.1) (State.isArrayOf_alike hZ.alike Ar178.2.1) Ar178.2.2 hin178 hat178 (g := (mkF m 17 #[.val (.ref a0), .val (.ref a1), .val (.int (0 : Int32))] [(.int (0 : Int32)), (.ref a0)])) rfl rfl (hb hby own_d_leq3_17) _ ?_
    refine XS.aloadN X0.here hx rfl (hb hby own_d_leq3_18) rfl rfl ?_
    refine XS.iloadN X0.here hx rfl (hb hby own_d_leq3_19) rfl ?_
    refine X0.baloadBytes hx (j := (0 : Int32)) (v := (.int y0)) (by rw [e0]; exact Ar179.1) (State.isArrayOf_alike hZ.alike Ar179.2.1) Ar179.2.2 hin179 hat179 (g := (mkF m 20 #[.val (.ref a0), .val (.ref a1), .val (.int (0 : Int32))] [(.int (0 : Int32)), (.ref a1), (.int x0)])) rfl rfl (hb hby own_d_leq3_20) _ ?_
    exact k)
  by_cases hc21_180 : x0 = y0
  · have Vc182 := W0
    obtain ⟨cl182, Ar182, q182, S182, N_182, H182, G182⟩ := Vc182
    have Vc183 := W0
    obtain ⟨cl183, Ar183, q183, S183, N_183, H183, G183⟩ := Vc183
    have hin183 : ¬ (((0 : Int32) + (1 : Int32)) < 0 ∨ cl183.slots.size ≤ (((0 : Int32) + (1 : Int32))).toNatClampNeg) := inb_of S183 ⟨by decide, by decide⟩
    have hat183 : cl183.slots[(((0 : Int32) + (1 : Int32))).toNatClampNeg]? = some (.int x1) := H183 1 (by rw [S183]; decide)
    have Vc184 := W1
    obtain ⟨cl184, Ar184, q184, S184, N_184, H184, G184⟩ := Vc184
    have hin184 : ¬ (((0 : Int32) + (1 : Int32)) < 0 ∨ cl184.slots.size ≤ (((0 : Int32) + (1 : Int32))).toNatClampNeg) := inb_of S184 ⟨by decide, by decide⟩
    have hat184 : cl184.slots[(((0 : Int32) + (1 : Int32))).toNatClampNeg]? = some (.int y1) := H184 1 (by rw [S184]; decide)
    have pre186 : ∀ t, Steps p.tables e below (s₁.setTop (mkF m 21 #[.val (.ref a0), .val (.ref a1), .val (.int ((0 : Int32) + (1 : Int32)))] [(.int y1), (.int x1)])) t → Steps p.tables e below (s₁.setTop (entryFrame m #[(.ref a0), (.ref a1)] 3)) t := fun t k => pre181 t (by
      refine XS.icmpYes X0.here hx rfl (pc0 := 21) (pc' := 26) rfl (hb hby own_d_leq3_21) rfl (teq hc21_180).1 (by decide) (by decide) ?_
      refine XS.iinc X0.here hx rfl (hb hby own_d_leq3_26) rfl (l' := #[.val (.ref a0), .val (.ref a1), .val (.int ((0 : Int32) + (1 : Int32)))]) rfl ?_
      refine XS.goto X0.here hx rfl (pc0 := 29) (pc' := 9) rfl (hb hby own_d_leq3_29) (by decide) (by decide) ?_
      refine XS.iloadN X0.here hx rfl (hb hby own_d_leq3_9) rfl ?_
      refine XS.aloadN X0.here hx rfl (hb hby own_d_leq3_10) rfl rfl ?_
      refine X0.arraylength hx (by rw [e0]; exact Ar182.1) (State.isArrayOf_alike hZ.alike Ar182.2.1) (g := (mkF m 11 #[.val (.ref a0), .val (.ref a1), .val (.int ((0 : Int32) + (1 : Int32)))] [(.ref a0), (.int ((0 : Int32) + (1 : Int32)))])) rfl rfl (hb hby own_d_leq3_11) _ ?_
      rw [len_of S182 N_182]
      refine XS.icmpNo X0.here hx rfl (hb hby own_d_leq3_12) rfl (tlt (by decide : ((0 : Int32) + (1 : Int32)) < (3 : Int32))).2.1 ?_
      refine XS.aloadN X0.here hx rfl (hb hby own_d_leq3_15) rfl rfl ?_
      refine XS.iloadN X0.here hx rfl (hb hby own_d_leq3_16) rfl ?_
      refine X0.baloadBytes hx (j := ((0 : Int32) + (1 : Int32))) (v := (.int x1)) (by rw [e0]; exact Ar183.1) (State.isArrayOf_alike hZ.alike Ar183.2.1) Ar183.2.2 hin183 hat183 (g := (mkF m 17 #[.val (.ref a0), .val (.ref a1), .val (.int ((0 : Int32) + (1 : Int32)))] [(.int ((0 : Int32) + (1 : Int32))), (.ref a0)])) rfl rfl (hb hby own_d_leq3_17) _ ?_
      refine XS.aloadN X0.here hx rfl (hb hby own_d_leq3_18) rfl rfl ?_
      refine XS.iloadN X0.here hx rfl (hb hby own_d_leq3_19) rfl ?_
      refine X0.baloadBytes hx (j := ((0 : Int32) + (1 : Int32))) (v := (.int y1)) (by rw [e0]; exact Ar184.1) (State.isArrayOf_alike hZ.alike Ar184.2.1) Ar184.2.2 hin184 hat184 (g := (mkF m 20 #[.val (.ref a0), .val (.ref a1), .val (.int ((0 : Int32) + (1 : Int32)))] [(.int ((0 : Int32) + (1 : Int32))), (.ref a1), (.int x1)])) rfl rfl (hb hby own_d_leq3_20) _ ?_
      exact k)
    by_cases hc21_185 : x1 = y1
    · have Vc187 := W0
      obtain ⟨cl187, Ar187, q187, S187, N_187, H187, G187⟩ := Vc187
      have Vc188 := W0
      obtain ⟨cl188, Ar188, q188, S188, N_188, H188, G188⟩ := Vc188
      have hin188 : ¬ ((((0 : Int32) + (1 : Int32)) + (1 : Int32)) < 0 ∨ cl188.slots.size ≤ ((((0 : Int32) + (1 : Int32)) + (1 : Int32))).toNatClampNeg) := inb_of S188 ⟨by decide, by decide⟩
      have hat188 : cl188.slots[((((0 : Int32) + (1 : Int32)) + (1 : Int32))).toNatClampNeg]? = some (.int x2) := H188 2 (by rw [S188]; decide)
      have Vc189 := W1
      obtain ⟨cl189, Ar189, q189, S189, N_189, H189, G189⟩ := Vc189
      have hin189 : ¬ ((((0 : Int32) + (1 : Int32)) + (1 : Int32)) < 0 ∨ cl189.slots.size ≤ ((((0 : Int32) + (1 : Int32)) + (1 : Int32))).toNatClampNeg) := inb_of S189 ⟨by decide, by decide⟩
      have hat189 : cl189.slots[((((0 : Int32) + (1 : Int32)) + (1 : Int32))).toNatClampNeg]? = some (.int y2) := H189 2 (by rw [S189]; decide)
      have pre191 : ∀ t, Steps p.tables e below (s₁.setTop (mkF m 21 #[.val (.ref a0), .val (.ref a1), .val (.int (((0 : Int32) + (1 : Int32)) + (1 : Int32)))] [(.int y2), (.int x2)])) t → Steps p.tables e below (s₁.setTop (entryFrame m #[(.ref a0), (.ref a1)] 3)) t := fun t k => pre186 t (by
        refine XS.icmpYes X0.here hx rfl (pc0 := 21) (pc' := 26) rfl (hb hby own_d_leq3_21) rfl (teq hc21_185).1 (by decide) (by decide) ?_
        refine XS.iinc X0.here hx rfl (hb hby own_d_leq3_26) rfl (l' := #[.val (.ref a0), .val (.ref a1), .val (.int (((0 : Int32) + (1 : Int32)) + (1 : Int32)))]) rfl ?_
        refine XS.goto X0.here hx rfl (pc0 := 29) (pc' := 9) rfl (hb hby own_d_leq3_29) (by decide) (by decide) ?_
        refine XS.iloadN X0.here hx rfl (hb hby own_d_leq3_9) rfl ?_
        refine XS.aloadN X0.here hx rfl (hb hby own_d_leq3_10) rfl rfl ?_
        refine X0.arraylength hx (by rw [e0]; exact Ar187.1) (State.isArrayOf_alike hZ.alike Ar187.2.1) (g := (mkF m 11 #[.val (.ref a0), .val (.ref a1), .val (.int (((0 : Int32) + (1 : Int32)) + (1 : Int32)))] [(.ref a0), (.int (((0 : Int32) + (1 : Int32)) + (1 : Int32)))])) rfl rfl (hb hby own_d_leq3_11) _ ?_
        rw [len_of S187 N_187]
        refine XS.icmpNo X0.here hx rfl (hb hby own_d_leq3_12) rfl (tlt (by decide : (((0 : Int32) + (1 : Int32)) + (1 : Int32)) < (3 : Int32))).2.1 ?_
        refine XS.aloadN X0.here hx rfl (hb hby own_d_leq3_15) rfl rfl ?_
        refine XS.iloadN X0.here hx rfl (hb hby own_d_leq3_16) rfl ?_
        refine X0.baloadBytes hx (j := (((0 : Int32) + (1 : Int32)) + (1 : Int32))) (v := (.int x2)) (by rw [e0]; exact Ar188.1) (State.isArrayOf_alike hZ.alike Ar188.2.1) Ar188.2.2 hin188 hat188 (g := (mkF m 17 #[.val (.ref a0), .val (.ref a1), .val (.int (((0 : Int32) + (1 : Int32)) + (1 : Int32)))] [(.int (((0 : Int32) + (1 : Int32)) + (1 : Int32))), (.ref a0)])) rfl rfl (hb hby own_d_leq3_17) _ ?_
        refine XS.aloadN X0.here hx rfl (hb hby own_d_leq3_18) rfl rfl ?_
        refine XS.iloadN X0.here hx rfl (hb hby own_d_leq3_19) rfl ?_
        refine X0.baloadBytes hx (j := (((0 : Int32) + (1 : Int32)) + (1 : Int32))) (v := (.int y2)) (by rw [e0]; exact Ar189.1) (State.isArrayOf_alike hZ.alike Ar189.2.1) Ar189.2.2 hin189 hat189 (g := (mkF m 20 #[.val (.ref a0), .val (.ref a1), .val (.int (((0 : Int32) + (1 : Int32)) + (1 : Int32)))] [(.int (((0 : Int32) + (1 : Int32)) + (1 : Int32))), (.ref a1), (.int x2)])) rfl rfl (hb hby own_d_leq3_20) _ ?_
        exact k)
      by_cases hc21_190 : x2 = y2
      · have Vc192 := W0
        obtain ⟨cl192, Ar192, q192, S192, N_192, H192, G192⟩ := Vc192
        obtain ⟨fs, hr, hrun, hended, hW, hsame⟩ := X0.leave (v := some (.int (1 : Int32))) (fun h => by rw [Bd.returns] at h; cases h)
        refine ⟨_, _, pre191 _ ?_, hrun, hended, _, _, rfl, ?_, ⟨_, rfl⟩, hW, hsame.mono (by decide) (by decide)⟩
        · show Steps p.tables e below (s₁.setTop (mkF m 21 #[.val (.ref a0), .val (.ref a1), .val (.int (((0 : Int32) + (1 : Int32)) + (1 : Int32)))] [(.int y2), (.int x2)])) _
          refine XS.icmpYes X0.here hx rfl (pc0 := 21) (pc' := 26) rfl (hb hby own_d_leq3_21) rfl (teq hc21_190).1 (by decide) (by decide) ?_
          refine XS.iinc X0.here hx rfl (hb hby own_d_leq3_26) rfl (l' := #[.val (.ref a0), .val (.ref a1), .val (.int ((((0 : Int32) + (1 : Int32)) + (1 : Int32)) + (1 : Int32)))]) rfl ?_
          refine XS.goto X0.here hx rfl (pc0 := 29) (pc' := 9) rfl (hb hby own_d_leq3_29) (by decide) (by decide) ?_
          refine XS.iloadN X0.here hx rfl (hb hby own_d_leq3_9) rfl ?_
          refine XS.aloadN X0.here hx rfl (hb hby own_d_leq3_10) rfl rfl ?_
          refine X0.arraylength hx (by rw [e0]; exact Ar192.1) (State.isArrayOf_alike hZ.alike Ar192.2.1) (g := (mkF m 11 #[.val (.ref a0), .val (.ref a1), .val (.int ((((0 : Int32) + (1 : Int32)) + (1 : Int32)) + (1 : Int32)))] [(.ref a0), (.int ((((0 : Int32) + (1 : Int32)) + (1 : Int32)) + (1 : Int32)))])) rfl rfl (hb hby own_d_leq3_11) _ ?_
          rw [len_of S192 N_192]
          refine XS.icmpYes X0.here hx rfl (pc0 := 12) (pc' := 32) rfl (hb hby own_d_leq3_12) rfl (flt (by decide : ¬ (((((0 : Int32) + (1 : Int32)) + (1 : Int32)) + (1 : Int32)) < (3 : Int32)))).2.1 (by decide) (by decide) ?_
          refine XS.iconst X0.here hx rfl (hb hby own_d_leq3_32) ?_
          exact retN X0 hx (t := .boolean) Bd.returns (by simp) (hb hby own_d_leq3_33) hr
        · show Q_leq3 Z a0 a1 k0 k1 x0 x1 x2 y0 y1 y2 h0 n0 _ s₁.heap _
          refine ⟨?_, N0, e0⟩
          rw [F_leq3, if_pos hc21_180, if_pos hc21_185, if_pos hc21_190]
      · obtain ⟨fs, hr, hrun, hended, hW, hsame⟩ := X0.leave (v := some (.int (0 : Int32))) (fun h => by rw [Bd.returns] at h; cases h)
        refine ⟨_, _, pre191 _ ?_, hrun, hended, _, _, rfl, ?_, ⟨_, rfl⟩, hW, hsame.mono (by decide) (by decide)⟩
        · show Steps p.tables e below (s₁.setTop (mkF m 21 #[.val (.ref a0), .val (.ref a1), .val (.int (((0 : Int32) + (1 : Int32)) + (1 : Int32)))] [(.int y2), (.int x2)])) _
          refine XS.icmpNo X0.here hx rfl (hb hby own_d_leq3_21) rfl (feq hc21_190).1 ?_
          refine XS.iconst X0.here hx rfl (hb hby own_d_leq3_24) ?_
          exact retN X0 hx (t := .boolean) Bd.returns (by simp) (hb hby own_d_leq3_25) hr
        · show Q_leq3 Z a0 a1 k0 k1 x0 x1 x2 y0 y1 y2 h0 n0 _ s₁.heap _
          refine ⟨?_, N0, e0⟩
          rw [F_leq3, if_pos hc21_180, if_pos hc21_185, if_neg hc21_190]
    · obtain ⟨fs, hr, hrun, hended, hW, hsame⟩ := X0.leave (v := some (.int (0 : Int32))) (fun h => by rw [Bd.returns] at h; cases h)
      refine ⟨_, _, pre186 _ ?_, hrun, hended, _, _, rfl, ?_, ⟨_, rfl⟩, hW, hsame.mono (by decide) (by decide)⟩
      · show Steps p.tables e below (s₁.setTop (mkF m 21 #[.val (.ref a0), .val (.ref a1), .val (.int ((0 : Int32) + (1 : Int32)))] [(.int y1), (.int x1)])) _
        refine XS.icmpNo X0.here hx rfl (hb hby own_d_leq3_21) rfl (feq hc21_185).1 ?_
        refine XS.iconst X0.here hx rfl (hb hby own_d_leq3_24) ?_
        exact retN X0 hx (t := .boolean) Bd.returns (by simp) (hb hby own_d_leq3_25) hr
      · show Q_leq3 Z a0 a1 k0 k1 x0 x1 x2 y0 y1 y2 h0 n0 _ s₁.heap _
        refine ⟨?_, N0, e0⟩
        rw [F_leq3, if_pos hc21_180, if_neg hc21_185]
  · obtain ⟨fs, hr, hrun, hended, hW, hsame⟩ := X0.leave (v := some (.int (0 : Int32))) (fun h => by rw [Bd.returns] at h; cases h)
    refine ⟨_, _, pre181 _ ?_, hrun, hended, _, _, rfl, ?_, ⟨_, rfl⟩, hW, hsame.mono (by decide) (by decide)⟩
    · show Steps p.tables e below (s₁.setTop (mkF m 21 #[.val (.ref a0), .val (.ref a1), .val (.int (0 : Int32))] [(.int y0), (.int x0)])) _
      refine XS.icmpNo X0.here hx rfl (hb hby own_d_leq3_21) rfl (feq hc21_180).1 ?_
      refine XS.iconst X0.here hx rfl (hb hby own_d_leq3_24) ?_
      exact retN X0 hx (t := .boolean) Bd.returns (by simp) (hb hby own_d_leq3_25) hr
    · show Q_leq3 Z a0 a1 k0 k1 x0 x1 x2 y0 y1 y2 h0 n0 _ s₁.heap _
      refine ⟨?_, N0, e0⟩
      rw [F_leq3, if_neg hc21_180]
theorem own_d_leqD_0 : decode jdk_43_method_13_code 0 = .ok (.aload_n 0, 1) := by decide +kernel
theorem own_d_leqD_1 : decode jdk_43_method_13_code 1 = .ok (.arraylength, 1) := by decide +kernel
theorem own_d_leqD_2 : decode jdk_43_method_13_code 2 = .ok (.aload_n 1, 1) := by decide +kernel
theorem own_d_leqD_3 : decode jdk_43_method_13_code 3 = .ok (.arraylength, 1) := by decide +kernel
theorem own_d_leqD_4 : decode jdk_43_method_13_code 4 = .ok (.if_icmp .ne 30, 3) := by decide +kernel
theorem own_d_leqD_34 : decode jdk_43_method_13_code 34 = .ok (.iconst 0, 1) := by decide +kernel
theorem own_d_leqD_35 : decode jdk_43_method_13_code 35 = .ok (.ireturn, 1) := by decide +kernel
def F_leqD  : Int32 := (0 : Int32)
theorem own_ef_leqD (m : MethodId) (a0 : Addr) (a1 : Addr) : entryFrame m #[(.ref a0), (.ref a1)] 3 = mkF m 0 #[.val (.ref a0), .val (.ref a1), .unset] [] := by first | (simp [entryFrame, mkF, argsToLocals, Value.category]; done) | rfl
def Q_leqD (Z : State) (a0 : Addr) (a1 : Addr) (k0 : ClassId) (k1 : ClassId) (z0 : Int32) (z1 : Int32) (vs0 : List Value) (vs1 : List Value) (d0 : Value) (d1 : Value) (h0 : Heap) (n0 : Nat) (v : Option Value) (h : Heap) (L : List Loc) : Prop := v = some (.int F_leqD) ∧ Fr n0 L ∧ h = h0
set_option maxRecDepth 65536 in
set_option maxHeartbeats 40000000 in
theorem rm_leqD (l : Launch) (Z : State) (a0' : Array Value) (hw : ∀ d ∈ tables_1, d.before a0' Z = true) (ws : List Jvm.Cond) (a0 : Addr) (a1 : Addr) (k0 : ClassId) (k1 : ClassId) (z0 : Int32) (z1 : Int32) (vs0 : List Value) (vs1 : List Value) (d0 : Value) (d1 : Value) (h0 : Heap) (n0 : Nat) (Z0 : n0 ≤ h0.size) (W0 : Arv Z h0 a0 k0 .byte z0 vs0 d0) (W1 : Arv Z h0 a1 k1 .byte z1 vs1 d1) (hz : ¬ (z0 = z1)) :
    MetFree l (⟨"java/lang/StringLatin1", "equals", "([B[B)Z"⟩ : MethodName) (head1 (Jvm.Cond.code (⟨"java/lang/StringLatin1", "equals", "([B[B)Z"⟩ : MethodName) jdk_43_method_13_code 3 (some .boolean) :: ws) ({ frames := 0, cells := 0, slots := 0, locals := 0 } : Room)) (fun a U => a = #[(.ref a0), (.ref a1)] ∧ Z.Warmed39 U.vm ∧ U.heap = h0) (fun _ _ _ _ _ => True) (fun _ U o U' => ∃ v L, o = .returned v ∧ Q_leqD Z a0 a1 k0 k1 z0 z1 vs0 vs1 d0 d1 h0 n0 v U'.heap L ∧ FrameEnd U o U' L ({ frames := 0, cells := 0, slots := 0, locals := 0 } : Room).cells ({ frames := 0, cells := 0, slots := 0, locals := 0 } : Room).slots) := by
  refine MetFree.of_bodySF (plainFor_of_name own_pn3) hisR ?_
  intro p e s m args below meth c s₁ Bd hml0 hP hK
  obtain ⟨rfl, hZ, hh⟩ := hP
  have hx := Bd.exec
  have hby := Bd.bytes
  have hml : c.maxLocals = 3 := hml0
  have hown : s.vm.findClass "java/lang/StringLatin1" = some m.cls := findClass_of_methodNamed Bd.named
  have hnm := (name_of_methodNamed Bd.named Bd.method).1
  have X0 : Stand p l e ({ frames := 0, cells := 0, slots := 0, locals := 0 } : Room) s m #[(.ref a0), (.ref a1)] below meth c s₁ [] 0 0 := Stand.of_body Bd
  have e0 : s₁.heap = h0 := by rw [← hh, Bd.state]; rfl
  have N0 := Fr.nil n0
  have pre0 : ∀ t, Steps p.tables e below (s₁.setTop (mkF m 0 #[.val (.ref a0), .val (.ref a1), .unset] [])) t → Steps p.tables e below (s₁.setTop (entryFrame m #[(.ref a0), (.ref a1)] 3)) t := fun t k => castTop (own_ef_leqD m a0 a1) k
  have Vc193 := W0
  obtain ⟨cl193, Ar193, q193, S193, N_193, H193, G193⟩ := Vc193
  have Vc194 := W1
  obtain ⟨cl194, Ar194, q194, S194, N_194, H194, G194⟩ := Vc194
  obtain ⟨fs, hr, hrun, hended, hW, hsame⟩ := X0.leave (v := some (.int (0 : Int32))) (fun h => by rw [Bd.returns] at h; cases h)
  refine ⟨_, _, pre0 _ ?_, hrun, hended, _, _, rfl, ?_, ⟨_, rfl⟩, hW, hsame.mono (by decide) (by decide)⟩
  · show Steps p.tables e below (s₁.setTop (mkF m 0 #[.val (.ref a0), .val (.ref a1), .unset] [])) _
    refine XS.aloadN X0.here hx rfl (hb hby own_d_leqD_0) rfl rfl ?_
    refine X0.arraylength hx (by rw [e0]; exact Ar193.1) (State.isArrayOf_alike hZ.alike Ar193.2.1) (g := (mkF m 1 #[.val (.ref a0), .val (.ref a1), .unset] [(.ref a0)])) rfl rfl (hb hby own_d_leqD_1) _ ?_
    rw [len_of S193 N_193]
    refine XS.aloadN X0.here hx rfl (hb hby own_d_leqD_2) rfl rfl ?_
    refine X0.arraylength hx (by rw [e0]; exact Ar194.1) (State.isArrayOf_alike hZ.alike Ar194.2.1) (g := (mkF m 3 #[.val (.ref a0), .val (.ref a1), .unset] [(.ref a1), (.int z0)])) rfl rfl (hb hby own_d_leqD_3) _ ?_
    rw [len_of S194 N_194]
    refine XS.icmpYes X0.here hx rfl (pc0 := 4) (pc' := 34) rfl (hb hby own_d_leqD_4) rfl (feq hz).2 (by decide) (by decide) ?_
    refine XS.iconst X0.here hx rfl (hb hby own_d_leqD_34) ?_
    exact retN X0 hx (t := .boolean) Bd.returns (by simp) (hb hby own_d_leqD_35) hr
  · show Q_leqD Z a0 a1 k0 k1 z0 z1 vs0 vs1 d0 d1 h0 n0 _ s₁.heap _
    refine ⟨?_, N0, e0⟩
    rw [F_leqD]
def F_leqL (bs0 bs1 : List Int32) : Int32 := if bs0 = bs1 then (1 : Int32) else (0 : Int32)
def Q_leqL (Z : State) (a0 a1 : Addr) (k0 k1 : ClassId) (bs0 bs1 : List Int32) (h0 : Heap) (n0 : Nat) (v : Option Value) (h : Heap) (L : List Loc) : Prop := v = some (.int (F_leqL bs0 bs1)) ∧ Fr n0 L ∧ h = h0
theorem own_ofNat {m n : Nat} (hm : m ≤ 3) (hn : n ≤ 3) (h : Int32.ofNat m = Int32.ofNat n) : m = n := by
  have q := congrArg Int32.toNatClampNeg h
  rwa [own_lenN _ hm, own_lenN _ hn] at q
set_option maxHeartbeats 4000000 in
theorem rm_leqL (l : Launch) (Z : State) (a0' : Array Value) (hw : ∀ d ∈ tables_1, d.before a0' Z = true) (ws : List Jvm.Cond) (a0 a1 : Addr) (k0 k1 : ClassId) (bs0 bs1 : List Int32) (h0 : Heap) (n0 : Nat) (Z0 : n0 ≤ h0.size) (W0 : Arv Z h0 a0 k0 .byte (Int32.ofNat bs0.length) (bs0.map Value.int) (.int 0)) (W1 : Arv Z h0 a1 k1 .byte (Int32.ofNat bs1.length) (bs1.map Value.int) (.int 0)) (lb0 : bs0.length ≤ 3) (lb1 : bs1.length ≤ 3) :
    MetFree l (⟨"java/lang/StringLatin1", "equals", "([B[B)Z"⟩ : MethodName) (head1 (Jvm.Cond.code (⟨"java/lang/StringLatin1", "equals", "([B[B)Z"⟩ : MethodName) jdk_43_method_13_code 3 (some .boolean) :: ws) ({ frames := 0, cells := 0, slots := 0, locals := 0 } : Room)) (fun a U => a = #[(.ref a0), (.ref a1)] ∧ Z.Warmed39 U.vm ∧ U.heap = h0) (fun _ _ _ _ _ => True) (fun _ U o U' => ∃ v L, o = .returned v ∧ Q_leqL Z a0 a1 k0 k1 bs0 bs1 h0 n0 v U'.heap L ∧ FrameEnd U o U' L ({ frames := 0, cells := 0, slots := 0, locals := 0 } : Room).cells ({ frames := 0, cells := 0, slots := 0, locals := 0 } : Room).slots) := by
  by_cases hlen : bs0.length = bs1.length
  · match bs0, bs1, lb0, hlen with
    | [], [], _, _ => exact own_mono (rm_leq0 l Z a0' hw ws a0 a1 k0 k1  h0 n0 Z0 W0 W1) (fun _ _ _ _ ⟨v, L, q1, ⟨q2, q3, q4⟩, q5⟩ => ⟨v, L, q1, ⟨q2.trans (congrArg (fun z => some (Value.int z)) (by unfold F_leqL F_leq0; (repeat' split) <;> simp_all)), q3, q4⟩, q5⟩)
    | [x0], [y0], _, _ => exact own_mono (rm_leq1 l Z a0' hw ws a0 a1 k0 k1 x0 y0 h0 n0 Z0 W0 W1) (fun _ _ _ _ ⟨v, L, q1, ⟨q2, q3, q4⟩, q5⟩ => ⟨v, L, q1, ⟨q2.trans (congrArg (fun z => some (Value.int z)) (by unfold F_leqL F_leq1; (repeat' split) <;> simp_all)), q3, q4⟩, q5⟩)
    | [x0, x1], [y0, y1], _, _ => exact own_mono (rm_leq2 l Z a0' hw ws a0 a1 k0 k1 x0 x1 y0 y1 h0 n0 Z0 W0 W1) (fun _ _ _ _ ⟨v, L, q1, ⟨q2, q3, q4⟩, q5⟩ => ⟨v, L, q1, ⟨q2.trans (congrArg (fun z => some (Value.int z)) (by unfold F_leqL F_leq2; (repeat' split) <;> simp_all)), q3, q4⟩, q5⟩)
    | [x0, x1, x2], [y0, y1, y2], _, _ => exact own_mono (rm_leq3 l Z a0' hw ws a0 a1 k0 k1 x0 x1 x2 y0 y1 y2 h0 n0 Z0 W0 W1) (fun _ _ _ _ ⟨v, L, q1, ⟨q2, q3, q4⟩, q5⟩ => ⟨v, L, q1, ⟨q2.trans (congrArg (fun z => some (Value.int z)) (by unfold F_leqL F_leq3; (repeat' split) <;> simp_all)), q3, q4⟩, q5⟩)
    | _ :: _ :: _ :: _ :: _, _, hh, _ => simp at hh
  · exact own_mono (rm_leqD l Z a0' hw ws a0 a1 k0 k1 _ _ _ _ _ _ h0 n0 Z0 W0 W1 (fun q => hlen (own_ofNat lb0 lb1 q))) (fun _ _ _ _ ⟨v, L, q1, ⟨q2, q3, q4⟩, q5⟩ => ⟨v, L, q1, ⟨q2.trans (congrArg (fun z => some (Value.int z)) (by unfold F_leqL F_leqD; rw [if_neg (fun q => hlen (congrArg List.length q))])), q3, q4⟩, q5⟩)
theorem own_d_seq_0 : decode jdk_42_method_66_code 0 = .ok (.aload_n 0, 1) := by decide +kernel
theorem own_d_seq_1 : decode jdk_42_method_66_code 1 = .ok (.aload_n 1, 1) := by decide +kernel
theorem own_d_seq_2 : decode jdk_42_method_66_code 2 = .ok (.if_acmp .ne 5, 3) := by decide +kernel
theorem own_d_seq_5 : decode jdk_42_method_66_code 5 = .ok (.iconst 1, 1) := by decide +kernel
theorem own_d_seq_6 : decode jdk_42_method_66_code 6 = .ok (.ireturn, 1) := by decide +kernel
theorem own_d_seq_7 : decode jdk_42_method_66_code 7 = .ok (.aload_n 1, 1) := by decide +kernel
theorem own_d_seq_8 : decode jdk_42_method_66_code 8 = .ok (.instanceof 10, 3) := by decide +kernel
theorem own_d_seq_11 : decode jdk_42_method_66_code 11 = .ok (.ifCond .eq 43, 3) := by decide +kernel
theorem own_d_seq_14 : decode jdk_42_method_66_code 14 = .ok (.aload_n 1, 1) := by decide +kernel
theorem own_d_seq_15 : decode jdk_42_method_66_code 15 = .ok (.checkcast 10, 3) := by decide +kernel
theorem own_d_seq_18 : decode jdk_42_method_66_code 18 = .ok (.astore_n 2, 1) := by decide +kernel
theorem own_d_seq_19 : decode jdk_42_method_66_code 19 = .ok (.getstatic 38, 3) := by decide +kernel
theorem own_d_seq_22 : decode jdk_42_method_66_code 22 = .ok (.ifCond .eq 14, 3) := by decide +kernel
theorem own_d_seq_25 : decode jdk_42_method_66_code 25 = .ok (.aload_n 0, 1) := by decide +kernel
theorem own_d_seq_26 : decode jdk_42_method_66_code 26 = .ok (.getfield 15, 3) := by decide +kernel
theorem own_d_seq_29 : decode jdk_42_method_66_code 29 = .ok (.aload_n 2, 1) := by decide +kernel
theorem own_d_seq_30 : decode jdk_42_method_66_code 30 = .ok (.getfield 15, 3) := by decide +kernel
theorem own_d_seq_33 : decode jdk_42_method_66_code 33 = .ok (.if_icmp .ne 21, 3) := by decide +kernel
theorem own_d_seq_36 : decode jdk_42_method_66_code 36 = .ok (.aload_n 0, 1) := by decide +kernel
theorem own_d_seq_37 : decode jdk_42_method_66_code 37 = .ok (.getfield 9, 3) := by decide +kernel
theorem own_d_seq_40 : decode jdk_42_method_66_code 40 = .ok (.aload_n 2, 1) := by decide +kernel
theorem own_d_seq_41 : decode jdk_42_method_66_code 41 = .ok (.getfield 9, 3) := by decide +kernel
theorem own_d_seq_44 : decode jdk_42_method_66_code 44 = .ok (.invokestatic 541, 3) := by decide +kernel
theorem own_pd5 : parseMethodDescriptor "([B[B)Z" = some ⟨[(.array .byte), (.array .byte)], some .boolean⟩ := by decide +kernel
theorem own_d_seq_47 : decode jdk_42_method_66_code 47 = .ok (.ifCond .eq 7, 3) := by decide +kernel
theorem own_d_seq_54 : decode jdk_42_method_66_code 54 = .ok (.iconst 0, 1) := by decide +kernel
theorem own_d_seq_55 : decode jdk_42_method_66_code 55 = .ok (.ireturn, 1) := by decide +kernel
theorem own_d_seq_50 : decode jdk_42_method_66_code 50 = .ok (.iconst 1, 1) := by decide +kernel
theorem own_d_seq_51 : decode jdk_42_method_66_code 51 = .ok (.goto 4, 3) := by decide +kernel
def F_seq (bs0 : List Int32) (bs1 : List Int32) : Int32 := (if bs0 = bs1 then (1 : Int32) else (0 : Int32))
theorem own_ef_seq (m : MethodId) (a0 : Addr) (a1 : Addr) : entryFrame m #[(.ref a0), (.ref a1)] 3 = mkF m 0 #[.val (.ref a0), .val (.ref a1), .unset] [] := by first | (simp [entryFrame, mkF, argsToLocals, Value.category]; done) | rfl
def Q_seq (Z : State) (a0 : Addr) (a1 : Addr) (v0 : Addr) (v1 : Addr) (k0 : ClassId) (k1 : ClassId) (bs0 : List Int32) (bs1 : List Int32) (kc : Int32) (h0 : Heap) (n0 : Nat) (v : Option Value) (h : Heap) (L : List Loc) : Prop := v = some (.int (F_seq bs0 bs1)) ∧ Fr n0 L ∧ h = h0
set_option maxRecDepth 65536 in
set_option maxHeartbeats 40000000 in
theorem rm_seq (l : Launch) (Z : State) (a0' : Array Value) (hw : ∀ d ∈ tables_1, d.before a0' Z = true) (ws : List Jvm.Cond) (a0 : Addr) (a1 : Addr) (v0 : Addr) (v1 : Addr) (k0 : ClassId) (k1 : ClassId) (bs0 : List Int32) (bs1 : List Int32) (kc : Int32) (h0 : Heap) (n0 : Nat) (Z0 : n0 ≤ h0.size) (E0 : Exa Z h0 a0 "java/lang/String") (C0 : Fld Z h0 a0 "java/lang/String" "coder" "B" (.int (0 : Int32))) (V0 : Fld Z h0 a0 "java/lang/String" "value" "[B" (.ref v0)) (W0 : Arv Z h0 v0 k0 .byte (Int32.ofNat bs0.length) (bs0.map Value.int) (.int 0)) (lb0 : bs0.length ≤ 3) (E1 : Exa Z h0 a1 "java/lang/String") (C1 : Fld Z h0 a1 "java/lang/String" "coder" "B" (.int (0 : Int32))) (V1 : Fld Z h0 a1 "java/lang/String" "value" "[B" (.ref v1)) (W1 : Arv Z h0 v1 k1 .byte (Int32.ofNat bs1.length) (bs1.map Value.int) (.int 0)) (lb1 : bs1.length ≤ 3) (S_cs : Sta Z h0 "java/lang/String" "COMPACT_STRINGS" "Z" (.int kc)) (hkc : ¬ (kc = (0 : Int32))) :
    MetFree l (⟨"java/lang/String", "equals", "(Ljava/lang/Object;)Z"⟩ : MethodName) (head1 (Jvm.Cond.code (⟨"java/lang/String", "equals", "(Ljava/lang/Object;)Z"⟩ : MethodName) jdk_42_method_66_code 3 (some .boolean) :: ws) ({ frames := 1, cells := 0, slots := 0, locals := 14 } : Room)) (fun a U => a = #[(.ref a0), (.ref a1)] ∧ Z.Warmed39 U.vm ∧ U.heap = h0) (fun _ _ _ _ _ => True) (fun _ U o U' => ∃ v L, o = .returned v ∧ Q_seq Z a0 a1 v0 v1 k0 k1 bs0 bs1 kc h0 n0 v U'.heap L ∧ FrameEnd U o U' L ({ frames := 1, cells := 0, slots := 0, locals := 14 } : Room).cells ({ frames := 1, cells := 0, slots := 0, locals := 14 } : Room).slots) := by
  refine MetFree.of_bodySF (plainFor_of_name own_pn1) hisR ?_
  intro p e s m args below meth c s₁ Bd hml0 hP hK
  obtain ⟨rfl, hZ, hh⟩ := hP
  have hx := Bd.exec
  have hby := Bd.bytes
  have hml : c.maxLocals = 3 := hml0
  have hown : s.vm.findClass "java/lang/String" = some m.cls := findClass_of_methodNamed Bd.named
  have hnm := (name_of_methodNamed Bd.named Bd.method).1
  have X0 : Stand p l e ({ frames := 1, cells := 0, slots := 0, locals := 14 } : Room) s m #[(.ref a0), (.ref a1)] below meth c s₁ [] 0 0 := Stand.of_body Bd
  have e0 : s₁.heap = h0 := by rw [← hh, Bd.state]; rfl
  have N0 := Fr.nil n0
  have pre0 : ∀ t, Steps p.tables e below (s₁.setTop (mkF m 0 #[.val (.ref a0), .val (.ref a1), .unset] [])) t → Steps p.tables e below (s₁.setTop (entryFrame m #[(.ref a0), (.ref a1)] 3)) t := fun t k => castTop (own_ef_seq m a0 a1) k
  have pre196 : ∀ t, Steps p.tables e below (s₁.setTop (mkF m 2 #[.val (.ref a0), .val (.ref a1), .unset] [(.ref a1), (.ref a0)])) t → Steps p.tables e below (s₁.setTop (entryFrame m #[(.ref a0), (.ref a1)] 3)) t := fun t k => pre0 t (by
    refine XS.aloadN X0.here hx rfl (hb hby own_d_seq_0) rfl rfl ?_
    refine XS.aloadN X0.here hx rfl (hb hby own_d_seq_1) rfl rfl ?_
    exact k)
  by_cases hc2_195 : a0 = a1
  · obtain ⟨fs, hr, hrun, hended, hW, hsame⟩ := X0.leave (v := some (.int (1 : Int32))) (fun h => by rw [Bd.returns] at h; cases h)
    refine ⟨_, _, pre196 _ ?_, hrun, hended, _, _, rfl, ?_, ⟨_, rfl⟩, hW, hsame.mono (by decide) (by decide)⟩
    · show Steps p.tables e below (s₁.setTop (mkF m 2 #[.val (.ref a0), .val (.ref a1), .unset] [(.ref a1), (.ref a0)])) _
      refine Jvm.RoadKit.acmp (g := (mkF m 2 #[.val (.ref a0), .val (.ref a1), .unset] [(.ref a1), (.ref a0)])) X0 hx rfl rfl rfl (pc0 := 2) (pc' := 5) (same := true) rfl (hb hby own_d_seq_2) rfl (decide_eq_true (congrArg Value.ref hc2_195)) (by decide) (by decide) ?_
      refine XS.iconst X0.here hx rfl (hb hby own_d_seq_5) ?_
      exact retN X0 hx (t := .boolean) Bd.returns (by simp) (hb hby own_d_seq_6) hr
    · show Q_seq Z a0 a1 v0 v1 k0 k1 bs0 bs1 kc h0 n0 _ s₁.heap _
      refine ⟨?_, N0, e0⟩
      subst hc2_195
      rw [F_seq, if_pos (own_sameL lb0 lb1 V0 V1 W0 W1)]
  · obtain ⟨T197, X197, e197, st197⟩ := instY X0 hx hZ hown (ow hw 62 rfl) e0 (Ins.self E1) (g := (mkF m 8 #[.val (.ref a0), .val (.ref a1), .unset] [(.ref a1)])) rfl rfl (hb hby own_d_seq_8)
    obtain ⟨T198, X198, e198, st198⟩ := castY X197 hx hZ hown (ow hw 62 rfl) e197 (Ins.self E1) (g := (mkF m 15 #[.val (.ref a0), .val (.ref a1), .unset] [(.ref a1)])) rfl rfl (hb hby own_d_seq_15)
    obtain ⟨T199, X199, e199, st199⟩ := getS2 X198 hx hZ hown (host := "") (Or.inl (ow hw 63 rfl)) Via.refl e198 S_cs (g := (mkF m 19 #[.val (.ref a0), .val (.ref a1), .val (.ref a1)] [])) rfl (hb hby own_d_seq_19)
    obtain ⟨T200, X200, e200, st200⟩ := getF X199 hx hZ hown (host := "") (Or.inl (ow hw 25 rfl)) Via.refl e199 C0 (g := (mkF m 26 #[.val (.ref a0), .val (.ref a1), .val (.ref a1)] [(.ref a0)])) rfl rfl (hb hby own_d_seq_26)
    obtain ⟨T201, X201, e201, st201⟩ := getF X200 hx hZ hown (host := "") (Or.inl (ow hw 25 rfl)) Via.refl e200 C1 (g := (mkF m 30 #[.val (.ref a0), .val (.ref a1), .val (.ref a1)] [(.ref a1), (.int (0 : Int32))])) rfl rfl (hb hby own_d_seq_30)
    obtain ⟨T202, X202, e202, st202⟩ := getF X201 hx hZ hown (host := "") (Or.inl (ow hw 24 rfl)) Via.refl e201 V0 (g := (mkF m 37 #[.val (.ref a0), .val (.ref a1), .val (.ref a1)] [(.ref a0)])) rfl rfl (hb hby own_d_seq_37)
    obtain ⟨T203, X203, e203, st203⟩ := getF X202 hx hZ hown (host := "") (Or.inl (ow hw 24 rfl)) Via.refl e202 V1 (g := (mkF m 41 #[.val (.ref a0), .val (.ref a1), .val (.ref a1)] [(.ref a1), (.ref v0)])) rfl rfl (hb hby own_d_seq_41)
    obtain ⟨_, _, ⟨T204, L204, k204, n204⟩, -, X204, ⟨Lc204, hQ204, l204, y204, z204⟩, st204⟩ := Jvm.LawKit.callS X203 hx (y := (⟨"java/lang/StringLatin1", "equals", "([B[B)Z"⟩ : MethodName)) hown (mvT hZ (ow hw 64 rfl)) (mvT hZ (ow hw 65 rfl)) (mvT hZ (ow hw 66 rfl)) (mvT hZ (ow hw 67 rfl)) (by decide) (backOf (W := 0) (rm_leqL l Z a0' hw [] v0 v1 k0 k1 bs0 bs1 h0 n0 Z0 W0 W1 lb0 lb1) hZ (ow hw 67 rfl) (ow hw 66 rfl) (by decide) (by decide)) (g := (mkF m 44 #[.val (.ref a0), .val (.ref a1), .val (.ref a1)] [(.ref v1), (.ref v0)])) rfl (by rw [hml]; rfl) (argsL := [(.ref v0), (.ref v1)]) (rest := []) (lenOf own_pd5 rfl) rfl (by show 2 * 0 + _ ≤ _; exact Nat.le_of_eq rfl) (hb hby own_d_seq_44) (fun _ _ => ⟨rfl, e203, (by decide : 0 + 0 ≤ _), (by decide : 0 + 0 ≤ _)⟩)
    dsimp only [Pt.U, Pt.locs, Pt.cells, Pt.slots] at X204 l204 y204 z204 st204 hQ204
    subst l204 y204 z204
    obtain ⟨rfl, N204q, e204⟩ := hQ204
    have N204 := Fr.app N0 N204q
    have pre206 : ∀ t, Steps p.tables e below (T204.setTop (mkF m 47 #[.val (.ref a0), .val (.ref a1), .val (.ref a1)] [(.int (F_leqL bs0 bs1))])) t → Steps p.tables e below (s₁.setTop (entryFrame m #[(.ref a0), (.ref a1)] 3)) t := fun t k => pre196 t (by
      refine Jvm.RoadKit.acmp (g := (mkF m 2 #[.val (.ref a0), .val (.ref a1), .unset] [(.ref a1), (.ref a0)])) X0 hx rfl rfl rfl (pc0 := 2) (pc' := 7) (same := false) rfl (hb hby own_d_seq_2) rfl (decide_eq_false fun q => hc2_195 (Value.ref.inj q)) (by decide) (by decide) ?_
      refine XS.aloadN X0.here hx rfl (hb hby own_d_seq_7) rfl rfl ?_
      refine st197 _ ?_
      refine XS.ifNo X197.here hx rfl (hb hby own_d_seq_11) rfl ((if0 _ _).trans (feq (by decide : ¬ ((1 : Int32) = (0 : Int32)))).1) ?_
      refine XS.aloadN X197.here hx rfl (hb hby own_d_seq_14) rfl rfl ?_
      refine st198 _ ?_
      refine XS.astoreN X198.here hx rfl (hb hby own_d_seq_18) rfl rfl (l' := #[.val (.ref a0), .val (.ref a1), .val (.ref a1)]) rfl ?_
      refine st199 _ ?_
      refine XS.ifNo X199.here hx rfl (hb hby own_d_seq_22) rfl ((if0 _ _).trans (feq hkc).1) ?_
      refine XS.aloadN X199.here hx rfl (hb hby own_d_seq_25) rfl rfl ?_
      refine st200 _ ?_
      refine XS.aloadN X200.here hx rfl (hb hby own_d_seq_29) rfl rfl ?_
      refine st201 _ ?_
      refine XS.icmpNo X201.here hx rfl (hb hby own_d_seq_33) rfl (teq (by decide : (0 : Int32) = (0 : Int32))).2 ?_
      refine XS.aloadN X201.here hx rfl (hb hby own_d_seq_36) rfl rfl ?_
      refine st202 _ ?_
      refine XS.aloadN X202.here hx rfl (hb hby own_d_seq_40) rfl rfl ?_
      refine st203 _ ?_
      refine st204 _ ?_
      exact k)
    by_cases hc47_205 : (F_leqL bs0 bs1) = (0 : Int32)
    · obtain ⟨fs, hr, hrun, hended, hW, hsame⟩ := X204.leave (v := some (.int (0 : Int32))) (fun h => by rw [Bd.returns] at h; cases h)
      refine ⟨_, _, pre206 _ ?_, hrun, hended, _, _, rfl, ?_, ⟨_, rfl⟩, hW, hsame.mono (by decide) (by decide)⟩
      · show Steps p.tables e below (T204.setTop (mkF m 47 #[.val (.ref a0), .val (.ref a1), .val (.ref a1)] [(.int (F_leqL bs0 bs1))])) _
        refine XS.ifYes X204.here hx rfl (pc0 := 47) (pc' := 54) rfl (hb hby own_d_seq_47) rfl ((if0 _ _).trans (teq hc47_205).1) (by decide) (by decide) ?_
        refine XS.iconst X204.here hx rfl (hb hby own_d_seq_54) ?_
        exact retN X204 hx (t := .boolean) Bd.returns (by simp) (hb hby own_d_seq_55) hr
      · show Q_seq Z a0 a1 v0 v1 k0 k1 bs0 bs1 kc h0 n0 _ T204.heap _
        refine ⟨?_, N204, e204⟩
        unfold F_seq; unfold F_leqL at hc47_205; by_cases hq : bs0 = bs1 <;> simp_all
    · obtain ⟨fs, hr, hrun, hended, hW, hsame⟩ := X204.leave (v := some (.int (1 : Int32))) (fun h => by rw [Bd.returns] at h; cases h)
      refine ⟨_, _, pre206 _ ?_, hrun, hended, _, _, rfl, ?_, ⟨_, rfl⟩, hW, hsame.mono (by decide) (by decide)⟩
      · show Steps p.tables e below (T204.setTop (mkF m 47 #[.val (.ref a0), .val (.ref a1), .val (.ref a1)] [(.int (F_leqL bs0 bs1))])) _
        refine XS.ifNo X204.here hx rfl (hb hby own_d_seq_47) rfl ((if0 _ _).trans (feq hc47_205).1) ?_
        refine XS.iconst X204.here hx rfl (hb hby own_d_seq_50) ?_
        refine XS.goto X204.here hx rfl (pc0 := 51) (pc' := 55) rfl (hb hby own_d_seq_51) (by decide) (by decide) ?_
        exact retN X204 hx (t := .boolean) Bd.returns (by simp) (hb hby own_d_seq_55) hr
      · show Q_seq Z a0 a1 v0 v1 k0 k1 bs0 bs1 kc h0 n0 _ T204.heap _
        refine ⟨?_, N204, e204⟩
        unfold F_seq; unfold F_leqL at hc47_205; by_cases hq : bs0 = bs1 <;> simp_all
theorem own_d_same_0 : decode method_3_code 0 = .ok (.iload_n 0, 1) := by decide +kernel
theorem own_d_same_1 : decode method_3_code 1 = .ok (.bipush 16, 2) := by decide +kernel
theorem own_d_same_3 : decode method_3_code 3 = .ok (.iushr, 1) := by decide +kernel
theorem own_d_same_4 : decode method_3_code 4 = .ok (.iconst 3, 1) := by decide +kernel
theorem own_d_same_5 : decode method_3_code 5 = .ok (.iand, 1) := by decide +kernel
theorem own_d_same_6 : decode method_3_code 6 = .ok (.istore_n 2, 1) := by decide +kernel
theorem own_d_same_7 : decode method_3_code 7 = .ok (.iload_n 1, 1) := by decide +kernel
theorem own_d_same_8 : decode method_3_code 8 = .ok (.bipush 16, 2) := by decide +kernel
theorem own_d_same_10 : decode method_3_code 10 = .ok (.iushr, 1) := by decide +kernel
theorem own_d_same_11 : decode method_3_code 11 = .ok (.iconst 3, 1) := by decide +kernel
theorem own_d_same_12 : decode method_3_code 12 = .ok (.iand, 1) := by decide +kernel
theorem own_d_same_13 : decode method_3_code 13 = .ok (.istore_n 3, 1) := by decide +kernel
theorem own_d_same_14 : decode method_3_code 14 = .ok (.iload_n 2, 1) := by decide +kernel
theorem own_d_same_15 : decode method_3_code 15 = .ok (.iload_n 3, 1) := by decide +kernel
theorem own_d_same_16 : decode method_3_code 16 = .ok (.if_icmp .eq 5, 3) := by decide +kernel
theorem own_d_same_21 : decode method_3_code 21 = .ok (.iload_n 2, 1) := by decide +kernel
theorem own_d_same_22 : decode method_3_code 22 = .ok (.iconst 1, 1) := by decide +kernel
theorem own_d_same_23 : decode method_3_code 23 = .ok (.if_icmp .lt 18, 3) := by decide +kernel
theorem own_d_same_41 : decode method_3_code 41 = .ok (.iload_n 2, 1) := by decide +kernel
theorem own_d_same_42 : decode method_3_code 42 = .ok (.iconst 2, 1) := by decide +kernel
theorem own_d_same_43 : decode method_3_code 43 = .ok (.if_icmp .lt 24, 3) := by decide +kernel
theorem own_d_same_67 : decode method_3_code 67 = .ok (.iload_n 2, 1) := by decide +kernel
theorem own_d_same_68 : decode method_3_code 68 = .ok (.iconst 3, 1) := by decide +kernel
theorem own_d_same_69 : decode method_3_code 69 = .ok (.if_icmp .lt 24, 3) := by decide +kernel
theorem own_d_same_93 : decode method_3_code 93 = .ok (.iconst 1, 1) := by decide +kernel
theorem own_d_same_94 : decode method_3_code 94 = .ok (.ireturn, 1) := by decide +kernel
theorem own_d_same_72 : decode method_3_code 72 = .ok (.iload_n 0, 1) := by decide +kernel
theorem own_d_same_73 : decode method_3_code 73 = .ok (.bipush 24, 2) := by decide +kernel
theorem own_d_same_75 : decode method_3_code 75 = .ok (.iushr, 1) := by decide +kernel
theorem own_d_same_76 : decode method_3_code 76 = .ok (.sipush 255, 3) := by decide +kernel
theorem own_d_same_79 : decode method_3_code 79 = .ok (.iand, 1) := by decide +kernel
theorem own_d_same_80 : decode method_3_code 80 = .ok (.iload_n 1, 1) := by decide +kernel
theorem own_d_same_81 : decode method_3_code 81 = .ok (.bipush 24, 2) := by decide +kernel
theorem own_d_same_83 : decode method_3_code 83 = .ok (.iushr, 1) := by decide +kernel
theorem own_d_same_84 : decode method_3_code 84 = .ok (.sipush 255, 3) := by decide +kernel
theorem own_d_same_87 : decode method_3_code 87 = .ok (.iand, 1) := by decide +kernel
theorem own_d_same_88 : decode method_3_code 88 = .ok (.if_icmp .eq 5, 3) := by decide +kernel
theorem own_d_same_91 : decode method_3_code 91 = .ok (.iconst 0, 1) := by decide +kernel
theorem own_d_same_92 : decode method_3_code 92 = .ok (.ireturn, 1) := by decide +kernel
theorem own_d_same_46 : decode method_3_code 46 = .ok (.iload_n 0, 1) := by decide +kernel
theorem own_d_same_47 : decode method_3_code 47 = .ok (.bipush 8, 2) := by decide +kernel
theorem own_d_same_49 : decode method_3_code 49 = .ok (.iushr, 1) := by decide +kernel
theorem own_d_same_50 : decode method_3_code 50 = .ok (.sipush 255, 3) := by decide +kernel
theorem own_d_same_53 : decode method_3_code 53 = .ok (.iand, 1) := by decide +kernel
theorem own_d_same_54 : decode method_3_code 54 = .ok (.iload_n 1, 1) := by decide +kernel
theorem own_d_same_55 : decode method_3_code 55 = .ok (.bipush 8, 2) := by decide +kernel
theorem own_d_same_57 : decode method_3_code 57 = .ok (.iushr, 1) := by decide +kernel
theorem own_d_same_58 : decode method_3_code 58 = .ok (.sipush 255, 3) := by decide +kernel
theorem own_d_same_61 : decode method_3_code 61 = .ok (.iand, 1) := by decide +kernel
theorem own_d_same_62 : decode method_3_code 62 = .ok (.if_icmp .eq 5, 3) := by decide +kernel
theorem own_d_same_65 : decode method_3_code 65 = .ok (.iconst 0, 1) := by decide +kernel
theorem own_d_same_66 : decode method_3_code 66 = .ok (.ireturn, 1) := by decide +kernel
theorem own_d_same_26 : decode method_3_code 26 = .ok (.iload_n 0, 1) := by decide +kernel
theorem own_d_same_27 : decode method_3_code 27 = .ok (.sipush 255, 3) := by decide +kernel
theorem own_d_same_30 : decode method_3_code 30 = .ok (.iand, 1) := by decide +kernel
theorem own_d_same_31 : decode method_3_code 31 = .ok (.iload_n 1, 1) := by decide +kernel
theorem own_d_same_32 : decode method_3_code 32 = .ok (.sipush 255, 3) := by decide +kernel
theorem own_d_same_35 : decode method_3_code 35 = .ok (.iand, 1) := by decide +kernel
theorem own_d_same_36 : decode method_3_code 36 = .ok (.if_icmp .eq 5, 3) := by decide +kernel
theorem own_d_same_39 : decode method_3_code 39 = .ok (.iconst 0, 1) := by decide +kernel
theorem own_d_same_40 : decode method_3_code 40 = .ok (.ireturn, 1) := by decide +kernel
theorem own_d_same_19 : decode method_3_code 19 = .ok (.iconst 0, 1) := by decide +kernel
theorem own_d_same_20 : decode method_3_code 20 = .ok (.ireturn, 1) := by decide +kernel
def F_same (p0 : Int32) (p1 : Int32) : Int32 := (if (((p0.toUInt32 >>> ((16 : Int32) &&& 31).toUInt32).toInt32) &&& (3 : Int32)) = (((p1.toUInt32 >>> ((16 : Int32) &&& 31).toUInt32).toInt32) &&& (3 : Int32)) then (if (((p0.toUInt32 >>> ((16 : Int32) &&& 31).toUInt32).toInt32) &&& (3 : Int32)) < (1 : Int32) then (if (((p0.toUInt32 >>> ((16 : Int32) &&& 31).toUInt32).toInt32) &&& (3 : Int32)) < (2 : Int32) then (if (((p0.toUInt32 >>> ((16 : Int32) &&& 31).toUInt32).toInt32) &&& (3 : Int32)) < (3 : Int32) then (1 : Int32) else (if (((p0.toUInt32 >>> ((24 : Int32) &&& 31).toUInt32).toInt32) &&& (255 : Int32)) = (((p1.toUInt32 >>> ((24 : Int32) &&& 31).toUInt32).toInt32) &&& (255 : Int32)) then (1 : Int32) else (0 : Int32))) else (if (((p0.toUInt32 >>> ((8 : Int32) &&& 31).toUInt32).toInt32) &&& (255 : Int32)) = (((p1.toUInt32 >>> ((8 : Int32) &&& 31).toUInt32).toInt32) &&& (255 : Int32)) then (if (((p0.toUInt32 >>> ((16 : Int32) &&& 31).toUInt32).toInt32) &&& (3 : Int32)) < (3 : Int32) then (1 : Int32) else (if (((p0.toUInt32 >>> ((24 : Int32) &&& 31).toUInt32).toInt32) &&& (255 : Int32)) = (((p1.toUInt32 >>> ((24 : Int32) &&& 31).toUInt32).toInt32) &&& (255 : Int32)) then (1 : Int32) else (0 : Int32))) else (0 : Int32))) else (if (p0 &&& (255 : Int32)) = (p1 &&& (255 : Int32)) then (if (((p0.toUInt32 >>> ((16 : Int32) &&& 31).toUInt32).toInt32) &&& (3 : Int32)) < (2 : Int32) then (if (((p0.toUInt32 >>> ((16 : Int32) &&& 31).toUInt32).toInt32) &&& (3 : Int32)) < (3 : Int32) then (1 : Int32) else (if (((p0.toUInt32 >>> ((24 : Int32) &&& 31).toUInt32).toInt32) &&& (255 : Int32)) = (((p1.toUInt32 >>> ((24 : Int32) &&& 31).toUInt32).toInt32) &&& (255 : Int32)) then (1 : Int32) else (0 : Int32))) else (if (((p0.toUInt32 >>> ((8 : Int32) &&& 31).toUInt32).toInt32) &&& (255 : Int32)) = (((p1.toUInt32 >>> ((8 : Int32) &&& 31).toUInt32).toInt32) &&& (255 : Int32)) then (if (((p0.toUInt32 >>> ((16 : Int32) &&& 31).toUInt32).toInt32) &&& (3 : Int32)) < (3 : Int32) then (1 : Int32) else (if (((p0.toUInt32 >>> ((24 : Int32) &&& 31).toUInt32).toInt32) &&& (255 : Int32)) = (((p1.toUInt32 >>> ((24 : Int32) &&& 31).toUInt32).toInt32) &&& (255 : Int32)) then (1 : Int32) else (0 : Int32))) else (0 : Int32))) else (0 : Int32))) else (0 : Int32))
theorem own_ef_same (m : MethodId) (p0 : Int32) (p1 : Int32) : entryFrame m #[(.int p0), (.int p1)] 4 = mkF m 0 #[.val (.int p0), .val (.int p1), .unset, .unset] [] := by first | (simp [entryFrame, mkF, argsToLocals, Value.category]; done) | rfl
def Q_same (Z : State) (p0 : Int32) (p1 : Int32) (h0 : Heap) (n0 : Nat) (v : Option Value) (h : Heap) (L : List Loc) : Prop := v = some (.int (F_same p0 p1)) ∧ Fr n0 L ∧ h = h0
set_option maxRecDepth 65536 in
set_option maxHeartbeats 40000000 in
theorem rm_same (l : Launch) (Z : State) (a0' : Array Value) (hw : ∀ d ∈ tables_1, d.before a0' Z = true) (ws : List Jvm.Cond) (p0 : Int32) (p1 : Int32) (h0 : Heap) (n0 : Nat) (Z0 : n0 ≤ h0.size) :
    MetFree l (⟨"com/example/entry_to_apps/entrytoapps/GridProfileEqualsPinLaw", "sameName", "(II)Z"⟩ : MethodName) (head1 (Jvm.Cond.code (⟨"com/example/entry_to_apps/entrytoapps/GridProfileEqualsPinLaw", "sameName", "(II)Z"⟩ : MethodName) method_3_code 4 (some .boolean) :: ws) ({ frames := 0, cells := 0, slots := 0, locals := 0 } : Room)) (fun a U => a = #[(.int p0), (.int p1)] ∧ Z.Warmed39 U.vm ∧ U.heap = h0) (fun _ _ _ _ _ => True) (fun _ U o U' => ∃ v L, o = .returned v ∧ Q_same Z p0 p1 h0 n0 v U'.heap L ∧ FrameEnd U o U' L ({ frames := 0, cells := 0, slots := 0, locals := 0 } : Room).cells ({ frames := 0, cells := 0, slots := 0, locals := 0 } : Room).slots) := by
  refine MetFree.of_bodySF (plainFor_of_name own_pn2) hisR ?_
  intro p e s m args below meth c s₁ Bd hml0 hP hK
  obtain ⟨rfl, hZ, hh⟩ := hP
  have hx := Bd.exec
  have hby := Bd.bytes
  have hml : c.maxLocals = 4 := hml0
  have hown : s.vm.findClass "com/example/entry_to_apps/entrytoapps/GridProfileEqualsPinLaw" = some m.cls := findClass_of_methodNamed Bd.named
  have hnm := (name_of_methodNamed Bd.named Bd.method).1
  have X0 : Stand p l e ({ frames := 0, cells := 0, slots := 0, locals := 0 } : Room) s m #[(.int p0), (.int p1)] below meth c s₁ [] 0 0 := Stand.of_body Bd
  have e0 : s₁.heap = h0 := by rw [← hh, Bd.state]; rfl
  have N0 := Fr.nil n0
  have pre0 : ∀ t, Steps p.tables e below (s₁.setTop (mkF m 0 #[.val (.int p0), .val (.int p1), .unset, .unset] [])) t → Steps p.tables e below (s₁.setTop (entryFrame m #[(.int p0), (.int p1)] 4)) t := fun t k => castTop (own_ef_same m p0 p1) k
  have pre208 : ∀ t, Steps p.tables e below (s₁.setTop (mkF m 16 #[.val (.int p0), .val (.int p1), .val (.int (((p0.toUInt32 >>> ((16 : Int32) &&& 31).toUInt32).toInt32) &&& (3 : Int32))), .val (.int (((p1.toUInt32 >>> ((16 : Int32) &&& 31).toUInt32).toInt32) &&& (3 : Int32)))] [(.int (((p1.toUInt32 >>> ((16 : Int32) &&& 31).toUInt32).toInt32) &&& (3 : Int32))), (.int (((p0.toUInt32 >>> ((16 : Int32) &&& 31).toUInt32).toInt32) &&& (3 : Int32)))])) t → Steps p.tables e below (s₁.setTop (entryFrame m #[(.int p0), (.int p1)] 4)) t := fun t k => pre0 t (by
    refine XS.iloadN X0.here hx rfl (hb hby own_d_same_0) rfl ?_
    refine XS.bipush X0.here hx rfl (hb hby own_d_same_1) ?_
    refine XS.iushr X0.here hx rfl (hb hby own_d_same_3) rfl ?_
    refine XS.iconst X0.here hx rfl (hb hby own_d_same_4) ?_
    refine XS.iand X0.here hx rfl (hb hby own_d_same_5) rfl ?_
    refine XS.istoreN X0.here hx rfl (hb hby own_d_same_6) rfl (l' := #[.val (.int p0), .val (.int p1), .val (.int (((p0.toUInt32 >>> ((16 : Int32) &&& 31).toUInt32).toInt32) &&& (3 : Int32))), .unset]) rfl ?_
    refine XS.iloadN X0.here hx rfl (hb hby own_d_same_7) rfl ?_
    refine XS.bipush X0.here hx rfl (hb hby own_d_same_8) ?_
    refine XS.iushr X0.here hx rfl (hb hby own_d_same_10) rfl ?_
    refine XS.iconst X0.here hx rfl (hb hby own_d_same_11) ?_
    refine XS.iand X0.here hx rfl (hb hby own_d_same_12) rfl ?_
    refine XS.istoreN X0.here hx rfl (hb hby own_d_same_13) rfl (l' := #[.val (.int p0), .val (.int p1), .val (.int (((p0.toUInt32 >>> ((16 : Int32) &&& 31).toUInt32).toInt32) &&& (3 : Int32))), .val (.int (((p1.toUInt32 >>> ((16 : Int32) &&& 31).toUInt32).toInt32) &&& (3 : Int32)))]) rfl ?_
    refine XS.iloadN X0.here hx rfl (hb hby own_d_same_14) rfl ?_
    refine XS.iloadN X0.here hx rfl (hb hby own_d_same_15) rfl ?_
    exact k)
  by_cases hc16_207 : (((p0.toUInt32 >>> ((16 : Int32) &&& 31).toUInt32).toInt32) &&& (3 : Int32)) = (((p1.toUInt32 >>> ((16 : Int32) &&& 31).toUInt32).toInt32) &&& (3 : Int32))
  · have pre210 : ∀ t, Steps p.tables e below (s₁.setTop (mkF m 23 #[.val (.int p0), .val (.int p1), .val (.int (((p0.toUInt32 >>> ((16 : Int32) &&& 31).toUInt32).toInt32) &&& (3 : Int32))), .val (.int (((p1.toUInt32 >>> ((16 : Int32) &&& 31).toUInt32).toInt32) &&& (3 : Int32)))] [(.int (1 : Int32)), (.int (((p0.toUInt32 >>> ((16 : Int32) &&& 31).toUInt32).toInt32) &&& (3 : Int32)))])) t → Steps p.tables e below (s₁.setTop (entryFrame m #[(.int p0), (.int p1)] 4)) t := fun t k => pre208 t (by
      refine XS.icmpYes X0.here hx rfl (pc0 := 16) (pc' := 21) rfl (hb hby own_d_same_16) rfl (teq hc16_207).1 (by decide) (by decide) ?_
      refine XS.iloadN X0.here hx rfl (hb hby own_d_same_21) rfl ?_
      refine XS.iconst X0.here hx rfl (hb hby own_d_same_22) ?_
      exact k)
    by_cases hc23_209 : (((p0.toUInt32 >>> ((16 : Int32) &&& 31).toUInt32).toInt32) &&& (3 : Int32)) < (1 : Int32)
    · have pre212 : ∀ t, Steps p.tables e below (s₁.setTop (mkF m 43 #[.val (.int p0), .val (.int p1), .val (.int (((p0.toUInt32 >>> ((16 : Int32) &&& 31).toUInt32).toInt32) &&& (3 : Int32))), .val (.int (((p1.toUInt32 >>> ((16 : Int32) &&& 31).toUInt32).toInt32) &&& (3 : Int32)))] [(.int (2 : Int32)), (.int (((p0.toUInt32 >>> ((16 : Int32) &&& 31).toUInt32).toInt32) &&& (3 : Int32)))])) t → Steps p.tables e below (s₁.setTop (entryFrame m #[(.int p0), (.int p1)] 4)) t := fun t k => pre210 t (by
        refine XS.icmpYes X0.here hx rfl (pc0 := 23) (pc' := 41) rfl (hb hby own_d_same_23) rfl (tlt hc23_209).1 (by decide) (by decide) ?_
        refine XS.iloadN X0.here hx rfl (hb hby own_d_same_41) rfl ?_
        refine XS.iconst X0.here hx rfl (hb hby own_d_same_42) ?_
        exact k)
      by_cases hc43_211 : (((p0.toUInt32 >>> ((16 : Int32) &&& 31).toUInt32).toInt32) &&& (3 : Int32)) < (2 : Int32)
      · have pre214 : ∀ t, Steps p.tables e below (s₁.setTop (mkF m 69 #[.val (.int p0), .val (.int p1), .val (.int (((p0.toUInt32 >>> ((16 : Int32) &&& 31).toUInt32).toInt32) &&& (3 : Int32))), .val (.int (((p1.toUInt32 >>> ((16 : Int32) &&& 31).toUInt32).toInt32) &&& (3 : Int32)))] [(.int (3 : Int32)), (.int (((p0.toUInt32 >>> ((16 : Int32) &&& 31).toUInt32).toInt32) &&& (3 : Int32)))])) t → Steps p.tables e below (s₁.setTop (entryFrame m #[(.int p0), (.int p1)] 4)) t := fun t k => pre212 t (by
          refine XS.icmpYes X0.here hx rfl (pc0 := 43) (pc' := 67) rfl (hb hby own_d_same_43) rfl (tlt hc43_211).1 (by decide) (by decide) ?_
          refine XS.iloadN X0.here hx rfl (hb hby own_d_same_67) rfl ?_
          refine XS.iconst X0.here hx rfl (hb hby own_d_same_68) ?_
          exact k)
        by_cases hc69_213 : (((p0.toUInt32 >>> ((16 : Int32) &&& 31).toUInt32).toInt32) &&& (3 : Int32)) < (3 : Int32)
        · obtain ⟨fs, hr, hrun, hended, hW, hsame⟩ := X0.leave (v := some (.int (1 : Int32))) (fun h => by rw [Bd.returns] at h; cases h)
          refine ⟨_, _, pre214 _ ?_, hrun, hended, _, _, rfl, ?_, ⟨_, rfl⟩, hW, hsame.mono (by decide) (by decide)⟩
          · show Steps p.tables e below (s₁.setTop (mkF m 69 #[.val (.int p0), .val (.int p1), .val (.int (((p0.toUInt32 >>> ((16 : Int32) &&& 31).toUInt32).toInt32) &&& (3 : Int32))), .val (.int (((p1.toUInt32 >>> ((16 : Int32) &&& 31).toUInt32).toInt32) &&& (3 : Int32)))] [(.int (3 : Int32)), (.int (((p0.toUInt32 >>> ((16 : Int32) &&& 31).toUInt32).toInt32) &&& (3 : Int32)))])) _
            refine XS.icmpYes X0.here hx rfl (pc0 := 69) (pc' := 93) rfl (hb hby own_d_same_69) rfl (tlt hc69_213).1 (by decide) (by decide) ?_
            refine XS.iconst X0.here hx rfl (hb hby own_d_same_93) ?_
            exact retN X0 hx (t := .boolean) Bd.returns (by simp) (hb hby own_d_same_94) hr
          · show Q_same Z p0 p1 h0 n0 _ s₁.heap _
            refine ⟨?_, N0, e0⟩
            rw [F_same, if_pos hc16_207, if_pos hc23_209, if_pos hc43_211, if_pos hc69_213]
        · have pre216 : ∀ t, Steps p.tables e below (s₁.setTop (mkF m 88 #[.val (.int p0), .val (.int p1), .val (.int (((p0.toUInt32 >>> ((16 : Int32) &&& 31).toUInt32).toInt32) &&& (3 : Int32))), .val (.int (((p1.toUInt32 >>> ((16 : Int32) &&& 31).toUInt32).toInt32) &&& (3 : Int32)))] [(.int (((p1.toUInt32 >>> ((24 : Int32) &&& 31).toUInt32).toInt32) &&& (255 : Int32))), (.int (((p0.toUInt32 >>> ((24 : Int32) &&& 31).toUInt32).toInt32) &&& (255 : Int32)))])) t → Steps p.tables e below (s₁.setTop (entryFrame m #[(.int p0), (.int p1)] 4)) t := fun t k => pre214 t (by
            refine XS.icmpNo X0.here hx rfl (hb hby own_d_same_69) rfl (flt hc69_213).1 ?_
            refine XS.iloadN X0.here hx rfl (hb hby own_d_same_72) rfl ?_
            refine XS.bipush X0.here hx rfl (hb hby own_d_same_73) ?_
            refine XS.iushr X0.here hx rfl (hb hby own_d_same_75) rfl ?_
            refine XS.sipush X0.here hx rfl (hb hby own_d_same_76) ?_
            refine XS.iand X0.here hx rfl (hb hby own_d_same_79) rfl ?_
            refine XS.iloadN X0.here hx rfl (hb hby own_d_same_80) rfl ?_
            refine XS.bipush X0.here hx rfl (hb hby own_d_same_81) ?_
            refine XS.iushr X0.here hx rfl (hb hby own_d_same_83) rfl ?_
            refine XS.sipush X0.here hx rfl (hb hby own_d_same_84) ?_
            refine XS.iand X0.here hx rfl (hb hby own_d_same_87) rfl ?_
            exact k)
          by_cases hc88_215 : (((p0.toUInt32 >>> ((24 : Int32) &&& 31).toUInt32).toInt32) &&& (255 : Int32)) = (((p1.toUInt32 >>> ((24 : Int32) &&& 31).toUInt32).toInt32) &&& (255 : Int32))
          · obtain ⟨fs, hr, hrun, hended, hW, hsame⟩ := X0.leave (v := some (.int (1 : Int32))) (fun h => by rw [Bd.returns] at h; cases h)
            refine ⟨_, _, pre216 _ ?_, hrun, hended, _, _, rfl, ?_, ⟨_, rfl⟩, hW, hsame.mono (by decide) (by decide)⟩
            · show Steps p.tables e below (s₁.setTop (mkF m 88 #[.val (.int p0), .val (.int p1), .val (.int (((p0.toUInt32 >>> ((16 : Int32) &&& 31).toUInt32).toInt32) &&& (3 : Int32))), .val (.int (((p1.toUInt32 >>> ((16 : Int32) &&& 31).toUInt32).toInt32) &&& (3 : Int32)))] [(.int (((p1.toUInt32 >>> ((24 : Int32) &&& 31).toUInt32).toInt32) &&& (255 : Int32))), (.int (((p0.toUInt32 >>> ((24 : Int32) &&& 31).toUInt32).toInt32) &&& (255 : Int32)))])) _
              refine XS.icmpYes X0.here hx rfl (pc0 := 88) (pc' := 93) rfl (hb hby own_d_same_88) rfl (teq hc88_215).1 (by decide) (by decide) ?_
              refine XS.iconst X0.here hx rfl (hb hby own_d_same_93) ?_
              exact retN X0 hx (t := .boolean) Bd.returns (by simp) (hb hby own_d_same_94) hr
            · show Q_same Z p0 p1 h0 n0 _ s₁.heap _
              refine ⟨?_, N0, e0⟩
              rw [F_same, if_pos hc16_207, if_pos hc23_209, if_pos hc43_211, if_neg hc69_213, if_pos hc88_215]
          · obtain ⟨fs, hr, hrun, hended, hW, hsame⟩ := X0.leave (v := some (.int (0 : Int32))) (fun h => by rw [Bd.returns] at h; cases h)
            refine ⟨_, _, pre216 _ ?_, hrun, hended, _, _, rfl, ?_, ⟨_, rfl⟩, hW, hsame.mono (by decide) (by decide)⟩
            · show Steps p.tables e below (s₁.setTop (mkF m 88 #[.val (.int p0), .val (.int p1), .val (.int (((p0.toUInt32 >>> ((16 : Int32) &&& 31).toUInt32).toInt32) &&& (3 : Int32))), .val (.int (((p1.toUInt32 >>> ((16 : Int32) &&& 31).toUInt32).toInt32) &&& (3 : Int32)))] [(.int (((p1.toUInt32 >>> ((24 : Int32) &&& 31).toUInt32).toInt32) &&& (255 : Int32))), (.int (((p0.toUInt32 >>> ((24 : Int32) &&& 31).toUInt32).toInt32) &&& (255 : Int32)))])) _
              refine XS.icmpNo X0.here hx rfl (hb hby own_d_same_88) rfl (feq hc88_215).1 ?_
              refine XS.iconst X0.here hx rfl (hb hby own_d_same_91) ?_
              exact retN X0 hx (t := .boolean) Bd.returns (by simp) (hb hby own_d_same_92) hr
            · show Q_same Z p0 p1 h0 n0 _ s₁.heap _
              refine ⟨?_, N0, e0⟩
              rw [F_same, if_pos hc16_207, if_pos hc23_209, if_pos hc43_211, if_neg hc69_213, if_neg hc88_215]
      · have pre218 : ∀ t, Steps p.tables e below (s₁.setTop (mkF m 62 #[.val (.int p0), .val (.int p1), .val (.int (((p0.toUInt32 >>> ((16 : Int32) &&& 31).toUInt32).toInt32) &&& (3 : Int32))), .val (.int (((p1.toUInt32 >>> ((16 : Int32) &&& 31).toUInt32).toInt32) &&& (3 : Int32)))] [(.int (((p1.toUInt32 >>> ((8 : Int32) &&& 31).toUInt32).toInt32) &&& (255 : Int32))), (.int (((p0.toUInt32 >>> ((8 : Int32) &&& 31).toUInt32).toInt32) &&& (255 : Int32)))])) t → Steps p.tables e below (s₁.setTop (entryFrame m #[(.int p0), (.int p1)] 4)) t := fun t k => pre212 t (by
          refine XS.icmpNo X0.here hx rfl (hb hby own_d_same_43) rfl (flt hc43_211).1 ?_
          refine XS.iloadN X0.here hx rfl (hb hby own_d_same_46) rfl ?_
          refine XS.bipush X0.here hx rfl (hb hby own_d_same_47) ?_
          refine XS.iushr X0.here hx rfl (hb hby own_d_same_49) rfl ?_
          refine XS.sipush X0.here hx rfl (hb hby own_d_same_50) ?_
          refine XS.iand X0.here hx rfl (hb hby own_d_same_53) rfl ?_
          refine XS.iloadN X0.here hx rfl (hb hby own_d_same_54) rfl ?_
          refine XS.bipush X0.here hx rfl (hb hby own_d_same_55) ?_
          refine XS.iushr X0.here hx rfl (hb hby own_d_same_57) rfl ?_
          refine XS.sipush X0.here hx rfl (hb hby own_d_same_58) ?_
          refine XS.iand X0.here hx rfl (hb hby own_d_same_61) rfl ?_
          exact k)
        by_cases hc62_217 : (((p0.toUInt32 >>> ((8 : Int32) &&& 31).toUInt32).toInt32) &&& (255 : Int32)) = (((p1.toUInt32 >>> ((8 : Int32) &&& 31).toUInt32).toInt32) &&& (255 : Int32))
        · have pre220 : ∀ t, Steps p.tables e below (s₁.setTop (mkF m 69 #[.val (.int p0), .val (.int p1), .val (.int (((p0.toUInt32 >>> ((16 : Int32) &&& 31).toUInt32).toInt32) &&& (3 : Int32))), .val (.int (((p1.toUInt32 >>> ((16 : Int32) &&& 31).toUInt32).toInt32) &&& (3 : Int32)))] [(.int (3 : Int32)), (.int (((p0.toUInt32 >>> ((16 : Int32) &&& 31).toUInt32).toInt32) &&& (3 : Int32)))])) t → Steps p.tables e below (s₁.setTop (entryFrame m #[(.int p0), (.int p1)] 4)) t := fun t k => pre218 t (by
            refine XS.icmpYes X0.here hx rfl (pc0 := 62) (pc' := 67) rfl (hb hby own_d_same_62) rfl (teq hc62_217).1 (by decide) (by decide) ?_
            refine XS.iloadN X0.here hx rfl (hb hby own_d_same_67) rfl ?_
            refine XS.iconst X0.here hx rfl (hb hby own_d_same_68) ?_
            exact k)
          by_cases hc69_219 : (((p0.toUInt32 >>> ((16 : Int32) &&& 31).toUInt32).toInt32) &&& (3 : Int32)) < (3 : Int32)
          · obtain ⟨fs, hr, hrun, hended, hW, hsame⟩ := X0.leave (v := some (.int (1 : Int32))) (fun h => by rw [Bd.returns] at h; cases h)
            refine ⟨_, _, pre220 _ ?_, hrun, hended, _, _, rfl, ?_, ⟨_, rfl⟩, hW, hsame.mono (by decide) (by decide)⟩
            · show Steps p.tables e below (s₁.setTop (mkF m 69 #[.val (.int p0), .val (.int p1), .val (.int (((p0.toUInt32 >>> ((16 : Int32) &&& 31).toUInt32).toInt32) &&& (3 : Int32))), .val (.int (((p1.toUInt32 >>> ((16 : Int32) &&& 31).toUInt32).toInt32) &&& (3 : Int32)))] [(.int (3 : Int32)), (.int (((p0.toUInt32 >>> ((16 : Int32) &&& 31).toUInt32).toInt32) &&& (3 : Int32)))])) _
              refine XS.icmpYes X0.here hx rfl (pc0 := 69) (pc' := 93) rfl (hb hby own_d_same_69) rfl (tlt hc69_219).1 (by decide) (by decide) ?_
              refine XS.iconst X0.here hx rfl (hb hby own_d_same_93) ?_
              exact retN X0 hx (t := .boolean) Bd.returns (by simp) (hb hby own_d_same_94) hr
            · show Q_same Z p0 p1 h0 n0 _ s₁.heap _
              refine ⟨?_, N0, e0⟩
              rw [F_same, if_pos hc16_207, if_pos hc23_209, if_neg hc43_211, if_pos hc62_217, if_pos hc69_219]
          · have pre222 : ∀ t, Steps p.tables e below (s₁.setTop (mkF m 88 #[.val (.int p0), .val (.int p1), .val (.int (((p0.toUInt32 >>> ((16 : Int32) &&& 31).toUInt32).toInt32) &&& (3 : Int32))), .val (.int (((p1.toUInt32 >>> ((16 : Int32) &&& 31).toUInt32).toInt32) &&& (3 : Int32)))] [(.int (((p1.toUInt32 >>> ((24 : Int32) &&& 31).toUInt32).toInt32) &&& (255 : Int32))), (.int (((p0.toUInt32 >>> ((24 : Int32) &&& 31).toUInt32).toInt32) &&& (255 : Int32)))])) t → Steps p.tables e below (s₁.setTop (entryFrame m #[(.int p0), (.int p1)] 4)) t := fun t k => pre220 t (by
              refine XS.icmpNo X0.here hx rfl (hb hby own_d_same_69) rfl (flt hc69_219).1 ?_
              refine XS.iloadN X0.here hx rfl (hb hby own_d_same_72) rfl ?_
              refine XS.bipush X0.here hx rfl (hb hby own_d_same_73) ?_
              refine XS.iushr X0.here hx rfl (hb hby own_d_same_75) rfl ?_
              refine XS.sipush X0.here hx rfl (hb hby own_d_same_76) ?_
              refine XS.iand X0.here hx rfl (hb hby own_d_same_79) rfl ?_
              refine XS.iloadN X0.here hx rfl (hb hby own_d_same_80) rfl ?_
              refine XS.bipush X0.here hx rfl (hb hby own_d_same_81) ?_
              refine XS.iushr X0.here hx rfl (hb hby own_d_same_83) rfl ?_
              refine XS.sipush X0.here hx rfl (hb hby own_d_same_84) ?_
              refine XS.iand X0.here hx rfl (hb hby own_d_same_87) rfl ?_
              exact k)
            by_cases hc88_221 : (((p0.toUInt32 >>> ((24 : Int32) &&& 31).toUInt32).toInt32) &&& (255 : Int32)) = (((p1.toUInt32 >>> ((24 : Int32) &&& 31).toUInt32).toInt32) &&& (255 : Int32))
            · obtain ⟨fs, hr, hrun, hended, hW, hsame⟩ := X0.leave (v := some (.int (1 : Int32))) (fun h => by rw [Bd.returns] at h; cases h)
              refine ⟨_, _, pre222 _ ?_, hrun, hended, _, _, rfl, ?_, ⟨_, rfl⟩, hW, hsame.mono (by decide) (by decide)⟩
              · show Steps p.tables e below (s₁.setTop (mkF m 88 #[.val (.int p0), .val (.int p1), .val (.int (((p0.toUInt32 >>> ((16 : Int32) &&& 31).toUInt32).toInt32) &&& (3 : Int32))), .val (.int (((p1.toUInt32 >>> ((16 : Int32) &&& 31).toUInt32).toInt32) &&& (3 : Int32)))] [(.int (((p1.toUInt32 >>> ((24 : Int32) &&& 31).toUInt32).toInt32) &&& (255 : Int32))), (.int (((p0.toUInt32 >>> ((24 : Int32) &&& 31).toUInt32).toInt32) &&& (255 : Int32)))])) _
                refine XS.icmpYes X0.here hx rfl (pc0 := 88) (pc' := 93) rfl (hb hby own_d_same_88) rfl (teq hc88_221).1 (by decide) (by decide) ?_
                refine XS.iconst X0.here hx rfl (hb hby own_d_same_93) ?_
                exact retN X0 hx (t := .boolean) Bd.returns (by simp) (hb hby own_d_same_94) hr
              · show Q_same Z p0 p1 h0 n0 _ s₁.heap _
                refine ⟨?_, N0, e0⟩
                rw [F_same, if_pos hc16_207, if_pos hc23_209, if_neg hc43_211, if_pos hc62_217, if_neg hc69_219, if_pos hc88_221]
            · obtain ⟨fs, hr, hrun, hended, hW, hsame⟩ := X0.leave (v := some (.int (0 : Int32))) (fun h => by rw [Bd.returns] at h; cases h)
              refine ⟨_, _, pre222 _ ?_, hrun, hended, _, _, rfl, ?_, ⟨_, rfl⟩, hW, hsame.mono (by decide) (by decide)⟩
              · show Steps p.tables e below (s₁.setTop (mkF m 88 #[.val (.int p0), .val (.int p1), .val (.int (((p0.toUInt32 >>> ((16 : Int32) &&& 31).toUInt32).toInt32) &&& (3 : Int32))), .val (.int (((p1.toUInt32 >>> ((16 : Int32) &&& 31).toUInt32).toInt32) &&& (3 : Int32)))] [(.int (((p1.toUInt32 >>> ((24 : Int32) &&& 31).toUInt32).toInt32) &&& (255 : Int32))), (.int (((p0.toUInt32 >>> ((24 : Int32) &&& 31).toUInt32).toInt32) &&& (255 : Int32)))])) _
                refine XS.icmpNo X0.here hx rfl (hb hby own_d_same_88) rfl (feq hc88_221).1 ?_
                refine XS.iconst X0.here hx rfl (hb hby own_d_same_91) ?_
                exact retN X0 hx (t := .boolean) Bd.returns (by simp) (hb hby own_d_same_92) hr
              · show Q_same Z p0 p1 h0 n0 _ s₁.heap _
                refine ⟨?_, N0, e0⟩
                rw [F_same, if_pos hc16_207, if_pos hc23_209, if_neg hc43_211, if_pos hc62_217, if_neg hc69_219, if_neg hc88_221]
        · obtain ⟨fs, hr, hrun, hended, hW, hsame⟩ := X0.leave (v := some (.int (0 : Int32))) (fun h => by rw [Bd.returns] at h; cases h)
          refine ⟨_, _, pre218 _ ?_, hrun, hended, _, _, rfl, ?_, ⟨_, rfl⟩, hW, hsame.mono (by decide) (by decide)⟩
          · show Steps p.tables e below (s₁.setTop (mkF m 62 #[.val (.int p0), .val (.int p1), .val (.int (((p0.toUInt32 >>> ((16 : Int32) &&& 31).toUInt32).toInt32) &&& (3 : Int32))), .val (.int (((p1.toUInt32 >>> ((16 : Int32) &&& 31).toUInt32).toInt32) &&& (3 : Int32)))] [(.int (((p1.toUInt32 >>> ((8 : Int32) &&& 31).toUInt32).toInt32) &&& (255 : Int32))), (.int (((p0.toUInt32 >>> ((8 : Int32) &&& 31).toUInt32).toInt32) &&& (255 : Int32)))])) _
            refine XS.icmpNo X0.here hx rfl (hb hby own_d_same_62) rfl (feq hc62_217).1 ?_
            refine XS.iconst X0.here hx rfl (hb hby own_d_same_65) ?_
            exact retN X0 hx (t := .boolean) Bd.returns (by simp) (hb hby own_d_same_66) hr
          · show Q_same Z p0 p1 h0 n0 _ s₁.heap _
            refine ⟨?_, N0, e0⟩
            rw [F_same, if_pos hc16_207, if_pos hc23_209, if_neg hc43_211, if_neg hc62_217]
    · have pre224 : ∀ t, Steps p.tables e below (s₁.setTop (mkF m 36 #[.val (.int p0), .val (.int p1), .val (.int (((p0.toUInt32 >>> ((16 : Int32) &&& 31).toUInt32).toInt32) &&& (3 : Int32))), .val (.int (((p1.toUInt32 >>> ((16 : Int32) &&& 31).toUInt32).toInt32) &&& (3 : Int32)))] [(.int (p1 &&& (255 : Int32))), (.int (p0 &&& (255 : Int32)))])) t → Steps p.tables e below (s₁.setTop (entryFrame m #[(.int p0), (.int p1)] 4)) t := fun t k => pre210 t (by
        refine XS.icmpNo X0.here hx rfl (hb hby own_d_same_23) rfl (flt hc23_209).1 ?_
        refine XS.iloadN X0.here hx rfl (hb hby own_d_same_26) rfl ?_
        refine XS.sipush X0.here hx rfl (hb hby own_d_same_27) ?_
        refine XS.iand X0.here hx rfl (hb hby own_d_same_30) rfl ?_
        refine XS.iloadN X0.here hx rfl (hb hby own_d_same_31) rfl ?_
        refine XS.sipush X0.here hx rfl (hb hby own_d_same_32) ?_
        refine XS.iand X0.here hx rfl (hb hby own_d_same_35) rfl ?_
        exact k)
      by_cases hc36_223 : (p0 &&& (255 : Int32)) = (p1 &&& (255 : Int32))
      · have pre226 : ∀ t, Steps p.tables e below (s₁.setTop (mkF m 43 #[.val (.int p0), .val (.int p1), .val (.int (((p0.toUInt32 >>> ((16 : Int32) &&& 31).toUInt32).toInt32) &&& (3 : Int32))), .val (.int (((p1.toUInt32 >>> ((16 : Int32) &&& 31).toUInt32).toInt32) &&& (3 : Int32)))] [(.int (2 : Int32)), (.int (((p0.toUInt32 >>> ((16 : Int32) &&& 31).toUInt32).toInt32) &&& (3 : Int32)))])) t → Steps p.tables e below (s₁.setTop (entryFrame m #[(.int p0), (.int p1)] 4)) t := fun t k => pre224 t (by
          refine XS.icmpYes X0.here hx rfl (pc0 := 36) (pc' := 41) rfl (hb hby own_d_same_36) rfl (teq hc36_223).1 (by decide) (by decide) ?_
          refine XS.iloadN X0.here hx rfl (hb hby own_d_same_41) rfl ?_
          refine XS.iconst X0.here hx rfl (hb hby own_d_same_42) ?_
          exact k)
        by_cases hc43_225 : (((p0.toUInt32 >>> ((16 : Int32) &&& 31).toUInt32).toInt32) &&& (3 : Int32)) < (2 : Int32)
        · have pre228 : ∀ t, Steps p.tables e below (s₁.setTop (mkF m 69 #[.val (.int p0), .val (.int p1), .val (.int (((p0.toUInt32 >>> ((16 : Int32) &&& 31).toUInt32).toInt32) &&& (3 : Int32))), .val (.int (((p1.toUInt32 >>> ((16 : Int32) &&& 31).toUInt32).toInt32) &&& (3 : Int32)))] [(.int (3 : Int32)), (.int (((p0.toUInt32 >>> ((16 : Int32) &&& 31).toUInt32).toInt32) &&& (3 : Int32)))])) t → Steps p.tables e below (s₁.setTop (entryFrame m #[(.int p0), (.int p1)] 4)) t := fun t k => pre226 t (by
            refine XS.icmpYes X0.here hx rfl (pc0 := 43) (pc' := 67) rfl (hb hby own_d_same_43) rfl (tlt hc43_225).1 (by decide) (by decide) ?_
            refine XS.iloadN X0.here hx rfl (hb hby own_d_same_67) rfl ?_
            refine XS.iconst X0.here hx rfl (hb hby own_d_same_68) ?_
            exact k)
          by_cases hc69_227 : (((p0.toUInt32 >>> ((16 : Int32) &&& 31).toUInt32).toInt32) &&& (3 : Int32)) < (3 : Int32)
          · obtain ⟨fs, hr, hrun, hended, hW, hsame⟩ := X0.leave (v := some (.int (1 : Int32))) (fun h => by rw [Bd.returns] at h; cases h)
            refine ⟨_, _, pre228 _ ?_, hrun, hended, _, _, rfl, ?_, ⟨_, rfl⟩, hW, hsame.mono (by decide) (by decide)⟩
            · show Steps p.tables e below (s₁.setTop (mkF m 69 #[.val (.int p0), .val (.int p1), .val (.int (((p0.toUInt32 >>> ((16 : Int32) &&& 31).toUInt32).toInt32) &&& (3 : Int32))), .val (.int (((p1.toUInt32 >>> ((16 : Int32) &&& 31).toUInt32).toInt32) &&& (3 : Int32)))] [(.int (3 : Int32)), (.int (((p0.toUInt32 >>> ((16 : Int32) &&& 31).toUInt32).toInt32) &&& (3 : Int32)))])) _
              refine XS.icmpYes X0.here hx rfl (pc0 := 69) (pc' := 93) rfl (hb hby own_d_same_69) rfl (tlt hc69_227).1 (by decide) (by decide) ?_
              refine XS.iconst X0.here hx rfl (hb hby own_d_same_93) ?_
              exact retN X0 hx (t := .boolean) Bd.returns (by simp) (hb hby own_d_same_94) hr
            · show Q_same Z p0 p1 h0 n0 _ s₁.heap _
              refine ⟨?_, N0, e0⟩
              rw [F_same, if_pos hc16_207, if_neg hc23_209, if_pos hc36_223, if_pos hc43_225, if_pos hc69_227]
          · have pre230 : ∀ t, Steps p.tables e below (s₁.setTop (mkF m 88 #[.val (.int p0), .val (.int p1), .val (.int (((p0.toUInt32 >>> ((16 : Int32) &&& 31).toUInt32).toInt32) &&& (3 : Int32))), .val (.int (((p1.toUInt32 >>> ((16 : Int32) &&& 31).toUInt32).toInt32) &&& (3 : Int32)))] [(.int (((p1.toUInt32 >>> ((24 : Int32) &&& 31).toUInt32).toInt32) &&& (255 : Int32))), (.int (((p0.toUInt32 >>> ((24 : Int32) &&& 31).toUInt32).toInt32) &&& (255 : Int32)))])) t → Steps p.tables e below (s₁.setTop (entryFrame m #[(.int p0), (.int p1)] 4)) t := fun t k => pre228 t (by
              refine XS.icmpNo X0.here hx rfl (hb hby own_d_same_69) rfl (flt hc69_227).1 ?_
              refine XS.iloadN X0.here hx rfl (hb hby own_d_same_72) rfl ?_
              refine XS.bipush X0.here hx rfl (hb hby own_d_same_73) ?_
              refine XS.iushr X0.here hx rfl (hb hby own_d_same_75) rfl ?_
              refine XS.sipush X0.here hx rfl (hb hby own_d_same_76) ?_
              refine XS.iand X0.here hx rfl (hb hby own_d_same_79) rfl ?_
              refine XS.iloadN X0.here hx rfl (hb hby own_d_same_80) rfl ?_
              refine XS.bipush X0.here hx rfl (hb hby own_d_same_81) ?_
              refine XS.iushr X0.here hx rfl (hb hby own_d_same_83) rfl ?_
              refine XS.sipush X0.here hx rfl (hb hby own_d_same_84) ?_
              refine XS.iand X0.here hx rfl (hb hby own_d_same_87) rfl ?_
              exact k)
            by_cases hc88_229 : (((p0.toUInt32 >>> ((24 : Int32) &&& 31).toUInt32).toInt32) &&& (255 : Int32)) = (((p1.toUInt32 >>> ((24 : Int32) &&& 31).toUInt32).toInt32) &&& (255 : Int32))
            · obtain ⟨fs, hr, hrun, hended, hW, hsame⟩ := X0.leave (v := some (.int (1 : Int32))) (fun h => by rw [Bd.returns] at h; cases h)
              refine ⟨_, _, pre230 _ ?_, hrun, hended, _, _, rfl, ?_, ⟨_, rfl⟩, hW, hsame.mono (by decide) (by decide)⟩
              · show Steps p.tables e below (s₁.setTop (mkF m 88 #[.val (.int p0), .val (.int p1), .val (.int (((p0.toUInt32 >>> ((16 : Int32) &&& 31).toUInt32).toInt32) &&& (3 : Int32))), .val (.int (((p1.toUInt32 >>> ((16 : Int32) &&& 31).toUInt32).toInt32) &&& (3 : Int32)))] [(.int (((p1.toUInt32 >>> ((24 : Int32) &&& 31).toUInt32).toInt32) &&& (255 : Int32))), (.int (((p0.toUInt32 >>> ((24 : Int32) &&& 31).toUInt32).toInt32) &&& (255 : Int32)))])) _
                refine XS.icmpYes X0.here hx rfl (pc0 := 88) (pc' := 93) rfl (hb hby own_d_same_88) rfl (teq hc88_229).1 (by decide) (by decide) ?_
                refine XS.iconst X0.here hx rfl (hb hby own_d_same_93) ?_
                exact retN X0 hx (t := .boolean) Bd.returns (by simp) (hb hby own_d_same_94) hr
              · show Q_same Z p0 p1 h0 n0 _ s₁.heap _
                refine ⟨?_, N0, e0⟩
                rw [F_same, if_pos hc16_207, if_neg hc23_209, if_pos hc36_223, if_pos hc43_225, if_neg hc69_227, if_pos hc88_229]
            · obtain ⟨fs, hr, hrun, hended, hW, hsame⟩ := X0.leave (v := some (.int (0 : Int32))) (fun h => by rw [Bd.returns] at h; cases h)
              refine ⟨_, _, pre230 _ ?_, hrun, hended, _, _, rfl, ?_, ⟨_, rfl⟩, hW, hsame.mono (by decide) (by decide)⟩
              · show Steps p.tables e below (s₁.setTop (mkF m 88 #[.val (.int p0), .val (.int p1), .val (.int (((p0.toUInt32 >>> ((16 : Int32) &&& 31).toUInt32).toInt32) &&& (3 : Int32))), .val (.int (((p1.toUInt32 >>> ((16 : Int32) &&& 31).toUInt32).toInt32) &&& (3 : Int32)))] [(.int (((p1.toUInt32 >>> ((24 : Int32) &&& 31).toUInt32).toInt32) &&& (255 : Int32))), (.int (((p0.toUInt32 >>> ((24 : Int32) &&& 31).toUInt32).toInt32) &&& (255 : Int32)))])) _
                refine XS.icmpNo X0.here hx rfl (hb hby own_d_same_88) rfl (feq hc88_229).1 ?_
                refine XS.iconst X0.here hx rfl (hb hby own_d_same_91) ?_
                exact retN X0 hx (t := .boolean) Bd.returns (by simp) (hb hby own_d_same_92) hr
              · show Q_same Z p0 p1 h0 n0 _ s₁.heap _
                refine ⟨?_, N0, e0⟩
                rw [F_same, if_pos hc16_207, if_neg hc23_209, if_pos hc36_223, if_pos hc43_225, if_neg hc69_227, if_neg hc88_229]
        · have pre232 : ∀ t, Steps p.tables e below (s₁.setTop (mkF m 62 #[.val (.int p0), .val (.int p1), .val (.int (((p0.toUInt32 >>> ((16 : Int32) &&& 31).toUInt32).toInt32) &&& (3 : Int32))), .val (.int (((p1.toUInt32 >>> ((16 : Int32) &&& 31).toUInt32).toInt32) &&& (3 : Int32)))] [(.int (((p1.toUInt32 >>> ((8 : Int32) &&& 31).toUInt32).toInt32) &&& (255 : Int32))), (.int (((p0.toUInt32 >>> ((8 : Int32) &&& 31).toUInt32).toInt32) &&& (255 : Int32)))])) t → Steps p.tables e below (s₁.setTop (entryFrame m #[(.int p0), (.int p1)] 4)) t := fun t k => pre226 t (by
            refine XS.icmpNo X0.here hx rfl (hb hby own_d_same_43) rfl (flt hc43_225).1 ?_
            refine XS.iloadN X0.here hx rfl (hb hby own_d_same_46) rfl ?_
            refine XS.bipush X0.here hx rfl (hb hby own_d_same_47) ?_
            refine XS.iushr X0.here hx rfl (hb hby own_d_same_49) rfl ?_
            refine XS.sipush X0.here hx rfl (hb hby own_d_same_50) ?_
            refine XS.iand X0.here hx rfl (hb hby own_d_same_53) rfl ?_
            refine XS.iloadN X0.here hx rfl (hb hby own_d_same_54) rfl ?_
            refine XS.bipush X0.here hx rfl (hb hby own_d_same_55) ?_
            refine XS.iushr X0.here hx rfl (hb hby own_d_same_57) rfl ?_
            refine XS.sipush X0.here hx rfl (hb hby own_d_same_58) ?_
            refine XS.iand X0.here hx rfl (hb hby own_d_same_61) rfl ?_
            exact k)
          by_cases hc62_231 : (((p0.toUInt32 >>> ((8 : Int32) &&& 31).toUInt32).toInt32) &&& (255 : Int32)) = (((p1.toUInt32 >>> ((8 : Int32) &&& 31).toUInt32).toInt32) &&& (255 : Int32))
          · have pre234 : ∀ t, Steps p.tables e below (s₁.setTop (mkF m 69 #[.val (.int p0), .val (.int p1), .val (.int (((p0.toUInt32 >>> ((16 : Int32) &&& 31).toUInt32).toInt32) &&& (3 : Int32))), .val (.int (((p1.toUInt32 >>> ((16 : Int32) &&& 31).toUInt32).toInt32) &&& (3 : Int32)))] [(.int (3 : Int32)), (.int (((p0.toUInt32 >>> ((16 : Int32) &&& 31).toUInt32).toInt32) &&& (3 : Int32)))])) t → Steps p.tables e below (s₁.setTop (entryFrame m #[(.int p0), (.int p1)] 4)) t := fun t k => pre232 t (by
              refine XS.icmpYes X0.here hx rfl (pc0 := 62) (pc' := 67) rfl (hb hby own_d_same_62) rfl (teq hc62_231).1 (by decide) (by decide) ?_
              refine XS.iloadN X0.here hx rfl (hb hby own_d_same_67) rfl ?_
              refine XS.iconst X0.here hx rfl (hb hby own_d_same_68) ?_
              exact k)
            by_cases hc69_233 : (((p0.toUInt32 >>> ((16 : Int32) &&& 31).toUInt32).toInt32) &&& (3 : Int32)) < (3 : Int32)
            · obtain ⟨fs, hr, hrun, hended, hW, hsame⟩ := X0.leave (v := some (.int (1 : Int32))) (fun h => by rw [Bd.returns] at h; cases h)
              refine ⟨_, _, pre234 _ ?_, hrun, hended, _, _, rfl, ?_, ⟨_, rfl⟩, hW, hsame.mono (by decide) (by decide)⟩
              · show Steps p.tables e below (s₁.setTop (mkF m 69 #[.val (.int p0), .val (.int p1), .val (.int (((p0.toUInt32 >>> ((16 : Int32) &&& 31).toUInt32).toInt32) &&& (3 : Int32))), .val (.int (((p1.toUInt32 >>> ((16 : Int32) &&& 31).toUInt32).toInt32) &&& (3 : Int32)))] [(.int (3 : Int32)), (.int (((p0.toUInt32 >>> ((16 : Int32) &&& 31).toUInt32).toInt32) &&& (3 : Int32)))])) _
                refine XS.icmpYes X0.here hx rfl (pc0 := 69) (pc' := 93) rfl (hb hby own_d_same_69) rfl (tlt hc69_233).1 (by decide) (by decide) ?_
                refine XS.iconst X0.here hx rfl (hb hby own_d_same_93) ?_
                exact retN X0 hx (t := .boolean) Bd.returns (by simp) (hb hby own_d_same_94) hr
              · show Q_same Z p0 p1 h0 n0 _ s₁.heap _
                refine ⟨?_, N0, e0⟩
                rw [F_same, if_pos hc16_207, if_neg hc23_209, if_pos hc36_223, if_neg hc43_225, if_pos hc62_231, if_pos hc69_233]
            · have pre236 : ∀ t, Steps p.tables e below (s₁.setTop (mkF m 88 #[.val (.int p0), .val (.int p1), .val (.int (((p0.toUInt32 >>> ((16 : Int32) &&& 31).toUInt32).toInt32) &&& (3 : Int32))), .val (.int (((p1.toUInt32 >>> ((16 : Int32) &&& 31).toUInt32).toInt32) &&& (3 : Int32)))] [(.int (((p1.toUInt32 >>> ((24 : Int32) &&& 31).toUInt32).toInt32) &&& (255 : Int32))), (.int (((p0.toUInt32 >>> ((24 : Int32) &&& 31).toUInt32).toInt32) &&& (255 : Int32)))])) t → Steps p.tables e below (s₁.setTop (entryFrame m #[(.int p0), (.int p1)] 4)) t := fun t k => pre234 t (by
                refine XS.icmpNo X0.here hx rfl (hb hby own_d_same_69) rfl (flt hc69_233).1 ?_
                refine XS.iloadN X0.here hx rfl (hb hby own_d_same_72) rfl ?_
                refine XS.bipush X0.here hx rfl (hb hby own_d_same_73) ?_
                refine XS.iushr X0.here hx rfl (hb hby own_d_same_75) rfl ?_
                refine XS.sipush X0.here hx rfl (hb hby own_d_same_76) ?_
                refine XS.iand X0.here hx rfl (hb hby own_d_same_79) rfl ?_
                refine XS.iloadN X0.here hx rfl (hb hby own_d_same_80) rfl ?_
                refine XS.bipush X0.here hx rfl (hb hby own_d_same_81) ?_
                refine XS.iushr X0.here hx rfl (hb hby own_d_same_83) rfl ?_
                refine XS.sipush X0.here hx rfl (hb hby own_d_same_84) ?_
                refine XS.iand X0.here hx rfl (hb hby own_d_same_87) rfl ?_
                exact k)
              by_cases hc88_235 : (((p0.toUInt32 >>> ((24 : Int32) &&& 31).toUInt32).toInt32) &&& (255 : Int32)) = (((p1.toUInt32 >>> ((24 : Int32) &&& 31).toUInt32).toInt32) &&& (255 : Int32))
              · obtain ⟨fs, hr, hrun, hended, hW, hsame⟩ := X0.leave (v := some (.int (1 : Int32))) (fun h => by rw [Bd.returns] at h; cases h)
                refine ⟨_, _, pre236 _ ?_, hrun, hended, _, _, rfl, ?_, ⟨_, rfl⟩, hW, hsame.mono (by decide) (by decide)⟩
                · show Steps p.tables e below (s₁.setTop (mkF m 88 #[.val (.int p0), .val (.int p1), .val (.int (((p0.toUInt32 >>> ((16 : Int32) &&& 31).toUInt32).toInt32) &&& (3 : Int32))), .val (.int (((p1.toUInt32 >>> ((16 : Int32) &&& 31).toUInt32).toInt32) &&& (3 : Int32)))] [(.int (((p1.toUInt32 >>> ((24 : Int32) &&& 31).toUInt32).toInt32) &&& (255 : Int32))), (.int (((p0.toUInt32 >>> ((24 : Int32) &&& 31).toUInt32).toInt32) &&& (255 : Int32)))])) _
                  refine XS.icmpYes X0.here hx rfl (pc0 := 88) (pc' := 93) rfl (hb hby own_d_same_88) rfl (teq hc88_235).1 (by decide) (by decide) ?_
                  refine XS.iconst X0.here hx rfl (hb hby own_d_same_93) ?_
                  exact retN X0 hx (t := .boolean) Bd.returns (by simp) (hb hby own_d_same_94) hr
                · show Q_same Z p0 p1 h0 n0 _ s₁.heap _
                  refine ⟨?_, N0, e0⟩
                  rw [F_same, if_pos hc16_207, if_neg hc23_209, if_pos hc36_223, if_neg hc43_225, if_pos hc62_231, if_neg hc69_233, if_pos hc88_235]
              · obtain ⟨fs, hr, hrun, hended, hW, hsame⟩ := X0.leave (v := some (.int (0 : Int32))) (fun h => by rw [Bd.returns] at h; cases h)
                refine ⟨_, _, pre236 _ ?_, hrun, hended, _, _, rfl, ?_, ⟨_, rfl⟩, hW, hsame.mono (by decide) (by decide)⟩
                · show Steps p.tables e below (s₁.setTop (mkF m 88 #[.val (.int p0), .val (.int p1), .val (.int (((p0.toUInt32 >>> ((16 : Int32) &&& 31).toUInt32).toInt32) &&& (3 : Int32))), .val (.int (((p1.toUInt32 >>> ((16 : Int32) &&& 31).toUInt32).toInt32) &&& (3 : Int32)))] [(.int (((p1.toUInt32 >>> ((24 : Int32) &&& 31).toUInt32).toInt32) &&& (255 : Int32))), (.int (((p0.toUInt32 >>> ((24 : Int32) &&& 31).toUInt32).toInt32) &&& (255 : Int32)))])) _
                  refine XS.icmpNo X0.here hx rfl (hb hby own_d_same_88) rfl (feq hc88_235).1 ?_
                  refine XS.iconst X0.here hx rfl (hb hby own_d_same_91) ?_
                  exact retN X0 hx (t := .boolean) Bd.returns (by simp) (hb hby own_d_same_92) hr
                · show Q_same Z p0 p1 h0 n0 _ s₁.heap _
                  refine ⟨?_, N0, e0⟩
                  rw [F_same, if_pos hc16_207, if_neg hc23_209, if_pos hc36_223, if_neg hc43_225, if_pos hc62_231, if_neg hc69_233, if_neg hc88_235]
          · obtain ⟨fs, hr, hrun, hended, hW, hsame⟩ := X0.leave (v := some (.int (0 : Int32))) (fun h => by rw [Bd.returns] at h; cases h)
            refine ⟨_, _, pre232 _ ?_, hrun, hended, _, _, rfl, ?_, ⟨_, rfl⟩, hW, hsame.mono (by decide) (by decide)⟩
            · show Steps p.tables e below (s₁.setTop (mkF m 62 #[.val (.int p0), .val (.int p1), .val (.int (((p0.toUInt32 >>> ((16 : Int32) &&& 31).toUInt32).toInt32) &&& (3 : Int32))), .val (.int (((p1.toUInt32 >>> ((16 : Int32) &&& 31).toUInt32).toInt32) &&& (3 : Int32)))] [(.int (((p1.toUInt32 >>> ((8 : Int32) &&& 31).toUInt32).toInt32) &&& (255 : Int32))), (.int (((p0.toUInt32 >>> ((8 : Int32) &&& 31).toUInt32).toInt32) &&& (255 : Int32)))])) _
              refine XS.icmpNo X0.here hx rfl (hb hby own_d_same_62) rfl (feq hc62_231).1 ?_
              refine XS.iconst X0.here hx rfl (hb hby own_d_same_65) ?_
              exact retN X0 hx (t := .boolean) Bd.returns (by simp) (hb hby own_d_same_66) hr
            · show Q_same Z p0 p1 h0 n0 _ s₁.heap _
              refine ⟨?_, N0, e0⟩
              rw [F_same, if_pos hc16_207, if_neg hc23_209, if_pos hc36_223, if_neg hc43_225, if_neg hc62_231]
      · obtain ⟨fs, hr, hrun, hended, hW, hsame⟩ := X0.leave (v := some (.int (0 : Int32))) (fun h => by rw [Bd.returns] at h; cases h)
        refine ⟨_, _, pre224 _ ?_, hrun, hended, _, _, rfl, ?_, ⟨_, rfl⟩, hW, hsame.mono (by decide) (by decide)⟩
        · show Steps p.tables e below (s₁.setTop (mkF m 36 #[.val (.int p0), .val (.int p1), .val (.int (((p0.toUInt32 >>> ((16 : Int32) &&& 31).toUInt32).toInt32) &&& (3 : Int32))), .val (.int (((p1.toUInt32 >>> ((16 : Int32) &&& 31).toUInt32).toInt32) &&& (3 : Int32)))] [(.int (p1 &&& (255 : Int32))), (.int (p0 &&& (255 : Int32)))])) _
          refine XS.icmpNo X0.here hx rfl (hb hby own_d_same_36) rfl (feq hc36_223).1 ?_
          refine XS.iconst X0.here hx rfl (hb hby own_d_same_39) ?_
          exact retN X0 hx (t := .boolean) Bd.returns (by simp) (hb hby own_d_same_40) hr
        · show Q_same Z p0 p1 h0 n0 _ s₁.heap _
          refine ⟨?_, N0, e0⟩
          rw [F_same, if_pos hc16_207, if_neg hc23_209, if_neg hc36_223]
  · obtain ⟨fs, hr, hrun, hended, hW, hsame⟩ := X0.leave (v := some (.int (0 : Int32))) (fun h => by rw [Bd.returns] at h; cases h)
    refine ⟨_, _, pre208 _ ?_, hrun, hended, _, _, rfl, ?_, ⟨_, rfl⟩, hW, hsame.mono (by decide) (by decide)⟩
    · show Steps p.tables e below (s₁.setTop (mkF m 16 #[.val (.int p0), .val (.int p1), .val (.int (((p0.toUInt32 >>> ((16 : Int32) &&& 31).toUInt32).toInt32) &&& (3 : Int32))), .val (.int (((p1.toUInt32 >>> ((16 : Int32) &&& 31).toUInt32).toInt32) &&& (3 : Int32)))] [(.int (((p1.toUInt32 >>> ((16 : Int32) &&& 31).toUInt32).toInt32) &&& (3 : Int32))), (.int (((p0.toUInt32 >>> ((16 : Int32) &&& 31).toUInt32).toInt32) &&& (3 : Int32)))])) _
      refine XS.icmpNo X0.here hx rfl (hb hby own_d_same_16) rfl (feq hc16_207).1 ?_
      refine XS.iconst X0.here hx rfl (hb hby own_d_same_19) ?_
      exact retN X0 hx (t := .boolean) Bd.returns (by simp) (hb hby own_d_same_20) hr
    · show Q_same Z p0 p1 h0 n0 _ s₁.heap _
      refine ⟨?_, N0, e0⟩
      rw [F_same, if_neg hc16_207]
theorem own_pn4 : plainName "com/example/entry_to_apps/entrytoapps/GridProfile" = true := by first | (simp [plainName, overriddenIn]; done) | decide +kernel
theorem own_d_gpi_0 : decode prog_24_method_1_code 0 = .ok (.aload_n 0, 1) := by decide +kernel
theorem own_d_gpi_1 : decode prog_24_method_1_code 1 = .ok (.invokespecial 1, 3) := by decide +kernel
theorem own_d_gpi_4 : decode prog_24_method_1_code 4 = .ok (.aload_n 0, 1) := by decide +kernel
theorem own_d_gpi_5 : decode prog_24_method_1_code 5 = .ok (.aload_n 1, 1) := by decide +kernel
theorem own_d_gpi_6 : decode prog_24_method_1_code 6 = .ok (.putfield 7, 3) := by decide +kernel
theorem own_d_gpi_9 : decode prog_24_method_1_code 9 = .ok (.aload_n 0, 1) := by decide +kernel
theorem own_d_gpi_10 : decode prog_24_method_1_code 10 = .ok (.iload_n 2, 1) := by decide +kernel
theorem own_d_gpi_11 : decode prog_24_method_1_code 11 = .ok (.putfield 13, 3) := by decide +kernel
theorem own_d_gpi_14 : decode prog_24_method_1_code 14 = .ok (.aload_n 0, 1) := by decide +kernel
theorem own_d_gpi_15 : decode prog_24_method_1_code 15 = .ok (.iload_n 3, 1) := by decide +kernel
theorem own_d_gpi_16 : decode prog_24_method_1_code 16 = .ok (.putfield 17, 3) := by decide +kernel
theorem own_d_gpi_19 : decode prog_24_method_1_code 19 = .ok (.aload_n 0, 1) := by decide +kernel
theorem own_d_gpi_20 : decode prog_24_method_1_code 20 = .ok (.iload 4, 2) := by decide +kernel
theorem own_d_gpi_22 : decode prog_24_method_1_code 22 = .ok (.putfield 20, 3) := by decide +kernel
theorem own_d_gpi_25 : decode prog_24_method_1_code 25 = .ok (.aload_n 0, 1) := by decide +kernel
theorem own_d_gpi_26 : decode prog_24_method_1_code 26 = .ok (.iload 5, 2) := by decide +kernel
theorem own_d_gpi_28 : decode prog_24_method_1_code 28 = .ok (.putfield 23, 3) := by decide +kernel
theorem own_d_gpi_31 : decode prog_24_method_1_code 31 = .ok (.aload_n 0, 1) := by decide +kernel
theorem own_d_gpi_32 : decode prog_24_method_1_code 32 = .ok (.iload 6, 2) := by decide +kernel
theorem own_d_gpi_34 : decode prog_24_method_1_code 34 = .ok (.putfield 26, 3) := by decide +kernel
theorem own_d_gpi_37 : decode prog_24_method_1_code 37 = .ok (.aload_n 0, 1) := by decide +kernel
theorem own_d_gpi_38 : decode prog_24_method_1_code 38 = .ok (.iload 7, 2) := by decide +kernel
theorem own_d_gpi_40 : decode prog_24_method_1_code 40 = .ok (.putfield 29, 3) := by decide +kernel
theorem own_d_gpi_43 : decode prog_24_method_1_code 43 = .ok (.return_, 1) := by decide +kernel
theorem own_ef_gpi (m : MethodId) (a0 : Addr) (a1 : Addr) (p2 : Int32) (p3 : Int32) (p4 : Int32) (p5 : Int32) (p6 : Int32) (p7 : Int32) : entryFrame m #[(.ref a0), (.ref a1), (.int p2), (.int p3), (.int p4), (.int p5), (.int p6), (.int p7)] 8 = mkF m 0 #[.val (.ref a0), .val (.ref a1), .val (.int p2), .val (.int p3), .val (.int p4), .val (.int p5), .val (.int p6), .val (.int p7)] [] := by first | (simp [entryFrame, mkF, argsToLocals, Value.category]; done) | rfl
def Q_gpi (Z : State) (a0 : Addr) (a1 : Addr) (p2 : Int32) (p3 : Int32) (p4 : Int32) (p5 : Int32) (p6 : Int32) (p7 : Int32) (h0 : Heap) (n0 : Nat) (v : Option Value) (h : Heap) (L : List Loc) : Prop := v = none ∧ Fr n0 L ∧ Keep h0 h [a0] ∧ Exa Z h a0 "com/example/entry_to_apps/entrytoapps/GridProfile" ∧ Fld Z h a0 "com/example/entry_to_apps/entrytoapps/GridProfile" "name" "Ljava/lang/String;" (.ref a1) ∧ Fld Z h a0 "com/example/entry_to_apps/entrytoapps/GridProfile" "rows" "I" (.int p2) ∧ Fld Z h a0 "com/example/entry_to_apps/entrytoapps/GridProfile" "columns" "I" (.int p3) ∧ Fld Z h a0 "com/example/entry_to_apps/entrytoapps/GridProfile" "minWidth" "I" (.int p4) ∧ Fld Z h a0 "com/example/entry_to_apps/entrytoapps/GridProfile" "minHeight" "I" (.int p5) ∧ Fld Z h a0 "com/example/entry_to_apps/entrytoapps/GridProfile" "iconSize" "I" (.int p6) ∧ Fld Z h a0 "com/example/entry_to_apps/entrytoapps/GridProfile" "isDefault" "Z" (.int (nar .boolean p7))
set_option maxRecDepth 65536 in
set_option maxHeartbeats 40000000 in
theorem rm_gpi (l : Launch) (Z : State) (a0' : Array Value) (hw : ∀ d ∈ tables_1, d.before a0' Z = true) (ws : List Jvm.Cond) (a0 : Addr) (a1 : Addr) (p2 : Int32) (p3 : Int32) (p4 : Int32) (p5 : Int32) (p6 : Int32) (p7 : Int32) (h0 : Heap) (n0 : Nat) (Z0 : n0 ≤ h0.size) (E_t : Exa Z h0 a0 "com/example/entry_to_apps/entrytoapps/GridProfile") (F0r : Fld Z h0 a0 "com/example/entry_to_apps/entrytoapps/GridProfile" "rows" "I" (.int (0 : Int32))) (g_t : n0 ≤ a0) :
    MetFree l (⟨"com/example/entry_to_apps/entrytoapps/GridProfile", "<init>", "(Ljava/lang/String;IIIIIZ)V"⟩ : MethodName) (head1 (Jvm.Cond.code (⟨"com/example/entry_to_apps/entrytoapps/GridProfile", "<init>", "(Ljava/lang/String;IIIIIZ)V"⟩ : MethodName) prog_24_method_1_code 8 none :: ws) ({ frames := 1, cells := 0, slots := 0, locals := 12 } : Room)) (fun a U => a = #[(.ref a0), (.ref a1), (.int p2), (.int p3), (.int p4), (.int p5), (.int p6), (.int p7)] ∧ Z.Warmed39 U.vm ∧ U.heap = h0) (fun _ _ _ _ _ => True) (fun _ U o U' => ∃ v L, o = .returned v ∧ Q_gpi Z a0 a1 p2 p3 p4 p5 p6 p7 h0 n0 v U'.heap L ∧ FrameEnd U o U' L ({ frames := 1, cells := 0, slots := 0, locals := 12 } : Room).cells ({ frames := 1, cells := 0, slots := 0, locals := 12 } : Room).slots) := by
  refine MetFree.of_bodySF (plainFor_of_name own_pn4) hisR ?_
  intro p e s m args below meth c s₁ Bd hml0 hP hK
  obtain ⟨rfl, hZ, hh⟩ := hP
  have hx := Bd.exec
  have hby := Bd.bytes
  have hml : c.maxLocals = 8 := hml0
  have hown : s.vm.findClass "com/example/entry_to_apps/entrytoapps/GridProfile" = some m.cls := findClass_of_methodNamed Bd.named
  have hnm := (name_of_methodNamed Bd.named Bd.method).1
  have X0 : Stand p l e ({ frames := 1, cells := 0, slots := 0, locals := 12 } : Room) s m #[(.ref a0), (.ref a1), (.int p2), (.int p3), (.int p4), (.int p5), (.int p6), (.int p7)] below meth c s₁ [] 0 0 := Stand.of_body Bd
  have e0 : s₁.heap = h0 := by rw [← hh, Bd.state]; rfl
  have N0 := Fr.nil n0
  have pre0 : ∀ t, Steps p.tables e below (s₁.setTop (mkF m 0 #[.val (.ref a0), .val (.ref a1), .val (.int p2), .val (.int p3), .val (.int p4), .val (.int p5), .val (.int p6), .val (.int p7)] [])) t → Steps p.tables e below (s₁.setTop (entryFrame m #[(.ref a0), (.ref a1), (.int p2), (.int p3), (.int p4), (.int p5), (.int p6), (.int p7)] 8)) t := fun t k => castTop (own_ef_gpi m a0 a1 p2 p3 p4 p5 p6 p7) k
  obtain ⟨T237, X237, e237, st237⟩ := initO X0 hx hZ hown (ow hw 35 rfl) (ow hw 16 rfl) (ow hw 17 rfl) e0 (g := (mkF m 1 #[.val (.ref a0), .val (.ref a1), .val (.int p2), .val (.int p3), .val (.int p4), .val (.int p5), .val (.int p6), .val (.int p7)] [(.ref a0)])) rfl (by rw [hml]; rfl) rfl (hb hby own_d_gpi_1) (by decide) (W := 0) (by show 2 * 0 + _ ≤ _; exact Nat.le_of_eq rfl) (by decide)
  obtain ⟨old238, Fo238⟩ := own_fld2 (O := "com/example/entry_to_apps/entrytoapps/GridProfile") (n := "name") (d := "Ljava/lang/String;") (a0 := a0') E_t F0r (Or.inr (ow hw 37 rfl)) (ow hw 30 rfl)
  obtain ⟨T239, h239, X239, e239, W239, st239⟩ := putF X237 hx hZ hown (host := "") (Or.inl (ow hw 36 rfl)) Via.refl e237 Fo238 E_t (Or.inr ⟨(ow hw 37 rfl), rfl, hnm⟩) (ow hw 30 rfl) (ty := (.object "java/lang/String")) (by decide) rfl rfl (g := (mkF m 6 #[.val (.ref a0), .val (.ref a1), .val (.int p2), .val (.int p3), .val (.int p4), .val (.int p5), .val (.int p6), .val (.int p7)] [(.ref a1), (.ref a0)])) rfl rfl (hb hby own_d_gpi_6)
  have Fw239 : Fld Z h239 a0 "com/example/entry_to_apps/entrytoapps/GridProfile" "name" "Ljava/lang/String;" (.ref a1) := Fo238.same W239
  have N239 := Fr.snoc X239 N0 g_t
  have KP239 : Keep h0 h239 [a0] := (Keep.refl h0 [a0]).wr W239 (Or.inl (List.mem_of_getElem? (i := 0) rfl))
  have SZ239 : h0.size ≤ h239.size := KP239.1
  have Z239 : n0 ≤ h239.size := Nat.le_trans Z0 SZ239
  have fx241 := (E_t.wr W239)
  have fx242 := (F0r.other W239 (Or.inr (slot_ne (a0 := a0') (Or.inr (ow hw 39 rfl)) (Or.inr (ow hw 37 rfl)) (by decide) (t := .int) (t' := (.object "java/lang/String")) (by decide) (by decide))))
  have Fo240 := fx242
  obtain ⟨T243, h243, X243, e243, W243, st243⟩ := putF X239 hx hZ hown (host := "") (Or.inl (ow hw 38 rfl)) Via.refl e239 Fo240 fx241 (Or.inr ⟨(ow hw 39 rfl), rfl, hnm⟩) (ow hw 30 rfl) (ty := .int) (by decide) rfl rfl (g := (mkF m 11 #[.val (.ref a0), .val (.ref a1), .val (.int p2), .val (.int p3), .val (.int p4), .val (.int p5), .val (.int p6), .val (.int p7)] [(.int p2), (.ref a0)])) rfl rfl (hb hby own_d_gpi_11)
  have Fw243 : Fld Z h243 a0 "com/example/entry_to_apps/entrytoapps/GridProfile" "rows" "I" (.int p2) := Fo240.same W243
  have N243 := Fr.snoc X243 N239 g_t
  have KP243 : Keep h0 h243 [a0] := KP239.wr W243 (Or.inl (List.mem_of_getElem? (i := 0) rfl))
  have SZ243 : h0.size ≤ h243.size := KP243.1
  have Z243 : n0 ≤ h243.size := Nat.le_trans Z0 SZ243
  have fx245 := (fx241.wr W243)
  obtain ⟨old244, Fo244⟩ := own_fld2 (O := "com/example/entry_to_apps/entrytoapps/GridProfile") (n := "columns") (d := "I") (a0 := a0') fx245 Fw243 (Or.inr (ow hw 41 rfl)) (ow hw 30 rfl)
  obtain ⟨T246, h246, X246, e246, W246, st246⟩ := putF X243 hx hZ hown (host := "") (Or.inl (ow hw 40 rfl)) Via.refl e243 Fo244 fx245 (Or.inr ⟨(ow hw 41 rfl), rfl, hnm⟩) (ow hw 30 rfl) (ty := .int) (by decide) rfl rfl (g := (mkF m 16 #[.val (.ref a0), .val (.ref a1), .val (.int p2), .val (.int p3), .val (.int p4), .val (.int p5), .val (.int p6), .val (.int p7)] [(.int p3), (.ref a0)])) rfl rfl (hb hby own_d_gpi_16)
  have Fw246 : Fld Z h246 a0 "com/example/entry_to_apps/entrytoapps/GridProfile" "columns" "I" (.int p3) := Fo244.same W246
  have N246 := Fr.snoc X246 N243 g_t
  have KP246 : Keep h0 h246 [a0] := KP243.wr W246 (Or.inl (List.mem_of_getElem? (i := 0) rfl))
  have SZ246 : h0.size ≤ h246.size := KP246.1
  have Z246 : n0 ≤ h246.size := Nat.le_trans Z0 SZ246
  have fx248 := (fx245.wr W246)
  have fx249 := (Fw243.other W246 (Or.inr (slot_ne (a0 := a0') (Or.inr (ow hw 39 rfl)) (Or.inr (ow hw 41 rfl)) (by decide) (t := .int) (t' := .int) (by decide) (by decide))))
  obtain ⟨old247, Fo247⟩ := own_fld2 (O := "com/example/entry_to_apps/entrytoapps/GridProfile") (n := "minWidth") (d := "I") (a0 := a0') fx248 fx249 (Or.inr (ow hw 43 rfl)) (ow hw 30 rfl)
  obtain ⟨T250, h250, X250, e250, W250, st250⟩ := putF X246 hx hZ hown (host := "") (Or.inl (ow hw 42 rfl)) Via.refl e246 Fo247 fx248 (Or.inr ⟨(ow hw 43 rfl), rfl, hnm⟩) (ow hw 30 rfl) (ty := .int) (by decide) rfl rfl (g := (mkF m 22 #[.val (.ref a0), .val (.ref a1), .val (.int p2), .val (.int p3), .val (.int p4), .val (.int p5), .val (.int p6), .val (.int p7)] [(.int p4), (.ref a0)])) rfl rfl (hb hby own_d_gpi_22)
  have Fw250 : Fld Z h250 a0 "com/example/entry_to_apps/entrytoapps/GridProfile" "minWidth" "I" (.int p4) := Fo247.same W250
  have N250 := Fr.snoc X250 N246 g_t
  have KP250 : Keep h0 h250 [a0] := KP246.wr W250 (Or.inl (List.mem_of_getElem? (i := 0) rfl))
  have SZ250 : h0.size ≤ h250.size := KP250.1
  have Z250 : n0 ≤ h250.size := Nat.le_trans Z0 SZ250
  have fx252 := (fx248.wr W250)
  have fx253 := (fx249.other W250 (Or.inr (slot_ne (a0 := a0') (Or.inr (ow hw 39 rfl)) (Or.inr (ow hw 43 rfl)) (by decide) (t := .int) (t' := .int) (by decide) (by decide))))
  obtain ⟨old251, Fo251⟩ := own_fld2 (O := "com/example/entry_to_apps/entrytoapps/GridProfile") (n := "minHeight") (d := "I") (a0 := a0') fx252 fx253 (Or.inr (ow hw 45 rfl)) (ow hw 30 rfl)
  obtain ⟨T254, h254, X254, e254, W254, st254⟩ := putF X250 hx hZ hown (host := "") (Or.inl (ow hw 44 rfl)) Via.refl e250 Fo251 fx252 (Or.inr ⟨(ow hw 45 rfl), rfl, hnm⟩) (ow hw 30 rfl) (ty := .int) (by decide) rfl rfl (g := (mkF m 28 #[.val (.ref a0), .val (.ref a1), .val (.int p2), .val (.int p3), .val (.int p4), .val (.int p5), .val (.int p6), .val (.int p7)] [(.int p5), (.ref a0)])) rfl rfl (hb hby own_d_gpi_28)
  have Fw254 : Fld Z h254 a0 "com/example/entry_to_apps/entrytoapps/GridProfile" "minHeight" "I" (.int p5) := Fo251.same W254
  have N254 := Fr.snoc X254 N250 g_t
  have KP254 : Keep h0 h254 [a0] := KP250.wr W254 (Or.inl (List.mem_of_getElem? (i := 0) rfl))
  have SZ254 : h0.size ≤ h254.size := KP254.1
  have Z254 : n0 ≤ h254.size := Nat.le_trans Z0 SZ254
  have fx256 := (fx252.wr W254)
  have fx257 := (fx253.other W254 (Or.inr (slot_ne (a0 := a0') (Or.inr (ow hw 39 rfl)) (Or.inr (ow hw 45 rfl)) (by decide) (t := .int) (t' := .int) (by decide) (by decide))))
  obtain ⟨old255, Fo255⟩ := own_fld2 (O := "com/example/entry_to_apps/entrytoapps/GridProfile") (n := "iconSize") (d := "I") (a0 := a0') fx256 fx257 (Or.inr (ow hw 47 rfl)) (ow hw 30 rfl)
  obtain ⟨T258, h258, X258, e258, W258, st258⟩ := putF X254 hx hZ hown (host := "") (Or.inl (ow hw 46 rfl)) Via.refl e254 Fo255 fx256 (Or.inr ⟨(ow hw 47 rfl), rfl, hnm⟩) (ow hw 30 rfl) (ty := .int) (by decide) rfl rfl (g := (mkF m 34 #[.val (.ref a0), .val (.ref a1), .val (.int p2), .val (.int p3), .val (.int p4), .val (.int p5), .val (.int p6), .val (.int p7)] [(.int p6), (.ref a0)])) rfl rfl (hb hby own_d_gpi_34)
  have Fw258 : Fld Z h258 a0 "com/example/entry_to_apps/entrytoapps/GridProfile" "iconSize" "I" (.int p6) := Fo255.same W258
  have N258 := Fr.snoc X258 N254 g_t
  have KP258 : Keep h0 h258 [a0] := KP254.wr W258 (Or.inl (List.mem_of_getElem? (i := 0) rfl))
  have SZ258 : h0.size ≤ h258.size := KP258.1
  have Z258 : n0 ≤ h258.size := Nat.le_trans Z0 SZ258
  have fx260 := (fx256.wr W258)
  have fx261 := (fx257.other W258 (Or.inr (slot_ne (a0 := a0') (Or.inr (ow hw 39 rfl)) (Or.inr (ow hw 47 rfl)) (by decide) (t := .int) (t' := .int) (by decide) (by decide))))
  obtain ⟨old259, Fo259⟩ := own_fld2 (O := "com/example/entry_to_apps/entrytoapps/GridProfile") (n := "isDefault") (d := "Z") (a0 := a0') fx260 fx261 (Or.inr (ow hw 49 rfl)) (ow hw 30 rfl)
  obtain ⟨T262, h262, X262, e262, W262, st262⟩ := putFN X258 hx hZ hown (ow hw 48 rfl) Via.refl e258 Fo259 fx260 (Or.inr ⟨(ow hw 49 rfl), rfl, hnm⟩) (ow hw 30 rfl) (ty := .boolean) (v' := (.int (nar .boolean p7))) (by decide) rfl (fits_nar_bool _) (g := (mkF m 40 #[.val (.ref a0), .val (.ref a1), .val (.int p2), .val (.int p3), .val (.int p4), .val (.int p5), .val (.int p6), .val (.int p7)] [(.int p7), (.ref a0)])) rfl rfl (hb hby own_d_gpi_40)
  have Fw262 : Fld Z h262 a0 "com/example/entry_to_apps/entrytoapps/GridProfile" "isDefault" "Z" (.int (nar .boolean p7)) := Fo259.same W262
  have N262 := Fr.snoc X262 N258 g_t
  have KP262 : Keep h0 h262 [a0] := KP258.wr W262 (Or.inl (List.mem_of_getElem? (i := 0) rfl))
  have SZ262 : h0.size ≤ h262.size := KP262.1
  have Z262 : n0 ≤ h262.size := Nat.le_trans Z0 SZ262
  have fx263 := (fx260.wr W262)
  have fx264 := ((((((Fw239.other W243 (Or.inr (slot_ne (a0 := a0') (Or.inr (ow hw 37 rfl)) (Or.inr (ow hw 39 rfl)) (by decide) (t := (.object "java/lang/String")) (t' := .int) (by decide) (by decide)))).other W246 (Or.inr (slot_ne (a0 := a0') (Or.inr (ow hw 37 rfl)) (Or.inr (ow hw 41 rfl)) (by decide) (t := (.object "java/lang/String")) (t' := .int) (by decide) (by decide)))).other W250 (Or.inr (slot_ne (a0 := a0') (Or.inr (ow hw 37 rfl)) (Or.inr (ow hw 43 rfl)) (by decide) (t := (.object "java/lang/String")) (t' := .int) (by decide) (by decide)))).other W254 (Or.inr (slot_ne (a0 := a0') (Or.inr (ow hw 37 rfl)) (Or.inr (ow hw 45 rfl)) (by decide) (t := (.object "java/lang/String")) (t' := .int) (by decide) (by decide)))).other W258 (Or.inr (slot_ne (a0 := a0') (Or.inr (ow hw 37 rfl)) (Or.inr (ow hw 47 rfl)) (by decide) (t := (.object "java/lang/String")) (t' := .int) (by decide) (by decide)))).other W262 (Or.inr (slot_ne (a0 := a0') (Or.inr (ow hw 37 rfl)) (Or.inr (ow hw 49 rfl)) (by decide) (t := (.object "java/lang/String")) (t' := .boolean) (by decide) (by decide))))
  have fx265 := (fx261.other W262 (Or.inr (slot_ne (a0 := a0') (Or.inr (ow hw 39 rfl)) (Or.inr (ow hw 49 rfl)) (by decide) (t := .int) (t' := .boolean) (by decide) (by decide))))
  have fx266 := ((((Fw246.other W250 (Or.inr (slot_ne (a0 := a0') (Or.inr (ow hw 41 rfl)) (Or.inr (ow hw 43 rfl)) (by decide) (t := .int) (t' := .int) (by decide) (by decide)))).other W254 (Or.inr (slot_ne (a0 := a0') (Or.inr (ow hw 41 rfl)) (Or.inr (ow hw 45 rfl)) (by decide) (t := .int) (t' := .int) (by decide) (by decide)))).other W258 (Or.inr (slot_ne (a0 := a0') (Or.inr (ow hw 41 rfl)) (Or.inr (ow hw 47 rfl)) (by decide) (t := .int) (t' := .int) (by decide) (by decide)))).other W262 (Or.inr (slot_ne (a0 := a0') (Or.inr (ow hw 41 rfl)) (Or.inr (ow hw 49 rfl)) (by decide) (t := .int) (t' := .boolean) (by decide) (by decide))))
  have fx267 := (((Fw250.other W254 (Or.inr (slot_ne (a0 := a0') (Or.inr (ow hw 43 rfl)) (Or.inr (ow hw 45 rfl)) (by decide) (t := .int) (t' := .int) (by decide) (by decide)))).other W258 (Or.inr (slot_ne (a0 := a0') (Or.inr (ow hw 43 rfl)) (Or.inr (ow hw 47 rfl)) (by decide) (t := .int) (t' := .int) (by decide) (by decide)))).other W262 (Or.inr (slot_ne (a0 := a0') (Or.inr (ow hw 43 rfl)) (Or.inr (ow hw 49 rfl)) (by decide) (t := .int) (t' := .boolean) (by decide) (by decide))))
  have fx268 := ((Fw254.other W258 (Or.inr (slot_ne (a0 := a0') (Or.inr (ow hw 45 rfl)) (Or.inr (ow hw 47 rfl)) (by decide) (t := .int) (t' := .int) (by decide) (by decide)))).other W262 (Or.inr (slot_ne (a0 := a0') (Or.inr (ow hw 45 rfl)) (Or.inr (ow hw 49 rfl)) (by decide) (t := .int) (t' := .boolean) (by decide) (by decide))))
  have fx269 := (Fw258.other W262 (Or.inr (slot_ne (a0 := a0') (Or.inr (ow hw 47 rfl)) (Or.inr (ow hw 49 rfl)) (by decide) (t := .int) (t' := .boolean) (by decide) (by decide))))
  obtain ⟨fs, hr, hrun, hended, hW, hsame⟩ := X262.leave (v := none) (fun _ => rfl)
  refine ⟨_, _, pre0 _ ?_, hrun, hended, _, _, rfl, ?_, ⟨_, rfl⟩, hW, hsame.mono (by decide) (by decide)⟩
  · show Steps p.tables e below (s₁.setTop (mkF m 0 #[.val (.ref a0), .val (.ref a1), .val (.int p2), .val (.int p3), .val (.int p4), .val (.int p5), .val (.int p6), .val (.int p7)] [])) _
    refine XS.aloadN X0.here hx rfl (hb hby own_d_gpi_0) rfl rfl ?_
    refine st237 _ ?_
    refine XS.aloadN X237.here hx rfl (hb hby own_d_gpi_4) rfl rfl ?_
    refine XS.aloadN X237.here hx rfl (hb hby own_d_gpi_5) rfl rfl ?_
    refine st239 _ ?_
    refine XS.aloadN X239.here hx rfl (hb hby own_d_gpi_9) rfl rfl ?_
    refine XS.iloadN X239.here hx rfl (hb hby own_d_gpi_10) rfl ?_
    refine st243 _ ?_
    refine XS.aloadN X243.here hx rfl (hb hby own_d_gpi_14) rfl rfl ?_
    refine XS.iloadN X243.here hx rfl (hb hby own_d_gpi_15) rfl ?_
    refine st246 _ ?_
    refine XS.aloadN X246.here hx rfl (hb hby own_d_gpi_19) rfl rfl ?_
    refine XS.iload X246.here hx rfl (hb hby own_d_gpi_20) rfl ?_
    refine st250 _ ?_
    refine XS.aloadN X250.here hx rfl (hb hby own_d_gpi_25) rfl rfl ?_
    refine XS.iload X250.here hx rfl (hb hby own_d_gpi_26) rfl ?_
    refine st254 _ ?_
    refine XS.aloadN X254.here hx rfl (hb hby own_d_gpi_31) rfl rfl ?_
    refine XS.iload X254.here hx rfl (hb hby own_d_gpi_32) rfl ?_
    refine st258 _ ?_
    refine XS.aloadN X258.here hx rfl (hb hby own_d_gpi_37) rfl rfl ?_
    refine XS.iload X258.here hx rfl (hb hby own_d_gpi_38) rfl ?_
    refine st262 _ ?_
    exact X262.returnOut hx Bd.returns (hb hby own_d_gpi_43) hr
  · show Q_gpi Z a0 a1 p2 p3 p4 p5 p6 p7 h0 n0 _ T262.heap _
    rw [e262]
    exact ⟨rfl, N262, KP262, fx263, fx264, fx265, fx266, fx267, fx268, fx269, Fw262⟩
theorem own_d_gpe_0 : decode prog_24_method_7_code 0 = .ok (.aload_n 1, 1) := by decide +kernel
theorem own_d_gpe_1 : decode prog_24_method_7_code 1 = .ok (.instanceof 8, 3) := by decide +kernel
theorem own_d_gpe_4 : decode prog_24_method_7_code 4 = .ok (.ifCond .eq 92, 3) := by decide +kernel
theorem own_d_gpe_7 : decode prog_24_method_7_code 7 = .ok (.aload_n 1, 1) := by decide +kernel
theorem own_d_gpe_8 : decode prog_24_method_7_code 8 = .ok (.checkcast 8, 3) := by decide +kernel
theorem own_d_gpe_11 : decode prog_24_method_7_code 11 = .ok (.astore_n 2, 1) := by decide +kernel
theorem own_d_gpe_12 : decode prog_24_method_7_code 12 = .ok (.aload_n 0, 1) := by decide +kernel
theorem own_d_gpe_13 : decode prog_24_method_7_code 13 = .ok (.getfield 7, 3) := by decide +kernel
theorem own_d_gpe_16 : decode prog_24_method_7_code 16 = .ok (.aload_n 2, 1) := by decide +kernel
theorem own_d_gpe_17 : decode prog_24_method_7_code 17 = .ok (.getfield 7, 3) := by decide +kernel
theorem own_d_gpe_20 : decode prog_24_method_7_code 20 = .ok (.invokevirtual 33, 3) := by decide +kernel
theorem own_pd6 : parseMethodDescriptor "(Ljava/lang/Object;)Z" = some ⟨[(.object "java/lang/Object")], some .boolean⟩ := by decide +kernel
theorem own_d_gpe_23 : decode prog_24_method_7_code 23 = .ok (.ifCond .eq 73, 3) := by decide +kernel
theorem own_d_gpe_96 : decode prog_24_method_7_code 96 = .ok (.iconst 0, 1) := by decide +kernel
theorem own_d_gpe_97 : decode prog_24_method_7_code 97 = .ok (.ireturn, 1) := by decide +kernel
theorem own_d_gpe_26 : decode prog_24_method_7_code 26 = .ok (.aload_n 0, 1) := by decide +kernel
theorem own_d_gpe_27 : decode prog_24_method_7_code 27 = .ok (.getfield 13, 3) := by decide +kernel
theorem own_d_gpe_30 : decode prog_24_method_7_code 30 = .ok (.aload_n 2, 1) := by decide +kernel
theorem own_d_gpe_31 : decode prog_24_method_7_code 31 = .ok (.getfield 13, 3) := by decide +kernel
theorem own_d_gpe_34 : decode prog_24_method_7_code 34 = .ok (.if_icmp .ne 62, 3) := by decide +kernel
theorem own_d_gpe_37 : decode prog_24_method_7_code 37 = .ok (.aload_n 0, 1) := by decide +kernel
theorem own_d_gpe_38 : decode prog_24_method_7_code 38 = .ok (.getfield 17, 3) := by decide +kernel
theorem own_d_gpe_41 : decode prog_24_method_7_code 41 = .ok (.aload_n 2, 1) := by decide +kernel
theorem own_d_gpe_42 : decode prog_24_method_7_code 42 = .ok (.getfield 17, 3) := by decide +kernel
theorem own_d_gpe_45 : decode prog_24_method_7_code 45 = .ok (.if_icmp .ne 51, 3) := by decide +kernel
theorem own_d_gpe_48 : decode prog_24_method_7_code 48 = .ok (.aload_n 0, 1) := by decide +kernel
theorem own_d_gpe_49 : decode prog_24_method_7_code 49 = .ok (.getfield 20, 3) := by decide +kernel
theorem own_d_gpe_52 : decode prog_24_method_7_code 52 = .ok (.aload_n 2, 1) := by decide +kernel
theorem own_d_gpe_53 : decode prog_24_method_7_code 53 = .ok (.getfield 20, 3) := by decide +kernel
theorem own_d_gpe_56 : decode prog_24_method_7_code 56 = .ok (.if_icmp .ne 40, 3) := by decide +kernel
theorem own_d_gpe_59 : decode prog_24_method_7_code 59 = .ok (.aload_n 0, 1) := by decide +kernel
theorem own_d_gpe_60 : decode prog_24_method_7_code 60 = .ok (.getfield 23, 3) := by decide +kernel
theorem own_d_gpe_63 : decode prog_24_method_7_code 63 = .ok (.aload_n 2, 1) := by decide +kernel
theorem own_d_gpe_64 : decode prog_24_method_7_code 64 = .ok (.getfield 23, 3) := by decide +kernel
theorem own_d_gpe_67 : decode prog_24_method_7_code 67 = .ok (.if_icmp .ne 29, 3) := by decide +kernel
theorem own_d_gpe_70 : decode prog_24_method_7_code 70 = .ok (.aload_n 0, 1) := by decide +kernel
theorem own_d_gpe_71 : decode prog_24_method_7_code 71 = .ok (.getfield 26, 3) := by decide +kernel
theorem own_d_gpe_74 : decode prog_24_method_7_code 74 = .ok (.aload_n 2, 1) := by decide +kernel
theorem own_d_gpe_75 : decode prog_24_method_7_code 75 = .ok (.getfield 26, 3) := by decide +kernel
theorem own_d_gpe_78 : decode prog_24_method_7_code 78 = .ok (.if_icmp .ne 18, 3) := by decide +kernel
theorem own_d_gpe_81 : decode prog_24_method_7_code 81 = .ok (.aload_n 0, 1) := by decide +kernel
theorem own_d_gpe_82 : decode prog_24_method_7_code 82 = .ok (.getfield 29, 3) := by decide +kernel
theorem own_d_gpe_85 : decode prog_24_method_7_code 85 = .ok (.aload_n 2, 1) := by decide +kernel
theorem own_d_gpe_86 : decode prog_24_method_7_code 86 = .ok (.getfield 29, 3) := by decide +kernel
theorem own_d_gpe_89 : decode prog_24_method_7_code 89 = .ok (.if_icmp .ne 7, 3) := by decide +kernel
theorem own_d_gpe_92 : decode prog_24_method_7_code 92 = .ok (.iconst 1, 1) := by decide +kernel
theorem own_d_gpe_93 : decode prog_24_method_7_code 93 = .ok (.goto 4, 3) := by decide +kernel
def F_gpe (bs0 : List Int32) (bs1 : List Int32) (rw0 : Int32) (cl0 : Int32) (mw0 : Int32) (mh0 : Int32) (ic0 : Int32) (df0 : Int32) (rw1 : Int32) (cl1 : Int32) (mw1 : Int32) (mh1 : Int32) (ic1 : Int32) (df1 : Int32) : Int32 := (if (F_seq bs0 bs1) = (0 : Int32) then (0 : Int32) else (if rw0 = rw1 then (if cl0 = cl1 then (if mw0 = mw1 then (if mh0 = mh1 then (if ic0 = ic1 then (if df0 = df1 then (1 : Int32) else (0 : Int32)) else (0 : Int32)) else (0 : Int32)) else (0 : Int32)) else (0 : Int32)) else (0 : Int32)))
theorem own_ef_gpe (m : MethodId) (a0 : Addr) (a1 : Addr) : entryFrame m #[(.ref a0), (.ref a1)] 3 = mkF m 0 #[.val (.ref a0), .val (.ref a1), .unset] [] := by first | (simp [entryFrame, mkF, argsToLocals, Value.category]; done) | rfl
def Q_gpe (Z : State) (a0 : Addr) (a1 : Addr) (s0 : Addr) (s1 : Addr) (v0 : Addr) (v1 : Addr) (k0 : ClassId) (k1 : ClassId) (bs0 : List Int32) (bs1 : List Int32) (rw0 : Int32) (cl0 : Int32) (mw0 : Int32) (mh0 : Int32) (ic0 : Int32) (df0 : Int32) (rw1 : Int32) (cl1 : Int32) (mw1 : Int32) (mh1 : Int32) (ic1 : Int32) (df1 : Int32) (kc : Int32) (h0 : Heap) (n0 : Nat) (v : Option Value) (h : Heap) (L : List Loc) : Prop := v = some (.int (F_gpe bs0 bs1 rw0 cl0 mw0 mh0 ic0 df0 rw1 cl1 mw1 mh1 ic1 df1)) ∧ Fr n0 L ∧ h = h0
set_option maxRecDepth 65536 in
set_option maxHeartbeats 40000000 in
theorem rm_gpe (l : Launch) (Z : State) (a0' : Array Value) (hw : ∀ d ∈ tables_1, d.before a0' Z = true) (ws : List Jvm.Cond) (a0 : Addr) (a1 : Addr) (s0 : Addr) (s1 : Addr) (v0 : Addr) (v1 : Addr) (k0 : ClassId) (k1 : ClassId) (bs0 : List Int32) (bs1 : List Int32) (rw0 : Int32) (cl0 : Int32) (mw0 : Int32) (mh0 : Int32) (ic0 : Int32) (df0 : Int32) (rw1 : Int32) (cl1 : Int32) (mw1 : Int32) (mh1 : Int32) (ic1 : Int32) (df1 : Int32) (kc : Int32) (h0 : Heap) (n0 : Nat) (Z0 : n0 ≤ h0.size) (EP0 : Exa Z h0 a0 "com/example/entry_to_apps/entrytoapps/GridProfile") (Gname0 : Fld Z h0 a0 "com/example/entry_to_apps/entrytoapps/GridProfile" "name" "Ljava/lang/String;" (.ref s0)) (Grows0 : Fld Z h0 a0 "com/example/entry_to_apps/entrytoapps/GridProfile" "rows" "I" (.int rw0)) (Gcolumns0 : Fld Z h0 a0 "com/example/entry_to_apps/entrytoapps/GridProfile" "columns" "I" (.int cl0)) (GminWidth0 : Fld Z h0 a0 "com/example/entry_to_apps/entrytoapps/GridProfile" "minWidth" "I" (.int mw0)) (GminHeight0 : Fld Z h0 a0 "com/example/entry_to_apps/entrytoapps/GridProfile" "minHeight" "I" (.int mh0)) (GiconSize0 : Fld Z h0 a0 "com/example/entry_to_apps/entrytoapps/GridProfile" "iconSize" "I" (.int ic0)) (GisDefault0 : Fld Z h0 a0 "com/example/entry_to_apps/entrytoapps/GridProfile" "isDefault" "Z" (.int df0)) (EP1 : Exa Z h0 a1 "com/example/entry_to_apps/entrytoapps/GridProfile") (Gname1 : Fld Z h0 a1 "com/example/entry_to_apps/entrytoapps/GridProfile" "name" "Ljava/lang/String;" (.ref s1)) (Grows1 : Fld Z h0 a1 "com/example/entry_to_apps/entrytoapps/GridProfile" "rows" "I" (.int rw1)) (Gcolumns1 : Fld Z h0 a1 "com/example/entry_to_apps/entrytoapps/GridProfile" "columns" "I" (.int cl1)) (GminWidth1 : Fld Z h0 a1 "com/example/entry_to_apps/entrytoapps/GridProfile" "minWidth" "I" (.int mw1)) (GminHeight1 : Fld Z h0 a1 "com/example/entry_to_apps/entrytoapps/GridProfile" "minHeight" "I" (.int mh1)) (GiconSize1 : Fld Z h0 a1 "com/example/entry_to_apps/entrytoapps/GridProfile" "iconSize" "I" (.int ic1)) (GisDefault1 : Fld Z h0 a1 "com/example/entry_to_apps/entrytoapps/GridProfile" "isDefault" "Z" (.int df1)) (E0 : Exa Z h0 s0 "java/lang/String") (C0 : Fld Z h0 s0 "java/lang/String" "coder" "B" (.int (0 : Int32))) (V0 : Fld Z h0 s0 "java/lang/String" "value" "[B" (.ref v0)) (W0 : Arv Z h0 v0 k0 .byte (Int32.ofNat bs0.length) (bs0.map Value.int) (.int 0)) (lb0 : bs0.length ≤ 3) (E1 : Exa Z h0 s1 "java/lang/String") (C1 : Fld Z h0 s1 "java/lang/String" "coder" "B" (.int (0 : Int32))) (V1 : Fld Z h0 s1 "java/lang/String" "value" "[B" (.ref v1)) (W1 : Arv Z h0 v1 k1 .byte (Int32.ofNat bs1.length) (bs1.map Value.int) (.int 0)) (lb1 : bs1.length ≤ 3) (S_cs : Sta Z h0 "java/lang/String" "COMPACT_STRINGS" "Z" (.int kc)) (hkc : ¬ (kc = (0 : Int32))) :
    MetFree l (⟨"com/example/entry_to_apps/entrytoapps/GridProfile", "equals", "(Ljava/lang/Object;)Z"⟩ : MethodName) (head1 (Jvm.Cond.code (⟨"com/example/entry_to_apps/entrytoapps/GridProfile", "equals", "(Ljava/lang/Object;)Z"⟩ : MethodName) prog_24_method_7_code 3 (some .boolean) :: ws) ({ frames := 2, cells := 0, slots := 0, locals := 28 } : Room)) (fun a U => a = #[(.ref a0), (.ref a1)] ∧ Z.Warmed39 U.vm ∧ U.heap = h0) (fun _ _ _ _ _ => True) (fun _ U o U' => ∃ v L, o = .returned v ∧ Q_gpe Z a0 a1 s0 s1 v0 v1 k0 k1 bs0 bs1 rw0 cl0 mw0 mh0 ic0 df0 rw1 cl1 mw1 mh1 ic1 df1 kc h0 n0 v U'.heap L ∧ FrameEnd U o U' L ({ frames := 2, cells := 0, slots := 0, locals := 28 } : Room).cells ({ frames := 2, cells := 0, slots := 0, locals := 28 } : Room).slots) := by
  refine MetFree.of_bodySF (plainFor_of_name own_pn4) hisR ?_
  intro p e s m args below meth c s₁ Bd hml0 hP hK
  obtain ⟨rfl, hZ, hh⟩ := hP
  have hx := Bd.exec
  have hby := Bd.bytes
  have hml : c.maxLocals = 3 := hml0
  have hown : s.vm.findClass "com/example/entry_to_apps/entrytoapps/GridProfile" = some m.cls := findClass_of_methodNamed Bd.named
  have hnm := (name_of_methodNamed Bd.named Bd.method).1
  have X0 : Stand p l e ({ frames := 2, cells := 0, slots := 0, locals := 28 } : Room) s m #[(.ref a0), (.ref a1)] below meth c s₁ [] 0 0 := Stand.of_body Bd
  have e0 : s₁.heap = h0 := by rw [← hh, Bd.state]; rfl
  have N0 := Fr.nil n0
  have pre0 : ∀ t, Steps p.tables e below (s₁.setTop (mkF m 0 #[.val (.ref a0), .val (.ref a1), .unset] [])) t → Steps p.tables e below (s₁.setTop (entryFrame m #[(.ref a0), (.ref a1)] 3)) t := fun t k => castTop (own_ef_gpe m a0 a1) k
  obtain ⟨T270, X270, e270, st270⟩ := instY X0 hx hZ hown (ow hw 55 rfl) e0 (Ins.self EP1) (g := (mkF m 1 #[.val (.ref a0), .val (.ref a1), .unset] [(.ref a1)])) rfl rfl (hb hby own_d_gpe_1)
  obtain ⟨T271, X271, e271, st271⟩ := castY X270 hx hZ hown (ow hw 55 rfl) e270 (Ins.self EP1) (g := (mkF m 8 #[.val (.ref a0), .val (.ref a1), .unset] [(.ref a1)])) rfl rfl (hb hby own_d_gpe_8)
  obtain ⟨T272, X272, e272, st272⟩ := getF X271 hx hZ hown (host := "") (Or.inl (ow hw 36 rfl)) Via.refl e271 Gname0 (g := (mkF m 13 #[.val (.ref a0), .val (.ref a1), .val (.ref a1)] [(.ref a0)])) rfl rfl (hb hby own_d_gpe_13)
  obtain ⟨T273, X273, e273, st273⟩ := getF X272 hx hZ hown (host := "") (Or.inl (ow hw 36 rfl)) Via.refl e272 Gname1 (g := (mkF m 17 #[.val (.ref a0), .val (.ref a1), .val (.ref a1)] [(.ref a1), (.ref s0)])) rfl rfl (hb hby own_d_gpe_17)
  obtain ⟨cq274, kq274, q274a, q274b, q274c⟩ := isOf hZ e273 E0
  obtain ⟨_, _, ⟨T274, L274, k274, n274⟩, -, X274, ⟨Lc274, hQ274, l274, y274, z274⟩, st274⟩ := X273.virtualBack hx (y := (⟨"java/lang/String", "equals", "(Ljava/lang/Object;)Z"⟩ : MethodName)) (z := (⟨"java/lang/String", "equals", "(Ljava/lang/Object;)Z"⟩ : MethodName)) hown (mvT hZ (ow hw 57 rfl)) (mvT hZ (ow hw 58 rfl)) (notFace_of_selects (args := #[]) (mvT hZ (ow hw 60 rfl))) (mvT hZ (ow hw 60 rfl)) (mvT hZ (ow hw 59 rfl)) (by decide) (backOf (W := 0) (rm_seq l Z a0' hw [] s0 s1 v0 v1 k0 k1 bs0 bs1 kc h0 n0 Z0 E0 C0 V0 W0 lb0 E1 C1 V1 W1 lb1 S_cs hkc) hZ (ow hw 61 rfl) (ow hw 6 rfl) (by decide) (by decide)) q274a q274c (g := (mkF m 20 #[.val (.ref a0), .val (.ref a1), .val (.ref a1)] [(.ref s1), (.ref s0)])) rfl (by rw [hml]; rfl) (Steps.refl _) (argsL := [(.ref s1)]) (rest := []) (lenOf own_pd6 rfl) rfl (by show 2 * 0 + _ ≤ _; exact Nat.le_of_eq rfl) (hb hby own_d_gpe_20) (fun _ _ => ⟨rfl, e273, (by decide : 0 + 0 ≤ _), (by decide : 0 + 0 ≤ _)⟩)
  dsimp only [Pt.U, Pt.locs, Pt.cells, Pt.slots] at X274 l274 y274 z274 st274 hQ274
  subst l274 y274 z274
  obtain ⟨rfl, N274q, e274⟩ := hQ274
  have N274 := Fr.app N0 N274q
  have pre276 : ∀ t, Steps p.tables e below (T274.setTop (mkF m 23 #[.val (.ref a0), .val (.ref a1), .val (.ref a1)] [(.int (F_seq bs0 bs1))])) t → Steps p.tables e below (s₁.setTop (entryFrame m #[(.ref a0), (.ref a1)] 3)) t := fun t k => pre0 t (by
    refine XS.aloadN X0.here hx rfl (hb hby own_d_gpe_0) rfl rfl ?_
    refine st270 _ ?_
    refine XS.ifNo X270.here hx rfl (hb hby own_d_gpe_4) rfl ((if0 _ _).trans (feq (by decide : ¬ ((1 : Int32) = (0 : Int32)))).1) ?_
    refine XS.aloadN X270.here hx rfl (hb hby own_d_gpe_7) rfl rfl ?_
    refine st271 _ ?_
    refine XS.astoreN X271.here hx rfl (hb hby own_d_gpe_11) rfl rfl (l' := #[.val (.ref a0), .val (.ref a1), .val (.ref a1)]) rfl ?_
    refine XS.aloadN X271.here hx rfl (hb hby own_d_gpe_12) rfl rfl ?_
    refine st272 _ ?_
    refine XS.aloadN X272.here hx rfl (hb hby own_d_gpe_16) rfl rfl ?_
    refine st273 _ ?_
    refine st274.trans ?_
    exact k)
  by_cases hc23_275 : (F_seq bs0 bs1) = (0 : Int32)
  · obtain ⟨fs, hr, hrun, hended, hW, hsame⟩ := X274.leave (v := some (.int (0 : Int32))) (fun h => by rw [Bd.returns] at h; cases h)
    refine ⟨_, _, pre276 _ ?_, hrun, hended, _, _, rfl, ?_, ⟨_, rfl⟩, hW, hsame.mono (by decide) (by decide)⟩
    · show Steps p.tables e below (T274.setTop (mkF m 23 #[.val (.ref a0), .val (.ref a1), .val (.ref a1)] [(.int (F_seq bs0 bs1))])) _
      refine XS.ifYes X274.here hx rfl (pc0 := 23) (pc' := 96) rfl (hb hby own_d_gpe_23) rfl ((if0 _ _).trans (teq hc23_275).1) (by decide) (by decide) ?_
      refine XS.iconst X274.here hx rfl (hb hby own_d_gpe_96) ?_
      exact retN X274 hx (t := .boolean) Bd.returns (by simp) (hb hby own_d_gpe_97) hr
    · show Q_gpe Z a0 a1 s0 s1 v0 v1 k0 k1 bs0 bs1 rw0 cl0 mw0 mh0 ic0 df0 rw1 cl1 mw1 mh1 ic1 df1 kc h0 n0 _ T274.heap _
      refine ⟨?_, N274, e274⟩
      rw [F_gpe, if_pos hc23_275]
  · obtain ⟨T277, X277, e277, st277⟩ := getF X274 hx hZ hown (host := "") (Or.inl (ow hw 38 rfl)) Via.refl e274 Grows0 (g := (mkF m 27 #[.val (.ref a0), .val (.ref a1), .val (.ref a1)] [(.ref a0)])) rfl rfl (hb hby own_d_gpe_27)
    obtain ⟨T278, X278, e278, st278⟩ := getF X277 hx hZ hown (host := "") (Or.inl (ow hw 38 rfl)) Via.refl e277 Grows1 (g := (mkF m 31 #[.val (.ref a0), .val (.ref a1), .val (.ref a1)] [(.ref a1), (.int rw0)])) rfl rfl (hb hby own_d_gpe_31)
    have pre280 : ∀ t, Steps p.tables e below (T278.setTop (mkF m 34 #[.val (.ref a0), .val (.ref a1), .val (.ref a1)] [(.int rw1), (.int rw0)])) t → Steps p.tables e below (s₁.setTop (entryFrame m #[(.ref a0), (.ref a1)] 3)) t := fun t k => pre276 t (by
      refine XS.ifNo X274.here hx rfl (hb hby own_d_gpe_23) rfl ((if0 _ _).trans (feq hc23_275).1) ?_
      refine XS.aloadN X274.here hx rfl (hb hby own_d_gpe_26) rfl rfl ?_
      refine st277 _ ?_
      refine XS.aloadN X277.here hx rfl (hb hby own_d_gpe_30) rfl rfl ?_
      refine st278 _ ?_
      exact k)
    by_cases hc34_279 : rw0 = rw1
    · obtain ⟨T281, X281, e281, st281⟩ := getF X278 hx hZ hown (host := "") (Or.inl (ow hw 40 rfl)) Via.refl e278 Gcolumns0 (g := (mkF m 38 #[.val (.ref a0), .val (.ref a1), .val (.ref a1)] [(.ref a0)])) rfl rfl (hb hby own_d_gpe_38)
      obtain ⟨T282, X282, e282, st282⟩ := getF X281 hx hZ hown (host := "") (Or.inl (ow hw 40 rfl)) Via.refl e281 Gcolumns1 (g := (mkF m 42 #[.val (.ref a0), .val (.ref a1), .val (.ref a1)] [(.ref a1), (.int cl0)])) rfl rfl (hb hby own_d_gpe_42)
      have pre284 : ∀ t, Steps p.tables e below (T282.setTop (mkF m 45 #[.val (.ref a0), .val (.ref a1), .val (.ref a1)] [(.int cl1), (.int cl0)])) t → Steps p.tables e below (s₁.setTop (entryFrame m #[(.ref a0), (.ref a1)] 3)) t := fun t k => pre280 t (by
        refine XS.icmpNo X278.here hx rfl (hb hby own_d_gpe_34) rfl (teq hc34_279).2 ?_
        refine XS.aloadN X278.here hx rfl (hb hby own_d_gpe_37) rfl rfl ?_
        refine st281 _ ?_
        refine XS.aloadN X281.here hx rfl (hb hby own_d_gpe_41) rfl rfl ?_
        refine st282 _ ?_
        exact k)
      by_cases hc45_283 : cl0 = cl1
      · obtain ⟨T285, X285, e285, st285⟩ := getF X282 hx hZ hown (host := "") (Or.inl (ow hw 42 rfl)) Via.refl e282 GminWidth0 (g := (mkF m 49 #[.val (.ref a0), .val (.ref a1), .val (.ref a1)] [(.ref a0)])) rfl rfl (hb hby own_d_gpe_49)
        obtain ⟨T286, X286, e286, st286⟩ := getF X285 hx hZ hown (host := "") (Or.inl (ow hw 42 rfl)) Via.refl e285 GminWidth1 (g := (mkF m 53 #[.val (.ref a0), .val (.ref a1), .val (.ref a1)] [(.ref a1), (.int mw0)])) rfl rfl (hb hby own_d_gpe_53)
        have pre288 : ∀ t, Steps p.tables e below (T286.setTop (mkF m 56 #[.val (.ref a0), .val (.ref a1), .val (.ref a1)] [(.int mw1), (.int mw0)])) t → Steps p.tables e below (s₁.setTop (entryFrame m #[(.ref a0), (.ref a1)] 3)) t := fun t k => pre284 t (by
          refine XS.icmpNo X282.here hx rfl (hb hby own_d_gpe_45) rfl (teq hc45_283).2 ?_
          refine XS.aloadN X282.here hx rfl (hb hby own_d_gpe_48) rfl rfl ?_
          refine st285 _ ?_
          refine XS.aloadN X285.here hx rfl (hb hby own_d_gpe_52) rfl rfl ?_
          refine st286 _ ?_
          exact k)
        by_cases hc56_287 : mw0 = mw1
        · obtain ⟨T289, X289, e289, st289⟩ := getF X286 hx hZ hown (host := "") (Or.inl (ow hw 44 rfl)) Via.refl e286 GminHeight0 (g := (mkF m 60 #[.val (.ref a0), .val (.ref a1), .val (.ref a1)] [(.ref a0)])) rfl rfl (hb hby own_d_gpe_60)
          obtain ⟨T290, X290, e290, st290⟩ := getF X289 hx hZ hown (host := "") (Or.inl (ow hw 44 rfl)) Via.refl e289 GminHeight1 (g := (mkF m 64 #[.val (.ref a0), .val (.ref a1), .val (.ref a1)] [(.ref a1), (.int mh0)])) rfl rfl (hb hby own_d_gpe_64)
          have pre292 : ∀ t, Steps p.tables e below (T290.setTop (mkF m 67 #[.val (.ref a0), .val (.ref a1), .val (.ref a1)] [(.int mh1), (.int mh0)])) t → Steps p.tables e below (s₁.setTop (entryFrame m #[(.ref a0), (.ref a1)] 3)) t := fun t k => pre288 t (by
            refine XS.icmpNo X286.here hx rfl (hb hby own_d_gpe_56) rfl (teq hc56_287).2 ?_
            refine XS.aloadN X286.here hx rfl (hb hby own_d_gpe_59) rfl rfl ?_
            refine st289 _ ?_
            refine XS.aloadN X289.here hx rfl (hb hby own_d_gpe_63) rfl rfl ?_
            refine st290 _ ?_
            exact k)
          by_cases hc67_291 : mh0 = mh1
          · obtain ⟨T293, X293, e293, st293⟩ := getF X290 hx hZ hown (host := "") (Or.inl (ow hw 46 rfl)) Via.refl e290 GiconSize0 (g := (mkF m 71 #[.val (.ref a0), .val (.ref a1), .val (.ref a1)] [(.ref a0)])) rfl rfl (hb hby own_d_gpe_71)
            obtain ⟨T294, X294, e294, st294⟩ := getF X293 hx hZ hown (host := "") (Or.inl (ow hw 46 rfl)) Via.refl e293 GiconSize1 (g := (mkF m 75 #[.val (.ref a0), .val (.ref a1), .val (.ref a1)] [(.ref a1), (.int ic0)])) rfl rfl (hb hby own_d_gpe_75)
            have pre296 : ∀ t, Steps p.tables e below (T294.setTop (mkF m 78 #[.val (.ref a0), .val (.ref a1), .val (.ref a1)] [(.int ic1), (.int ic0)])) t → Steps p.tables e below (s₁.setTop (entryFrame m #[(.ref a0), (.ref a1)] 3)) t := fun t k => pre292 t (by
              refine XS.icmpNo X290.here hx rfl (hb hby own_d_gpe_67) rfl (teq hc67_291).2 ?_
              refine XS.aloadN X290.here hx rfl (hb hby own_d_gpe_70) rfl rfl ?_
              refine st293 _ ?_
              refine XS.aloadN X293.here hx rfl (hb hby own_d_gpe_74) rfl rfl ?_
              refine st294 _ ?_
              exact k)
            by_cases hc78_295 : ic0 = ic1
            · obtain ⟨T297, X297, e297, st297⟩ := getF X294 hx hZ hown (host := "") (Or.inl (ow hw 48 rfl)) Via.refl e294 GisDefault0 (g := (mkF m 82 #[.val (.ref a0), .val (.ref a1), .val (.ref a1)] [(.ref a0)])) rfl rfl (hb hby own_d_gpe_82)
              obtain ⟨T298, X298, e298, st298⟩ := getF X297 hx hZ hown (host := "") (Or.inl (ow hw 48 rfl)) Via.refl e297 GisDefault1 (g := (mkF m 86 #[.val (.ref a0), .val (.ref a1), .val (.ref a1)] [(.ref a1), (.int df0)])) rfl rfl (hb hby own_d_gpe_86)
              have pre300 : ∀ t, Steps p.tables e below (T298.setTop (mkF m 89 #[.val (.ref a0), .val (.ref a1), .val (.ref a1)] [(.int df1), (.int df0)])) t → Steps p.tables e below (s₁.setTop (entryFrame m #[(.ref a0), (.ref a1)] 3)) t := fun t k => pre296 t (by
                refine XS.icmpNo X294.here hx rfl (hb hby own_d_gpe_78) rfl (teq hc78_295).2 ?_
                refine XS.aloadN X294.here hx rfl (hb hby own_d_gpe_81) rfl rfl ?_
                refine st297 _ ?_
                refine XS.aloadN X297.here hx rfl (hb hby own_d_gpe_85) rfl rfl ?_
                refine st298 _ ?_
                exact k)
              by_cases hc89_299 : df0 = df1
              · obtain ⟨fs, hr, hrun, hended, hW, hsame⟩ := X298.leave (v := some (.int (1 : Int32))) (fun h => by rw [Bd.returns] at h; cases h)
                refine ⟨_, _, pre300 _ ?_, hrun, hended, _, _, rfl, ?_, ⟨_, rfl⟩, hW, hsame.mono (by decide) (by decide)⟩
                · show Steps p.tables e below (T298.setTop (mkF m 89 #[.val (.ref a0), .val (.ref a1), .val (.ref a1)] [(.int df1), (.int df0)])) _
                  refine XS.icmpNo X298.here hx rfl (hb hby own_d_gpe_89) rfl (teq hc89_299).2 ?_
                  refine XS.iconst X298.here hx rfl (hb hby own_d_gpe_92) ?_
                  refine XS.goto X298.here hx rfl (pc0 := 93) (pc' := 97) rfl (hb hby own_d_gpe_93) (by decide) (by decide) ?_
                  exact retN X298 hx (t := .boolean) Bd.returns (by simp) (hb hby own_d_gpe_97) hr
                · show Q_gpe Z a0 a1 s0 s1 v0 v1 k0 k1 bs0 bs1 rw0 cl0 mw0 mh0 ic0 df0 rw1 cl1 mw1 mh1 ic1 df1 kc h0 n0 _ T298.heap _
                  refine ⟨?_, N274, e298⟩
                  rw [F_gpe, if_neg hc23_275, if_pos hc34_279, if_pos hc45_283, if_pos hc56_287, if_pos hc67_291, if_pos hc78_295, if_pos hc89_299]
              · obtain ⟨fs, hr, hrun, hended, hW, hsame⟩ := X298.leave (v := some (.int (0 : Int32))) (fun h => by rw [Bd.returns] at h; cases h)
                refine ⟨_, _, pre300 _ ?_, hrun, hended, _, _, rfl, ?_, ⟨_, rfl⟩, hW, hsame.mono (by decide) (by decide)⟩
                · show Steps p.tables e below (T298.setTop (mkF m 89 #[.val (.ref a0), .val (.ref a1), .val (.ref a1)] [(.int df1), (.int df0)])) _
                  refine XS.icmpYes X298.here hx rfl (pc0 := 89) (pc' := 96) rfl (hb hby own_d_gpe_89) rfl (feq hc89_299).2 (by decide) (by decide) ?_
                  refine XS.iconst X298.here hx rfl (hb hby own_d_gpe_96) ?_
                  exact retN X298 hx (t := .boolean) Bd.returns (by simp) (hb hby own_d_gpe_97) hr
                · show Q_gpe Z a0 a1 s0 s1 v0 v1 k0 k1 bs0 bs1 rw0 cl0 mw0 mh0 ic0 df0 rw1 cl1 mw1 mh1 ic1 df1 kc h0 n0 _ T298.heap _
                  refine ⟨?_, N274, e298⟩
                  rw [F_gpe, if_neg hc23_275, if_pos hc34_279, if_pos hc45_283, if_pos hc56_287, if_pos hc67_291, if_pos hc78_295, if_neg hc89_299]
            · obtain ⟨fs, hr, hrun, hended, hW, hsame⟩ := X294.leave (v := some (.int (0 : Int32))) (fun h => by rw [Bd.returns] at h; cases h)
              refine ⟨_, _, pre296 _ ?_, hrun, hended, _, _, rfl, ?_, ⟨_, rfl⟩, hW, hsame.mono (by decide) (by decide)⟩
              · show Steps p.tables e below (T294.setTop (mkF m 78 #[.val (.ref a0), .val (.ref a1), .val (.ref a1)] [(.int ic1), (.int ic0)])) _
                refine XS.icmpYes X294.here hx rfl (pc0 := 78) (pc' := 96) rfl (hb hby own_d_gpe_78) rfl (feq hc78_295).2 (by decide) (by decide) ?_
                refine XS.iconst X294.here hx rfl (hb hby own_d_gpe_96) ?_
                exact retN X294 hx (t := .boolean) Bd.returns (by simp) (hb hby own_d_gpe_97) hr
              · show Q_gpe Z a0 a1 s0 s1 v0 v1 k0 k1 bs0 bs1 rw0 cl0 mw0 mh0 ic0 df0 rw1 cl1 mw1 mh1 ic1 df1 kc h0 n0 _ T294.heap _
                refine ⟨?_, N274, e294⟩
                rw [F_gpe, if_neg hc23_275, if_pos hc34_279, if_pos hc45_283, if_pos hc56_287, if_pos hc67_291, if_neg hc78_295]
          · obtain ⟨fs, hr, hrun, hended, hW, hsame⟩ := X290.leave (v := some (.int (0 : Int32))) (fun h => by rw [Bd.returns] at h; cases h)
            refine ⟨_, _, pre292 _ ?_, hrun, hended, _, _, rfl, ?_, ⟨_, rfl⟩, hW, hsame.mono (by decide) (by decide)⟩
            · show Steps p.tables e below (T290.setTop (mkF m 67 #[.val (.ref a0), .val (.ref a1), .val (.ref a1)] [(.int mh1), (.int mh0)])) _
              refine XS.icmpYes X290.here hx rfl (pc0 := 67) (pc' := 96) rfl (hb hby own_d_gpe_67) rfl (feq hc67_291).2 (by decide) (by decide) ?_
              refine XS.iconst X290.here hx rfl (hb hby own_d_gpe_96) ?_
              exact retN X290 hx (t := .boolean) Bd.returns (by simp) (hb hby own_d_gpe_97) hr
            · show Q_gpe Z a0 a1 s0 s1 v0 v1 k0 k1 bs0 bs1 rw0 cl0 mw0 mh0 ic0 df0 rw1 cl1 mw1 mh1 ic1 df1 kc h0 n0 _ T290.heap _
              refine ⟨?_, N274, e290⟩
              rw [F_gpe, if_neg hc23_275, if_pos hc34_279, if_pos hc45_283, if_pos hc56_287, if_neg hc67_291]
        · obtain ⟨fs, hr, hrun, hended, hW, hsame⟩ := X286.leave (v := some (.int (0 : Int32))) (fun h => by rw [Bd.returns] at h; cases h)
          refine ⟨_, _, pre288 _ ?_, hrun, hended, _, _, rfl, ?_, ⟨_, rfl⟩, hW, hsame.mono (by decide) (by decide)⟩
          · show Steps p.tables e below (T286.setTop (mkF m 56 #[.val (.ref a0), .val (.ref a1), .val (.ref a1)] [(.int mw1), (.int mw0)])) _
            refine XS.icmpYes X286.here hx rfl (pc0 := 56) (pc' := 96) rfl (hb hby own_d_gpe_56) rfl (feq hc56_287).2 (by decide) (by decide) ?_
            refine XS.iconst X286.here hx rfl (hb hby own_d_gpe_96) ?_
            exact retN X286 hx (t := .boolean) Bd.returns (by simp) (hb hby own_d_gpe_97) hr
          · show Q_gpe Z a0 a1 s0 s1 v0 v1 k0 k1 bs0 bs1 rw0 cl0 mw0 mh0 ic0 df0 rw1 cl1 mw1 mh1 ic1 df1 kc h0 n0 _ T286.heap _
            refine ⟨?_, N274, e286⟩
            rw [F_gpe, if_neg hc23_275, if_pos hc34_279, if_pos hc45_283, if_neg hc56_287]
      · obtain ⟨fs, hr, hrun, hended, hW, hsame⟩ := X282.leave (v := some (.int (0 : Int32))) (fun h => by rw [Bd.returns] at h; cases h)
        refine ⟨_, _, pre284 _ ?_, hrun, hended, _, _, rfl, ?_, ⟨_, rfl⟩, hW, hsame.mono (by decide) (by decide)⟩
        · show Steps p.tables e below (T282.setTop (mkF m 45 #[.val (.ref a0), .val (.ref a1), .val (.ref a1)] [(.int cl1), (.int cl0)])) _
          refine XS.icmpYes X282.here hx rfl (pc0 := 45) (pc' := 96) rfl (hb hby own_d_gpe_45) rfl (feq hc45_283).2 (by decide) (by decide) ?_
          refine XS.iconst X282.here hx rfl (hb hby own_d_gpe_96) ?_
          exact retN X282 hx (t := .boolean) Bd.returns (by simp) (hb hby own_d_gpe_97) hr
        · show Q_gpe Z a0 a1 s0 s1 v0 v1 k0 k1 bs0 bs1 rw0 cl0 mw0 mh0 ic0 df0 rw1 cl1 mw1 mh1 ic1 df1 kc h0 n0 _ T282.heap _
          refine ⟨?_, N274, e282⟩
          rw [F_gpe, if_neg hc23_275, if_pos hc34_279, if_neg hc45_283]
    · obtain ⟨fs, hr, hrun, hended, hW, hsame⟩ := X278.leave (v := some (.int (0 : Int32))) (fun h => by rw [Bd.returns] at h; cases h)
      refine ⟨_, _, pre280 _ ?_, hrun, hended, _, _, rfl, ?_, ⟨_, rfl⟩, hW, hsame.mono (by decide) (by decide)⟩
      · show Steps p.tables e below (T278.setTop (mkF m 34 #[.val (.ref a0), .val (.ref a1), .val (.ref a1)] [(.int rw1), (.int rw0)])) _
        refine XS.icmpYes X278.here hx rfl (pc0 := 34) (pc' := 96) rfl (hb hby own_d_gpe_34) rfl (feq hc34_279).2 (by decide) (by decide) ?_
        refine XS.iconst X278.here hx rfl (hb hby own_d_gpe_96) ?_
        exact retN X278 hx (t := .boolean) Bd.returns (by simp) (hb hby own_d_gpe_97) hr
      · show Q_gpe Z a0 a1 s0 s1 v0 v1 k0 k1 bs0 bs1 rw0 cl0 mw0 mh0 ic0 df0 rw1 cl1 mw1 mh1 ic1 df1 kc h0 n0 _ T278.heap _
        refine ⟨?_, N274, e278⟩
        rw [F_gpe, if_neg hc23_275, if_neg hc34_279]
theorem own_d_gpN_0 : decode prog_24_method_7_code 0 = .ok (.aload_n 1, 1) := by decide +kernel
theorem own_d_gpN_1 : decode prog_24_method_7_code 1 = .ok (.instanceof 8, 3) := by decide +kernel
theorem own_d_gpN_4 : decode prog_24_method_7_code 4 = .ok (.ifCond .eq 92, 3) := by decide +kernel
theorem own_d_gpN_96 : decode prog_24_method_7_code 96 = .ok (.iconst 0, 1) := by decide +kernel
theorem own_d_gpN_97 : decode prog_24_method_7_code 97 = .ok (.ireturn, 1) := by decide +kernel
def F_gpN  : Int32 := (0 : Int32)
theorem own_ef_gpN (m : MethodId) (a0 : Addr) : entryFrame m #[(.ref a0), .null] 3 = mkF m 0 #[.val (.ref a0), .val .null, .unset] [] := by first | (simp [entryFrame, mkF, argsToLocals, Value.category]; done) | rfl
def Q_gpN (Z : State) (a0 : Addr) (h0 : Heap) (n0 : Nat) (v : Option Value) (h : Heap) (L : List Loc) : Prop := v = some (.int F_gpN) ∧ Fr n0 L ∧ h = h0
set_option maxRecDepth 65536 in
set_option maxHeartbeats 40000000 in
theorem rm_gpN (l : Launch) (Z : State) (a0' : Array Value) (hw : ∀ d ∈ tables_1, d.before a0' Z = true) (ws : List Jvm.Cond) (a0 : Addr) (h0 : Heap) (n0 : Nat) (Z0 : n0 ≤ h0.size) :
    MetFree l (⟨"com/example/entry_to_apps/entrytoapps/GridProfile", "equals", "(Ljava/lang/Object;)Z"⟩ : MethodName) (head1 (Jvm.Cond.code (⟨"com/example/entry_to_apps/entrytoapps/GridProfile", "equals", "(Ljava/lang/Object;)Z"⟩ : MethodName) prog_24_method_7_code 3 (some .boolean) :: ws) ({ frames := 0, cells := 0, slots := 0, locals := 0 } : Room)) (fun a U => a = #[(.ref a0), .null] ∧ Z.Warmed39 U.vm ∧ U.heap = h0) (fun _ _ _ _ _ => True) (fun _ U o U' => ∃ v L, o = .returned v ∧ Q_gpN Z a0 h0 n0 v U'.heap L ∧ FrameEnd U o U' L ({ frames := 0, cells := 0, slots := 0, locals := 0 } : Room).cells ({ frames := 0, cells := 0, slots := 0, locals := 0 } : Room).slots) := by
  refine MetFree.of_bodySF (plainFor_of_name own_pn4) hisR ?_
  intro p e s m args below meth c s₁ Bd hml0 hP hK
  obtain ⟨rfl, hZ, hh⟩ := hP
  have hx := Bd.exec
  have hby := Bd.bytes
  have hml : c.maxLocals = 3 := hml0
  have hown : s.vm.findClass "com/example/entry_to_apps/entrytoapps/GridProfile" = some m.cls := findClass_of_methodNamed Bd.named
  have hnm := (name_of_methodNamed Bd.named Bd.method).1
  have X0 : Stand p l e ({ frames := 0, cells := 0, slots := 0, locals := 0 } : Room) s m #[(.ref a0), .null] below meth c s₁ [] 0 0 := Stand.of_body Bd
  have e0 : s₁.heap = h0 := by rw [← hh, Bd.state]; rfl
  have N0 := Fr.nil n0
  have pre0 : ∀ t, Steps p.tables e below (s₁.setTop (mkF m 0 #[.val (.ref a0), .val .null, .unset] [])) t → Steps p.tables e below (s₁.setTop (entryFrame m #[(.ref a0), .null] 3)) t := fun t k => castTop (own_ef_gpN m a0) k
  obtain ⟨fs, hr, hrun, hended, hW, hsame⟩ := X0.leave (v := some (.int (0 : Int32))) (fun h => by rw [Bd.returns] at h; cases h)
  refine ⟨_, _, pre0 _ ?_, hrun, hended, _, _, rfl, ?_, ⟨_, rfl⟩, hW, hsame.mono (by decide) (by decide)⟩
  · show Steps p.tables e below (s₁.setTop (mkF m 0 #[.val (.ref a0), .val .null, .unset] [])) _
    refine XS.aloadN X0.here hx rfl (hb hby own_d_gpN_0) rfl rfl ?_
    refine X0.instanceofNull hx (g := (mkF m 1 #[.val (.ref a0), .val .null, .unset] [.null])) rfl rfl (hb hby own_d_gpN_1) _ ?_
    refine XS.ifYes X0.here hx rfl (pc0 := 4) (pc' := 96) rfl (hb hby own_d_gpN_4) rfl ((if0 _ _).trans (teq (by decide : (0 : Int32) = (0 : Int32))).1) (by decide) (by decide) ?_
    refine XS.iconst X0.here hx rfl (hb hby own_d_gpN_96) ?_
    exact retN X0 hx (t := .boolean) Bd.returns (by simp) (hb hby own_d_gpN_97) hr
  · show Q_gpN Z a0 h0 n0 _ s₁.heap _
    refine ⟨?_, N0, e0⟩
    rw [F_gpN]
theorem own_d_gpS_0 : decode prog_24_method_7_code 0 = .ok (.aload_n 1, 1) := by decide +kernel
theorem own_d_gpS_1 : decode prog_24_method_7_code 1 = .ok (.instanceof 8, 3) := by decide +kernel
theorem own_d_gpS_4 : decode prog_24_method_7_code 4 = .ok (.ifCond .eq 92, 3) := by decide +kernel
theorem own_d_gpS_96 : decode prog_24_method_7_code 96 = .ok (.iconst 0, 1) := by decide +kernel
theorem own_d_gpS_97 : decode prog_24_method_7_code 97 = .ok (.ireturn, 1) := by decide +kernel
def F_gpS  : Int32 := (0 : Int32)
theorem own_ef_gpS (m : MethodId) (a0 : Addr) (a1 : Addr) : entryFrame m #[(.ref a0), (.ref a1)] 3 = mkF m 0 #[.val (.ref a0), .val (.ref a1), .unset] [] := by first | (simp [entryFrame, mkF, argsToLocals, Value.category]; done) | rfl
def Q_gpS (Z : State) (a0 : Addr) (a1 : Addr) (h0 : Heap) (n0 : Nat) (v : Option Value) (h : Heap) (L : List Loc) : Prop := v = some (.int F_gpS) ∧ Fr n0 L ∧ h = h0
set_option maxRecDepth 65536 in
set_option maxHeartbeats 40000000 in
theorem rm_gpS (l : Launch) (Z : State) (a0' : Array Value) (hw : ∀ d ∈ tables_1, d.before a0' Z = true) (ws : List Jvm.Cond) (a0 : Addr) (a1 : Addr) (h0 : Heap) (n0 : Nat) (Z0 : n0 ≤ h0.size) (E1 : Exa Z h0 a1 "java/lang/String") :
    MetFree l (⟨"com/example/entry_to_apps/entrytoapps/GridProfile", "equals", "(Ljava/lang/Object;)Z"⟩ : MethodName) (head1 (Jvm.Cond.code (⟨"com/example/entry_to_apps/entrytoapps/GridProfile", "equals", "(Ljava/lang/Object;)Z"⟩ : MethodName) prog_24_method_7_code 3 (some .boolean) :: ws) ({ frames := 0, cells := 0, slots := 0, locals := 0 } : Room)) (fun a U => a = #[(.ref a0), (.ref a1)] ∧ Z.Warmed39 U.vm ∧ U.heap = h0) (fun _ _ _ _ _ => True) (fun _ U o U' => ∃ v L, o = .returned v ∧ Q_gpS Z a0 a1 h0 n0 v U'.heap L ∧ FrameEnd U o U' L ({ frames := 0, cells := 0, slots := 0, locals := 0 } : Room).cells ({ frames := 0, cells := 0, slots := 0, locals := 0 } : Room).slots) := by
  refine MetFree.of_bodySF (plainFor_of_name own_pn4) hisR ?_
  intro p e s m args below meth c s₁ Bd hml0 hP hK
  obtain ⟨rfl, hZ, hh⟩ := hP
  have hx := Bd.exec
  have hby := Bd.bytes
  have hml : c.maxLocals = 3 := hml0
  have hown : s.vm.findClass "com/example/entry_to_apps/entrytoapps/GridProfile" = some m.cls := findClass_of_methodNamed Bd.named
  have hnm := (name_of_methodNamed Bd.named Bd.method).1
  have X0 : Stand p l e ({ frames := 0, cells := 0, slots := 0, locals := 0 } : Room) s m #[(.ref a0), (.ref a1)] below meth c s₁ [] 0 0 := Stand.of_body Bd
  have e0 : s₁.heap = h0 := by rw [← hh, Bd.state]; rfl
  have N0 := Fr.nil n0
  have pre0 : ∀ t, Steps p.tables e below (s₁.setTop (mkF m 0 #[.val (.ref a0), .val (.ref a1), .unset] [])) t → Steps p.tables e below (s₁.setTop (entryFrame m #[(.ref a0), (.ref a1)] 3)) t := fun t k => castTop (own_ef_gpS m a0 a1) k
  obtain ⟨T301, X301, e301, st301⟩ := instNo X0 hx hZ hown (ow hw 55 rfl) e0 E1 (own_notasg (ow hw 68 rfl) (ow hw 69 rfl) (ow hw 30 rfl) (by decide) (by decide)) (g := (mkF m 1 #[.val (.ref a0), .val (.ref a1), .unset] [(.ref a1)])) rfl rfl (hb hby own_d_gpS_1)
  obtain ⟨fs, hr, hrun, hended, hW, hsame⟩ := X301.leave (v := some (.int (0 : Int32))) (fun h => by rw [Bd.returns] at h; cases h)
  refine ⟨_, _, pre0 _ ?_, hrun, hended, _, _, rfl, ?_, ⟨_, rfl⟩, hW, hsame.mono (by decide) (by decide)⟩
  · show Steps p.tables e below (s₁.setTop (mkF m 0 #[.val (.ref a0), .val (.ref a1), .unset] [])) _
    refine XS.aloadN X0.here hx rfl (hb hby own_d_gpS_0) rfl rfl ?_
    refine st301 _ ?_
    refine XS.ifYes X301.here hx rfl (pc0 := 4) (pc' := 96) rfl (hb hby own_d_gpS_4) rfl ((if0 _ _).trans (teq (by decide : (0 : Int32) = (0 : Int32))).1) (by decide) (by decide) ?_
    refine XS.iconst X301.here hx rfl (hb hby own_d_gpS_96) ?_
    exact retN X301 hx (t := .boolean) Bd.returns (by simp) (hb hby own_d_gpS_97) hr
  · show Q_gpS Z a0 a1 h0 n0 _ T301.heap _
    refine ⟨?_, N0, e301⟩
    rw [F_gpS]
theorem own_pd7 : parseMethodDescriptor "(Ljava/lang/String;IIIIIZ)V" = some ⟨[(.object "java/lang/String"), .int, .int, .int, .int, .int, .boolean], none⟩ := by decide +kernel
def F_seg (ic0 : Int32) (rw0 : Int32) (cl0 : Int32) (mw0 : Int32) (mh0 : Int32) (fl0 : Int32) (rw1 : Int32) (cl1 : Int32) (mw1 : Int32) (mh1 : Int32) (ic1 : Int32) (fl1 : Int32) (xp : Int32) (bs0 : List Int32) (bs1 : List Int32) : Int32 := (if (F_gpe bs0 bs1 rw0 cl0 mw0 mh0 ic0 (nar .boolean fl0) rw1 cl1 mw1 mh1 ic1 (nar .boolean fl1)) = xp then (if (F_gpe bs1 bs0 rw1 cl1 mw1 mh1 ic1 (nar .boolean fl1) rw0 cl0 mw0 mh0 ic0 (nar .boolean fl0)) = xp then (if (F_gpe bs0 bs0 rw0 cl0 mw0 mh0 ic0 (nar .boolean fl0) rw0 cl0 mw0 mh0 ic0 (nar .boolean fl0)) = (0 : Int32) then (0 : Int32) else (1 : Int32)) else (0 : Int32)) else (0 : Int32))
def Q_seg (Z : State) (q0 : Int64) (q1 : Int64) (ic0 : Int32) (p3 : Int32) (p4 : Int32) (p5 : Int32) (rw0 : Int32) (cl0 : Int32) (mw0 : Int32) (mh0 : Int32) (fl0 : Int32) (sel : Int32) (alt : Int32) (s0 : Addr) (s1 : Addr) (rw1 : Int32) (cl1 : Int32) (mw1 : Int32) (mh1 : Int32) (ic1 : Int32) (fl1 : Int32) (xp : Int32) (v0 : Addr) (v1 : Addr) (k0 : ClassId) (k1 : ClassId) (bs0 : List Int32) (bs1 : List Int32) (kc : Int32) (h0 : Heap) (n0 : Nat) (v : Option Value) (h : Heap) (L : List Loc) : Prop := v = some (.int (F_seg ic0 rw0 cl0 mw0 mh0 fl0 rw1 cl1 mw1 mh1 ic1 fl1 xp bs0 bs1)) ∧ Fr n0 L ∧ True
set_option maxRecDepth 65536 in
set_option maxHeartbeats 40000000 in
theorem sg_seg {l : Launch} {Z : State} {a0' : Array Value} (hw : ∀ d ∈ tables_1, d.before a0' Z = true) (q0 : Int64) (q1 : Int64) (ic0 : Int32) (p3 : Int32) (p4 : Int32) (p5 : Int32) (rw0 : Int32) (cl0 : Int32) (mw0 : Int32) (mh0 : Int32) (fl0 : Int32) (sel : Int32) (alt : Int32) (s0 : Addr) (s1 : Addr) (rw1 : Int32) (cl1 : Int32) (mw1 : Int32) (mh1 : Int32) (ic1 : Int32) (fl1 : Int32) (xp : Int32) (v0 : Addr) (v1 : Addr) (k0 : ClassId) (k1 : ClassId) (bs0 : List Int32) (bs1 : List Int32) (kc : Int32) {h0 : Heap} {n0 : Nat} (Z0 : n0 ≤ h0.size) (E0 : Exa Z h0 s0 "java/lang/String") (C0 : Fld Z h0 s0 "java/lang/String" "coder" "B" (.int (0 : Int32))) (V0 : Fld Z h0 s0 "java/lang/String" "value" "[B" (.ref v0)) (W0 : Arv Z h0 v0 k0 .byte (Int32.ofNat bs0.length) (bs0.map Value.int) (.int 0)) (lb0 : bs0.length ≤ 3) (E1 : Exa Z h0 s1 "java/lang/String") (C1 : Fld Z h0 s1 "java/lang/String" "coder" "B" (.int (0 : Int32))) (V1 : Fld Z h0 s1 "java/lang/String" "value" "[B" (.ref v1)) (W1 : Arv Z h0 v1 k1 .byte (Int32.ofNat bs1.length) (bs1.map Value.int) (.int 0)) (lb1 : bs1.length ≤ 3) (S_cs : Sta Z h0 "java/lang/String" "COMPACT_STRINGS" "Z" (.int kc)) (hkc : ¬ (kc = (0 : Int32)))
    {p : Program} {e : Env} {s : State} {m : MethodId} {args : Array Value} {below : List Frame} {meth : Method} {c : Code} {T0 : State} {locs : List Loc} {vm0 : Vm} {kk0 : Nat} (X0 : Stand p l e room_1 (s.setVm vm0) m args below meth c T0 locs 12 24) (hx : p.tables.exec = Jvm.exec) (hZ : Z.Warmed39 (s.setVm vm0).vm) (hby : c.code = code) (hml : c.maxLocals = 26) (hown : (s.setVm vm0).vm.findClass "com/example/entry_to_apps/entrytoapps/GridProfileEqualsPinLaw" = some m.cls) (hret : meth.sig.returnType = some .boolean) (hlk : meth.locks = false) (e0 : T0.heap = h0) (N0 : Fr n0 locs) (hS0 : s.Since vm0 kk0) (hk0 : kk0 ≤ h0.size) (CH0 : CHr Z own_EL vm0 h0 vm0 h0) :
    ∃ s₂ o, Steps p.tables e below (T0.setTop (mkF m 333 #[.val (.long q0), .second, .val (.long q1), .second, .val (.int ic0), .val (.int p3), .val (.int p4), .val (.int p5), .val (.int rw0), .val (.int cl0), .val (.int mw0), .val (.int mh0), .val (.int fl0), .val (.int sel), .val (.int alt), .val (.ref s0), .val (.ref s1), .val (.int rw1), .val (.int cl1), .val (.int mw1), .val (.int mh1), .val (.int ic1), .val (.int fl1), .val (.int xp), .unset, .unset] [])) s₂ ∧ s₂.status = .running ∧ Ended s₂ below o ∧ ∃ v L, o = .returned v ∧ Q_seg Z q0 q1 ic0 p3 p4 p5 rw0 cl0 mw0 mh0 fl0 sel alt s0 s1 rw1 cl1 mw1 mh1 ic1 fl1 xp v0 v1 k0 k1 bs0 bs1 kc h0 n0 v s₂.heap L ∧ ReturnedEndW s o s₂ L room_1.cells room_1.slots := by
  have hEW := own_EW hw
  have pre0 : ∀ t, Steps p.tables e below (T0.setTop (mkF m 333 #[.val (.long q0), .second, .val (.long q1), .second, .val (.int ic0), .val (.int p3), .val (.int p4), .val (.int p5), .val (.int rw0), .val (.int cl0), .val (.int mw0), .val (.int mh0), .val (.int fl0), .val (.int sel), .val (.int alt), .val (.ref s0), .val (.ref s1), .val (.int rw1), .val (.int cl1), .val (.int mw1), .val (.int mh1), .val (.int ic1), .val (.int fl1), .val (.int xp), .unset, .unset] [])) t → Steps p.tables e below (T0.setTop (mkF m 333 #[.val (.long q0), .second, .val (.long q1), .second, .val (.int ic0), .val (.int p3), .val (.int p4), .val (.int p5), .val (.int rw0), .val (.int cl0), .val (.int mw0), .val (.int mh0), .val (.int fl0), .val (.int sel), .val (.int alt), .val (.ref s0), .val (.ref s1), .val (.int rw1), .val (.int cl1), .val (.int mw1), .val (.int mh1), .val (.int ic1), .val (.int fl1), .val (.int xp), .unset, .unset] [])) t := fun t k => k
  obtain ⟨T302, h302, X302, e302, E302, A302, D302, -, st302⟩ := newO X0 hx hZ hown (ow hw 29 rfl) (ow hw 30 rfl) (ow hw 31 rfl) e0 (g := (mkF m 333 #[.val (.long q0), .second, .val (.long q1), .second, .val (.int ic0), .val (.int p3), .val (.int p4), .val (.int p5), .val (.int rw0), .val (.int cl0), .val (.int mw0), .val (.int mh0), .val (.int fl0), .val (.int sel), .val (.int alt), .val (.ref s0), .val (.ref s1), .val (.int rw1), .val (.int cl1), .val (.int mw1), .val (.int mh1), .val (.int ic1), .val (.int fl1), .val (.int xp), .unset, .unset] [])) rfl (hb hby at_333) (by decide) (by decide)
  obtain ⟨b302, g302⟩ : ∃ z, z = h0.size := ⟨_, rfl⟩
  rw [← g302] at A302 D302 st302
  have ne302_s0_b302 : s0 ≠ b302 := Nat.ne_of_lt (Nat.lt_of_lt_of_le E0.lt (Nat.le_of_eq g302.symm))
  have ne302_v0_b302 : v0 ≠ b302 := Nat.ne_of_lt (Nat.lt_of_lt_of_le W0.lt (Nat.le_of_eq g302.symm))
  have ne302_s1_b302 : s1 ≠ b302 := Nat.ne_of_lt (Nat.lt_of_lt_of_le E1.lt (Nat.le_of_eq g302.symm))
  have ne302_v1_b302 : v1 ≠ b302 := Nat.ne_of_lt (Nat.lt_of_lt_of_le W1.lt (Nat.le_of_eq g302.symm))
  have szb_b302 : h0.size ≤ b302 := Nat.le_of_eq g302.symm
  have g_b302 : n0 ≤ b302 := Nat.le_trans Z0 (Nat.le_of_eq g302.symm)
  have sz_b302 : h0.size ≤ b302 := Nat.le_trans (Nat.le_refl _) (Nat.le_of_eq g302.symm)
  have EX302 : Ext h0 h302 := E302
  have SZ302 : h0.size ≤ h302.size := EX302.1
  have Z302 : n0 ≤ h302.size := Nat.le_trans Z0 SZ302
  have hk302 := Nat.le_trans hk0 E302.1
  have EXb302 : Ext h0 h302 := E302
  have F0_rows_b302 := D302 (Or.inr (ow hw 39 rfl)) (ty := .int) (by decide)
  obtain ⟨_, _, ⟨T303, L303, k303, n303⟩, -, X303, ⟨Lc303, hQ303, l303, y303, z303⟩, st303⟩ := X302.specialBack hx (y := (⟨"com/example/entry_to_apps/entrytoapps/GridProfile", "<init>", "(Ljava/lang/String;IIIIIZ)V"⟩ : MethodName)) rfl hown (mvT hZ (ow hw 32 rfl)) (mvT hZ (ow hw 33 rfl)) (mvT hZ (ow hw 34 rfl)) (by decide) (backOf (W := 1) (rm_gpi l Z a0' hw [] b302 s0 rw0 cl0 mw0 mh0 ic0 fl0 h302 n0 Z302 A302 F0_rows_b302 g_b302) hZ (ow hw 34 rfl) (ow hw 31 rfl) (by decide) (by decide)) (g := (mkF m 351 #[.val (.long q0), .second, .val (.long q1), .second, .val (.int ic0), .val (.int p3), .val (.int p4), .val (.int p5), .val (.int rw0), .val (.int cl0), .val (.int mw0), .val (.int mh0), .val (.int fl0), .val (.int sel), .val (.int alt), .val (.ref s0), .val (.ref s1), .val (.int rw1), .val (.int cl1), .val (.int mw1), .val (.int mh1), .val (.int ic1), .val (.int fl1), .val (.int xp), .unset, .unset] [(.int fl0), (.int ic0), (.int mh0), (.int mw0), (.int cl0), (.int rw0), (.ref s0), (.ref b302), (.ref b302)])) rfl (by rw [hml]; rfl) (Steps.refl _) (a := b302) (argsL := [(.ref s0), (.int rw0), (.int cl0), (.int mw0), (.int mh0), (.int ic0), (.int fl0)]) (rest := [(.ref b302)]) (lenOf own_pd7 rfl) rfl (by show 2 * 0 + _ ≤ _; exact Nat.le_of_eq rfl) (hb hby at_351) (fun _ _ => ⟨rfl, e302, (by decide : 13 + 0 ≤ _), (by decide : 31 + 0 ≤ _)⟩)
  dsimp only [Pt.U, Pt.locs, Pt.cells, Pt.slots] at X303 l303 y303 z303 st303 hQ303
  subst l303 y303 z303
  obtain ⟨rfl, N303q, K303, Eg303, Gname_303, Grows_303, Gcolumns_303, GminWidth_303, GminHeight_303, GiconSize_303, GisDefault_303⟩ := hQ303
  have N303 := Fr.app N0 N303q
  have EX303 : Ext h0 T303.heap := own_extkeep EX302 K303 sz_b302
  have SZ303 : h0.size ≤ T303.heap.size := EX303.1
  have Z303 : n0 ≤ T303.heap.size := Nat.le_trans Z0 SZ303
  have hk303 := Nat.le_trans hk302 K303.1
  have EXb303 : Ext h0 T303.heap := own_extkeep EXb302 K303 szb_b302
  obtain ⟨T304, h304, X304, e304, E304, A304, D304, -, st304⟩ := newO X303 hx hZ hown (ow hw 29 rfl) (ow hw 30 rfl) (ow hw 31 rfl) rfl (g := (mkF m 356 #[.val (.long q0), .second, .val (.long q1), .second, .val (.int ic0), .val (.int p3), .val (.int p4), .val (.int p5), .val (.int rw0), .val (.int cl0), .val (.int mw0), .val (.int mh0), .val (.int fl0), .val (.int sel), .val (.int alt), .val (.ref s0), .val (.ref s1), .val (.int rw1), .val (.int cl1), .val (.int mw1), .val (.int mh1), .val (.int ic1), .val (.int fl1), .val (.int xp), .val (.ref b302), .unset] [])) rfl (hb hby at_356) (by decide) (by decide)
  obtain ⟨b304, g304⟩ : ∃ z, z = T303.heap.size := ⟨_, rfl⟩
  rw [← g304] at A304 D304 st304
  have fx305 := ((E0.ext E302).keep K303)
  have ne304_s0_b304 : s0 ≠ b304 := Nat.ne_of_lt (Nat.lt_of_lt_of_le fx305.lt (Nat.le_of_eq g304.symm))
  have fx306 := ((W0.ext E302).keep K303 (ninS ne302_v0_b302 nin0))
  have ne304_v0_b304 : v0 ≠ b304 := Nat.ne_of_lt (Nat.lt_of_lt_of_le fx306.lt (Nat.le_of_eq g304.symm))
  have fx307 := ((E1.ext E302).keep K303)
  have ne304_s1_b304 : s1 ≠ b304 := Nat.ne_of_lt (Nat.lt_of_lt_of_le fx307.lt (Nat.le_of_eq g304.symm))
  have fx308 := ((W1.ext E302).keep K303 (ninS ne302_v1_b302 nin0))
  have ne304_v1_b304 : v1 ≠ b304 := Nat.ne_of_lt (Nat.lt_of_lt_of_le fx308.lt (Nat.le_of_eq g304.symm))
  have ne304_b302_b304 : b302 ≠ b304 := Nat.ne_of_lt (Nat.lt_of_lt_of_le Eg303.lt (Nat.le_of_eq g304.symm))
  have szb_b304 : h0.size ≤ b304 := Nat.le_trans EXb303.1 (Nat.le_of_eq g304.symm)
  have g_b304 : n0 ≤ b304 := Nat.le_trans Z303 (Nat.le_of_eq g304.symm)
  have sz_b304 : h0.size ≤ b304 := Nat.le_trans SZ303 (Nat.le_of_eq g304.symm)
  have EX304 : Ext h0 h304 := own_exttr EX303 E304
  have SZ304 : h0.size ≤ h304.size := EX304.1
  have Z304 : n0 ≤ h304.size := Nat.le_trans Z0 SZ304
  have hk304 := Nat.le_trans hk303 E304.1
  have EXb304 : Ext h0 h304 := own_exttr EXb303 E304
  have F0_rows_b304 := D304 (Or.inr (ow hw 39 rfl)) (ty := .int) (by decide)
  obtain ⟨_, _, ⟨T309, L309, k309, n309⟩, -, X309, ⟨Lc309, hQ309, l309, y309, z309⟩, st309⟩ := X304.specialBack hx (y := (⟨"com/example/entry_to_apps/entrytoapps/GridProfile", "<init>", "(Ljava/lang/String;IIIIIZ)V"⟩ : MethodName)) rfl hown (mvT hZ (ow hw 32 rfl)) (mvT hZ (ow hw 33 rfl)) (mvT hZ (ow hw 34 rfl)) (by decide) (backOf (W := 1) (rm_gpi l Z a0' hw [] b304 s1 rw1 cl1 mw1 mh1 ic1 fl1 h304 n0 Z304 A304 F0_rows_b304 g_b304) hZ (ow hw 34 rfl) (ow hw 31 rfl) (by decide) (by decide)) (g := (mkF m 374 #[.val (.long q0), .second, .val (.long q1), .second, .val (.int ic0), .val (.int p3), .val (.int p4), .val (.int p5), .val (.int rw0), .val (.int cl0), .val (.int mw0), .val (.int mh0), .val (.int fl0), .val (.int sel), .val (.int alt), .val (.ref s0), .val (.ref s1), .val (.int rw1), .val (.int cl1), .val (.int mw1), .val (.int mh1), .val (.int ic1), .val (.int fl1), .val (.int xp), .val (.ref b302), .unset] [(.int fl1), (.int ic1), (.int mh1), (.int mw1), (.int cl1), (.int rw1), (.ref s1), (.ref b304), (.ref b304)])) rfl (by rw [hml]; rfl) (Steps.refl _) (a := b304) (argsL := [(.ref s1), (.int rw1), (.int cl1), (.int mw1), (.int mh1), (.int ic1), (.int fl1)]) (rest := [(.ref b304)]) (lenOf own_pd7 rfl) rfl (by show 2 * 0 + _ ≤ _; exact Nat.le_of_eq rfl) (hb hby at_374) (fun _ _ => ⟨rfl, e304, (by decide : 14 + 0 ≤ _), (by decide : 38 + 0 ≤ _)⟩)
  dsimp only [Pt.U, Pt.locs, Pt.cells, Pt.slots] at X309 l309 y309 z309 st309 hQ309
  subst l309 y309 z309
  obtain ⟨rfl, N309q, K309, Eg309, Gname_309, Grows_309, Gcolumns_309, GminWidth_309, GminHeight_309, GiconSize_309, GisDefault_309⟩ := hQ309
  have N309 := Fr.app N303 N309q
  have EX309 : Ext h0 T309.heap := own_extkeep EX304 K309 sz_b304
  have SZ309 : h0.size ≤ T309.heap.size := EX309.1
  have Z309 : n0 ≤ T309.heap.size := Nat.le_trans Z0 SZ309
  have hk309 := Nat.le_trans hk304 K309.1
  have EXb309 : Ext h0 T309.heap := own_extkeep EXb304 K309 szb_b304
  have fx311 := ((Eg303.ext E304).keep K309)
  have fx312 := ((Gname_303.ext E304).keep K309 (ninS ne304_b302_b304 nin0))
  have fx313 := ((Grows_303.ext E304).keep K309 (ninS ne304_b302_b304 nin0))
  have fx314 := ((Gcolumns_303.ext E304).keep K309 (ninS ne304_b302_b304 nin0))
  have fx315 := ((GminWidth_303.ext E304).keep K309 (ninS ne304_b302_b304 nin0))
  have fx316 := ((GminHeight_303.ext E304).keep K309 (ninS ne304_b302_b304 nin0))
  have fx317 := ((GiconSize_303.ext E304).keep K309 (ninS ne304_b302_b304 nin0))
  have fx318 := ((GisDefault_303.ext E304).keep K309 (ninS ne304_b302_b304 nin0))
  have fx319 := ((fx305.ext E304).keep K309)
  have fx320 := ((((C0.ext E302).keep K303 (ninS ne302_s0_b302 nin0)).ext E304).keep K309 (ninS ne304_s0_b304 nin0))
  have fx321 := ((((V0.ext E302).keep K303 (ninS ne302_s0_b302 nin0)).ext E304).keep K309 (ninS ne304_s0_b304 nin0))
  have fx322 := ((fx306.ext E304).keep K309 (ninS ne304_v0_b304 nin0))
  have fx323 := ((fx307.ext E304).keep K309)
  have fx324 := ((((C1.ext E302).keep K303 (ninS ne302_s1_b302 nin0)).ext E304).keep K309 (ninS ne304_s1_b304 nin0))
  have fx325 := ((((V1.ext E302).keep K303 (ninS ne302_s1_b302 nin0)).ext E304).keep K309 (ninS ne304_s1_b304 nin0))
  have fx326 := ((fx308.ext E304).keep K309 (ninS ne304_v1_b304 nin0))
  obtain ⟨cq310, kq310, q310a, q310b, q310c⟩ := isOf hZ rfl fx311
  obtain ⟨_, _, ⟨T310, L310, k310, n310⟩, -, X310, ⟨Lc310, hQ310, l310, y310, z310⟩, st310⟩ := X309.virtualBack hx (y := (⟨"com/example/entry_to_apps/entrytoapps/GridProfile", "equals", "(Ljava/lang/Object;)Z"⟩ : MethodName)) (z := (⟨"com/example/entry_to_apps/entrytoapps/GridProfile", "equals", "(Ljava/lang/Object;)Z"⟩ : MethodName)) hown (mvT hZ (ow hw 50 rfl)) (mvT hZ (ow hw 51 rfl)) (notFace_of_selects (args := #[]) (mvT hZ (ow hw 53 rfl))) (mvT hZ (ow hw 53 rfl)) (mvT hZ (ow hw 52 rfl)) (by decide) (backOf (W := 0) (rm_gpe l Z a0' hw [] b302 b304 s0 s1 v0 v1 k0 k1 bs0 bs1 rw0 cl0 mw0 mh0 ic0 (nar .boolean fl0) rw1 cl1 mw1 mh1 ic1 (nar .boolean fl1) kc T309.heap n0 Z309 fx311 fx312 fx313 fx314 fx315 fx316 fx317 fx318 Eg309 Gname_309 Grows_309 Gcolumns_309 GminWidth_309 GminHeight_309 GiconSize_309 GisDefault_309 fx319 fx320 fx321 fx322 lb0 fx323 fx324 fx325 fx326 lb1 (S_cs.ext EX309) hkc) hZ (ow hw 54 rfl) (ow hw 31 rfl) (by decide) (by decide)) q310a q310c (g := (mkF m 383 #[.val (.long q0), .second, .val (.long q1), .second, .val (.int ic0), .val (.int p3), .val (.int p4), .val (.int p5), .val (.int rw0), .val (.int cl0), .val (.int mw0), .val (.int mh0), .val (.int fl0), .val (.int sel), .val (.int alt), .val (.ref s0), .val (.ref s1), .val (.int rw1), .val (.int cl1), .val (.int mw1), .val (.int mh1), .val (.int ic1), .val (.int fl1), .val (.int xp), .val (.ref b302), .val (.ref b304)] [(.ref b304), (.ref b302)])) rfl (by rw [hml]; rfl) (Steps.refl _) (argsL := [(.ref b304)]) (rest := []) (lenOf own_pd6 rfl) rfl (by show 2 * 0 + _ ≤ _; exact Nat.le_of_eq rfl) (hb hby at_383) (fun _ _ => ⟨rfl, rfl, (by decide : 14 + 0 ≤ _), (by decide : 38 + 0 ≤ _)⟩)
  dsimp only [Pt.U, Pt.locs, Pt.cells, Pt.slots] at X310 l310 y310 z310 st310 hQ310
  subst l310 y310 z310
  obtain ⟨rfl, N310q, e310⟩ := hQ310
  have N310 := Fr.app N309 N310q
  have pre328 : ∀ t, Steps p.tables e below (T310.setTop (mkF m 388 #[.val (.long q0), .second, .val (.long q1), .second, .val (.int ic0), .val (.int p3), .val (.int p4), .val (.int p5), .val (.int rw0), .val (.int cl0), .val (.int mw0), .val (.int mh0), .val (.int fl0), .val (.int sel), .val (.int alt), .val (.ref s0), .val (.ref s1), .val (.int rw1), .val (.int cl1), .val (.int mw1), .val (.int mh1), .val (.int ic1), .val (.int fl1), .val (.int xp), .val (.ref b302), .val (.ref b304)] [(.int xp), (.int (F_gpe bs0 bs1 rw0 cl0 mw0 mh0 ic0 (nar .boolean fl0) rw1 cl1 mw1 mh1 ic1 (nar .boolean fl1)))])) t → Steps p.tables e below (T0.setTop (mkF m 333 #[.val (.long q0), .second, .val (.long q1), .second, .val (.int ic0), .val (.int p3), .val (.int p4), .val (.int p5), .val (.int rw0), .val (.int cl0), .val (.int mw0), .val (.int mh0), .val (.int fl0), .val (.int sel), .val (.int alt), .val (.ref s0), .val (.ref s1), .val (.int rw1), .val (.int cl1), .val (.int mw1), .val (.int mh1), .val (.int ic1), .val (.int fl1), .val (.int xp), .unset, .unset] [])) t := fun t k => pre0 t (by
    refine st302 _ ?_
    refine XS.dup X302.here hx rfl (hb hby at_336) rfl rfl ?_
    refine XS.aload X302.here hx rfl (hb hby at_337) rfl rfl ?_
    refine XS.iload X302.here hx rfl (hb hby at_339) rfl ?_
    refine XS.iload X302.here hx rfl (hb hby at_341) rfl ?_
    refine XS.iload X302.here hx rfl (hb hby at_343) rfl ?_
    refine XS.iload X302.here hx rfl (hb hby at_345) rfl ?_
    refine XS.iload X302.here hx rfl (hb hby at_347) rfl ?_
    refine XS.iload X302.here hx rfl (hb hby at_349) rfl ?_
    refine st303.trans ?_
    refine XS.astore X303.here hx rfl (hb hby at_354) rfl rfl (l' := #[.val (.long q0), .second, .val (.long q1), .second, .val (.int ic0), .val (.int p3), .val (.int p4), .val (.int p5), .val (.int rw0), .val (.int cl0), .val (.int mw0), .val (.int mh0), .val (.int fl0), .val (.int sel), .val (.int alt), .val (.ref s0), .val (.ref s1), .val (.int rw1), .val (.int cl1), .val (.int mw1), .val (.int mh1), .val (.int ic1), .val (.int fl1), .val (.int xp), .val (.ref b302), .unset]) rfl ?_
    refine st304 _ ?_
    refine XS.dup X304.here hx rfl (hb hby at_359) rfl rfl ?_
    refine XS.aload X304.here hx rfl (hb hby at_360) rfl rfl ?_
    refine XS.iload X304.here hx rfl (hb hby at_362) rfl ?_
    refine XS.iload X304.here hx rfl (hb hby at_364) rfl ?_
    refine XS.iload X304.here hx rfl (hb hby at_366) rfl ?_
    refine XS.iload X304.here hx rfl (hb hby at_368) rfl ?_
    refine XS.iload X304.here hx rfl (hb hby at_370) rfl ?_
    refine XS.iload X304.here hx rfl (hb hby at_372) rfl ?_
    refine st309.trans ?_
    refine XS.astore X309.here hx rfl (hb hby at_377) rfl rfl (l' := #[.val (.long q0), .second, .val (.long q1), .second, .val (.int ic0), .val (.int p3), .val (.int p4), .val (.int p5), .val (.int rw0), .val (.int cl0), .val (.int mw0), .val (.int mh0), .val (.int fl0), .val (.int sel), .val (.int alt), .val (.ref s0), .val (.ref s1), .val (.int rw1), .val (.int cl1), .val (.int mw1), .val (.int mh1), .val (.int ic1), .val (.int fl1), .val (.int xp), .val (.ref b302), .val (.ref b304)]) rfl ?_
    refine XS.aload X309.here hx rfl (hb hby at_379) rfl rfl ?_
    refine XS.aload X309.here hx rfl (hb hby at_381) rfl rfl ?_
    refine st310.trans ?_
    refine XS.iload X310.here hx rfl (hb hby at_386) rfl ?_
    exact k)
  by_cases hc388_327 : (F_gpe bs0 bs1 rw0 cl0 mw0 mh0 ic0 (nar .boolean fl0) rw1 cl1 mw1 mh1 ic1 (nar .boolean fl1)) = xp
  · obtain ⟨cq329, kq329, q329a, q329b, q329c⟩ := isOf hZ e310 Eg309
    obtain ⟨_, _, ⟨T329, L329, k329, n329⟩, -, X329, ⟨Lc329, hQ329, l329, y329, z329⟩, st329⟩ := X310.virtualBack hx (y := (⟨"com/example/entry_to_apps/entrytoapps/GridProfile", "equals", "(Ljava/lang/Object;)Z"⟩ : MethodName)) (z := (⟨"com/example/entry_to_apps/entrytoapps/GridProfile", "equals", "(Ljava/lang/Object;)Z"⟩ : MethodName)) hown (mvT hZ (ow hw 50 rfl)) (mvT hZ (ow hw 51 rfl)) (notFace_of_selects (args := #[]) (mvT hZ (ow hw 53 rfl))) (mvT hZ (ow hw 53 rfl)) (mvT hZ (ow hw 52 rfl)) (by decide) (backOf (W := 0) (rm_gpe l Z a0' hw [] b304 b302 s1 s0 v1 v0 k1 k0 bs1 bs0 rw1 cl1 mw1 mh1 ic1 (nar .boolean fl1) rw0 cl0 mw0 mh0 ic0 (nar .boolean fl0) kc T309.heap n0 Z309 Eg309 Gname_309 Grows_309 Gcolumns_309 GminWidth_309 GminHeight_309 GiconSize_309 GisDefault_309 fx311 fx312 fx313 fx314 fx315 fx316 fx317 fx318 fx323 fx324 fx325 fx326 lb1 fx319 fx320 fx321 fx322 lb0 (S_cs.ext EX309) hkc) hZ (ow hw 54 rfl) (ow hw 31 rfl) (by decide) (by decide)) q329a q329c (g := (mkF m 395 #[.val (.long q0), .second, .val (.long q1), .second, .val (.int ic0), .val (.int p3), .val (.int p4), .val (.int p5), .val (.int rw0), .val (.int cl0), .val (.int mw0), .val (.int mh0), .val (.int fl0), .val (.int sel), .val (.int alt), .val (.ref s0), .val (.ref s1), .val (.int rw1), .val (.int cl1), .val (.int mw1), .val (.int mh1), .val (.int ic1), .val (.int fl1), .val (.int xp), .val (.ref b302), .val (.ref b304)] [(.ref b302), (.ref b304)])) rfl (by rw [hml]; rfl) (Steps.refl _) (argsL := [(.ref b302)]) (rest := []) (lenOf own_pd6 rfl) rfl (by show 2 * 0 + _ ≤ _; exact Nat.le_of_eq rfl) (hb hby at_395) (fun _ _ => ⟨rfl, e310, (by decide : 14 + 0 ≤ _), (by decide : 38 + 0 ≤ _)⟩)
    dsimp only [Pt.U, Pt.locs, Pt.cells, Pt.slots] at X329 l329 y329 z329 st329 hQ329
    subst l329 y329 z329
    obtain ⟨rfl, N329q, e329⟩ := hQ329
    have N329 := Fr.app N310 N329q
    have pre331 : ∀ t, Steps p.tables e below (T329.setTop (mkF m 400 #[.val (.long q0), .second, .val (.long q1), .second, .val (.int ic0), .val (.int p3), .val (.int p4), .val (.int p5), .val (.int rw0), .val (.int cl0), .val (.int mw0), .val (.int mh0), .val (.int fl0), .val (.int sel), .val (.int alt), .val (.ref s0), .val (.ref s1), .val (.int rw1), .val (.int cl1), .val (.int mw1), .val (.int mh1), .val (.int ic1), .val (.int fl1), .val (.int xp), .val (.ref b302), .val (.ref b304)] [(.int xp), (.int (F_gpe bs1 bs0 rw1 cl1 mw1 mh1 ic1 (nar .boolean fl1) rw0 cl0 mw0 mh0 ic0 (nar .boolean fl0)))])) t → Steps p.tables e below (T0.setTop (mkF m 333 #[.val (.long q0), .second, .val (.long q1), .second, .val (.int ic0), .val (.int p3), .val (.int p4), .val (.int p5), .val (.int rw0), .val (.int cl0), .val (.int mw0), .val (.int mh0), .val (.int fl0), .val (.int sel), .val (.int alt), .val (.ref s0), .val (.ref s1), .val (.int rw1), .val (.int cl1), .val (.int mw1), .val (.int mh1), .val (.int ic1), .val (.int fl1), .val (.int xp), .unset, .unset] [])) t := fun t k => pre328 t (by
      refine XS.icmpNo X310.here hx rfl (hb hby at_388) rfl (teq hc388_327).2 ?_
      refine XS.aload X310.here hx rfl (hb hby at_391) rfl rfl ?_
      refine XS.aload X310.here hx rfl (hb hby at_393) rfl rfl ?_
      refine st329.trans ?_
      refine XS.iload X329.here hx rfl (hb hby at_398) rfl ?_
      exact k)
    by_cases hc400_330 : (F_gpe bs1 bs0 rw1 cl1 mw1 mh1 ic1 (nar .boolean fl1) rw0 cl0 mw0 mh0 ic0 (nar .boolean fl0)) = xp
    · obtain ⟨cq332, kq332, q332a, q332b, q332c⟩ := isOf hZ e329 fx311
      obtain ⟨_, _, ⟨T332, L332, k332, n332⟩, -, X332, ⟨Lc332, hQ332, l332, y332, z332⟩, st332⟩ := X329.virtualBack hx (y := (⟨"com/example/entry_to_apps/entrytoapps/GridProfile", "equals", "(Ljava/lang/Object;)Z"⟩ : MethodName)) (z := (⟨"com/example/entry_to_apps/entrytoapps/GridProfile", "equals", "(Ljava/lang/Object;)Z"⟩ : MethodName)) hown (mvT hZ (ow hw 50 rfl)) (mvT hZ (ow hw 51 rfl)) (notFace_of_selects (args := #[]) (mvT hZ (ow hw 53 rfl))) (mvT hZ (ow hw 53 rfl)) (mvT hZ (ow hw 52 rfl)) (by decide) (backOf (W := 0) (rm_gpe l Z a0' hw [] b302 b302 s0 s0 v0 v0 k0 k0 bs0 bs0 rw0 cl0 mw0 mh0 ic0 (nar .boolean fl0) rw0 cl0 mw0 mh0 ic0 (nar .boolean fl0) kc T309.heap n0 Z309 fx311 fx312 fx313 fx314 fx315 fx316 fx317 fx318 fx311 fx312 fx313 fx314 fx315 fx316 fx317 fx318 fx319 fx320 fx321 fx322 lb0 fx319 fx320 fx321 fx322 lb0 (S_cs.ext EX309) hkc) hZ (ow hw 54 rfl) (ow hw 31 rfl) (by decide) (by decide)) q332a q332c (g := (mkF m 407 #[.val (.long q0), .second, .val (.long q1), .second, .val (.int ic0), .val (.int p3), .val (.int p4), .val (.int p5), .val (.int rw0), .val (.int cl0), .val (.int mw0), .val (.int mh0), .val (.int fl0), .val (.int sel), .val (.int alt), .val (.ref s0), .val (.ref s1), .val (.int rw1), .val (.int cl1), .val (.int mw1), .val (.int mh1), .val (.int ic1), .val (.int fl1), .val (.int xp), .val (.ref b302), .val (.ref b304)] [(.ref b302), (.ref b302)])) rfl (by rw [hml]; rfl) (Steps.refl _) (argsL := [(.ref b302)]) (rest := []) (lenOf own_pd6 rfl) rfl (by show 2 * 0 + _ ≤ _; exact Nat.le_of_eq rfl) (hb hby at_407) (fun _ _ => ⟨rfl, e329, (by decide : 14 + 0 ≤ _), (by decide : 38 + 0 ≤ _)⟩)
      dsimp only [Pt.U, Pt.locs, Pt.cells, Pt.slots] at X332 l332 y332 z332 st332 hQ332
      subst l332 y332 z332
      obtain ⟨rfl, N332q, e332⟩ := hQ332
      have N332 := Fr.app N329 N332q
      have pre334 : ∀ t, Steps p.tables e below (T332.setTop (mkF m 410 #[.val (.long q0), .second, .val (.long q1), .second, .val (.int ic0), .val (.int p3), .val (.int p4), .val (.int p5), .val (.int rw0), .val (.int cl0), .val (.int mw0), .val (.int mh0), .val (.int fl0), .val (.int sel), .val (.int alt), .val (.ref s0), .val (.ref s1), .val (.int rw1), .val (.int cl1), .val (.int mw1), .val (.int mh1), .val (.int ic1), .val (.int fl1), .val (.int xp), .val (.ref b302), .val (.ref b304)] [(.int (F_gpe bs0 bs0 rw0 cl0 mw0 mh0 ic0 (nar .boolean fl0) rw0 cl0 mw0 mh0 ic0 (nar .boolean fl0)))])) t → Steps p.tables e below (T0.setTop (mkF m 333 #[.val (.long q0), .second, .val (.long q1), .second, .val (.int ic0), .val (.int p3), .val (.int p4), .val (.int p5), .val (.int rw0), .val (.int cl0), .val (.int mw0), .val (.int mh0), .val (.int fl0), .val (.int sel), .val (.int alt), .val (.ref s0), .val (.ref s1), .val (.int rw1), .val (.int cl1), .val (.int mw1), .val (.int mh1), .val (.int ic1), .val (.int fl1), .val (.int xp), .unset, .unset] [])) t := fun t k => pre331 t (by
        refine XS.icmpNo X329.here hx rfl (hb hby at_400) rfl (teq hc400_330).2 ?_
        refine XS.aload X329.here hx rfl (hb hby at_403) rfl rfl ?_
        refine XS.aload X329.here hx rfl (hb hby at_405) rfl rfl ?_
        refine st332.trans ?_
        exact k)
      by_cases hc410_333 : (F_gpe bs0 bs0 rw0 cl0 mw0 mh0 ic0 (nar .boolean fl0) rw0 cl0 mw0 mh0 ic0 (nar .boolean fl0)) = (0 : Int32)
      · obtain ⟨fs, hr, hrun, hended, hE⟩ := X332.leaveW hS0 (by rw [e332]; exact hk309) (hlocks := hlk) (v := some (.int (0 : Int32))) (fun h => by rw [hret] at h; cases h)
        refine ⟨_, _, pre334 _ ?_, hrun, hended, _, _, rfl, ?_, own_wmono hE (by decide) (by decide)⟩
        · show Steps p.tables e below (T332.setTop (mkF m 410 #[.val (.long q0), .second, .val (.long q1), .second, .val (.int ic0), .val (.int p3), .val (.int p4), .val (.int p5), .val (.int rw0), .val (.int cl0), .val (.int mw0), .val (.int mh0), .val (.int fl0), .val (.int sel), .val (.int alt), .val (.ref s0), .val (.ref s1), .val (.int rw1), .val (.int cl1), .val (.int mw1), .val (.int mh1), .val (.int ic1), .val (.int fl1), .val (.int xp), .val (.ref b302), .val (.ref b304)] [(.int (F_gpe bs0 bs0 rw0 cl0 mw0 mh0 ic0 (nar .boolean fl0) rw0 cl0 mw0 mh0 ic0 (nar .boolean fl0)))])) _
          refine XS.ifYes X332.here hx rfl (pc0 := 410) (pc' := 436) rfl (hb hby at_410) rfl ((if0 _ _).trans (teq hc410_333).1) (by decide) (by decide) ?_
          refine XS.iconst X332.here hx rfl (hb hby at_436) ?_
          exact retN X332 hx (t := .boolean) hret (by simp) (hb hby at_437) hr
        · show Q_seg Z q0 q1 ic0 p3 p4 p5 rw0 cl0 mw0 mh0 fl0 sel alt s0 s1 rw1 cl1 mw1 mh1 ic1 fl1 xp v0 v1 k0 k1 bs0 bs1 kc h0 n0 _ T332.heap _
          refine ⟨?_, N332, trivial⟩
          rw [F_seg, if_pos hc388_327, if_pos hc400_330, if_pos hc410_333]
      · obtain ⟨cq335, kq335, q335a, q335b, q335c⟩ := isOf hZ e332 fx311
        obtain ⟨_, _, ⟨T335, L335, k335, n335⟩, -, X335, ⟨Lc335, hQ335, l335, y335, z335⟩, st335⟩ := X332.virtualBack hx (y := (⟨"com/example/entry_to_apps/entrytoapps/GridProfile", "equals", "(Ljava/lang/Object;)Z"⟩ : MethodName)) (z := (⟨"com/example/entry_to_apps/entrytoapps/GridProfile", "equals", "(Ljava/lang/Object;)Z"⟩ : MethodName)) hown (mvT hZ (ow hw 50 rfl)) (mvT hZ (ow hw 51 rfl)) (notFace_of_selects (args := #[]) (mvT hZ (ow hw 53 rfl))) (mvT hZ (ow hw 53 rfl)) (mvT hZ (ow hw 52 rfl)) (by decide) (backOf (W := 0) (rm_gpN l Z a0' hw [] b302 T309.heap n0 Z309) hZ (ow hw 54 rfl) (ow hw 31 rfl) (by decide) (by decide)) q335a q335c (g := (mkF m 416 #[.val (.long q0), .second, .val (.long q1), .second, .val (.int ic0), .val (.int p3), .val (.int p4), .val (.int p5), .val (.int rw0), .val (.int cl0), .val (.int mw0), .val (.int mh0), .val (.int fl0), .val (.int sel), .val (.int alt), .val (.ref s0), .val (.ref s1), .val (.int rw1), .val (.int cl1), .val (.int mw1), .val (.int mh1), .val (.int ic1), .val (.int fl1), .val (.int xp), .val (.ref b302), .val (.ref b304)] [.null, (.ref b302)])) rfl (by rw [hml]; rfl) (Steps.refl _) (argsL := [.null]) (rest := []) (lenOf own_pd6 rfl) rfl (by show 2 * 0 + _ ≤ _; exact Nat.le_of_eq rfl) (hb hby at_416) (fun _ _ => ⟨rfl, e332, (by decide : 14 + 0 ≤ _), (by decide : 38 + 0 ≤ _)⟩)
        dsimp only [Pt.U, Pt.locs, Pt.cells, Pt.slots] at X335 l335 y335 z335 st335 hQ335
        subst l335 y335 z335
        obtain ⟨rfl, N335q, e335⟩ := hQ335
        have N335 := Fr.app N332 N335q
        obtain ⟨cq336, kq336, q336a, q336b, q336c⟩ := isOf hZ e335 fx311
        obtain ⟨_, _, ⟨T336, L336, k336, n336⟩, -, X336, ⟨Lc336, hQ336, l336, y336, z336⟩, st336⟩ := X335.virtualBack hx (y := (⟨"com/example/entry_to_apps/entrytoapps/GridProfile", "equals", "(Ljava/lang/Object;)Z"⟩ : MethodName)) (z := (⟨"com/example/entry_to_apps/entrytoapps/GridProfile", "equals", "(Ljava/lang/Object;)Z"⟩ : MethodName)) hown (mvT hZ (ow hw 50 rfl)) (mvT hZ (ow hw 51 rfl)) (notFace_of_selects (args := #[]) (mvT hZ (ow hw 53 rfl))) (mvT hZ (ow hw 53 rfl)) (mvT hZ (ow hw 52 rfl)) (by decide) (backOf (W := 0) (rm_gpS l Z a0' hw [] b302 s0 T309.heap n0 Z309 fx319) hZ (ow hw 54 rfl) (ow hw 31 rfl) (by decide) (by decide)) q336a q336c (g := (mkF m 426 #[.val (.long q0), .second, .val (.long q1), .second, .val (.int ic0), .val (.int p3), .val (.int p4), .val (.int p5), .val (.int rw0), .val (.int cl0), .val (.int mw0), .val (.int mh0), .val (.int fl0), .val (.int sel), .val (.int alt), .val (.ref s0), .val (.ref s1), .val (.int rw1), .val (.int cl1), .val (.int mw1), .val (.int mh1), .val (.int ic1), .val (.int fl1), .val (.int xp), .val (.ref b302), .val (.ref b304)] [(.ref s0), (.ref b302)])) rfl (by rw [hml]; rfl) (Steps.refl _) (argsL := [(.ref s0)]) (rest := []) (lenOf own_pd6 rfl) rfl (by show 2 * 0 + _ ≤ _; exact Nat.le_of_eq rfl) (hb hby at_426) (fun _ _ => ⟨rfl, e335, (by decide : 14 + 0 ≤ _), (by decide : 38 + 0 ≤ _)⟩)
        dsimp only [Pt.U, Pt.locs, Pt.cells, Pt.slots] at X336 l336 y336 z336 st336 hQ336
        subst l336 y336 z336
        obtain ⟨rfl, N336q, e336⟩ := hQ336
        have N336 := Fr.app N335 N336q
        obtain ⟨fs, hr, hrun, hended, hE⟩ := X336.leaveW hS0 (by rw [e336]; exact hk309) (hlocks := hlk) (v := some (.int (1 : Int32))) (fun h => by rw [hret] at h; cases h)
        refine ⟨_, _, pre334 _ ?_, hrun, hended, _, _, rfl, ?_, own_wmono hE (by decide) (by decide)⟩
        · show Steps p.tables e below (T332.setTop (mkF m 410 #[.val (.long q0), .second, .val (.long q1), .second, .val (.int ic0), .val (.int p3), .val (.int p4), .val (.int p5), .val (.int rw0), .val (.int cl0), .val (.int mw0), .val (.int mh0), .val (.int fl0), .val (.int sel), .val (.int alt), .val (.ref s0), .val (.ref s1), .val (.int rw1), .val (.int cl1), .val (.int mw1), .val (.int mh1), .val (.int ic1), .val (.int fl1), .val (.int xp), .val (.ref b302), .val (.ref b304)] [(.int (F_gpe bs0 bs0 rw0 cl0 mw0 mh0 ic0 (nar .boolean fl0) rw0 cl0 mw0 mh0 ic0 (nar .boolean fl0)))])) _
          refine XS.ifNo X332.here hx rfl (hb hby at_410) rfl ((if0 _ _).trans (feq hc410_333).1) ?_
          refine XS.aload X332.here hx rfl (hb hby at_413) rfl rfl ?_
          refine XS.aconstNull X332.here hx rfl (hb hby at_415) ?_
          refine st335.trans ?_
          refine XS.ifNo X335.here hx rfl (hb hby at_419) rfl ((if0 _ _).trans (teq (by decide : (0 : Int32) = (0 : Int32))).2) ?_
          refine XS.aload X335.here hx rfl (hb hby at_422) rfl rfl ?_
          refine XS.aload X335.here hx rfl (hb hby at_424) rfl rfl ?_
          refine st336.trans ?_
          refine XS.ifNo X336.here hx rfl (hb hby at_429) rfl ((if0 _ _).trans (teq (by decide : (0 : Int32) = (0 : Int32))).2) ?_
          refine XS.iconst X336.here hx rfl (hb hby at_432) ?_
          refine XS.goto X336.here hx rfl (pc0 := 433) (pc' := 437) rfl (hb hby at_433) (by decide) (by decide) ?_
          exact retN X336 hx (t := .boolean) hret (by simp) (hb hby at_437) hr
        · show Q_seg Z q0 q1 ic0 p3 p4 p5 rw0 cl0 mw0 mh0 fl0 sel alt s0 s1 rw1 cl1 mw1 mh1 ic1 fl1 xp v0 v1 k0 k1 bs0 bs1 kc h0 n0 _ T336.heap _
          refine ⟨?_, N336, trivial⟩
          rw [F_seg, if_pos hc388_327, if_pos hc400_330, if_neg hc410_333]
    · obtain ⟨fs, hr, hrun, hended, hE⟩ := X329.leaveW hS0 (by rw [e329]; exact hk309) (hlocks := hlk) (v := some (.int (0 : Int32))) (fun h => by rw [hret] at h; cases h)
      refine ⟨_, _, pre331 _ ?_, hrun, hended, _, _, rfl, ?_, own_wmono hE (by decide) (by decide)⟩
      · show Steps p.tables e below (T329.setTop (mkF m 400 #[.val (.long q0), .second, .val (.long q1), .second, .val (.int ic0), .val (.int p3), .val (.int p4), .val (.int p5), .val (.int rw0), .val (.int cl0), .val (.int mw0), .val (.int mh0), .val (.int fl0), .val (.int sel), .val (.int alt), .val (.ref s0), .val (.ref s1), .val (.int rw1), .val (.int cl1), .val (.int mw1), .val (.int mh1), .val (.int ic1), .val (.int fl1), .val (.int xp), .val (.ref b302), .val (.ref b304)] [(.int xp), (.int (F_gpe bs1 bs0 rw1 cl1 mw1 mh1 ic1 (nar .boolean fl1) rw0 cl0 mw0 mh0 ic0 (nar .boolean fl0)))])) _
        refine XS.icmpYes X329.here hx rfl (pc0 := 400) (pc' := 436) rfl (hb hby at_400) rfl (feq hc400_330).2 (by decide) (by decide) ?_
        refine XS.iconst X329.here hx rfl (hb hby at_436) ?_
        exact retN X329 hx (t := .boolean) hret (by simp) (hb hby at_437) hr
      · show Q_seg Z q0 q1 ic0 p3 p4 p5 rw0 cl0 mw0 mh0 fl0 sel alt s0 s1 rw1 cl1 mw1 mh1 ic1 fl1 xp v0 v1 k0 k1 bs0 bs1 kc h0 n0 _ T329.heap _
        refine ⟨?_, N329, trivial⟩
        rw [F_seg, if_pos hc388_327, if_neg hc400_330]
  · obtain ⟨fs, hr, hrun, hended, hE⟩ := X310.leaveW hS0 (by rw [e310]; exact hk309) (hlocks := hlk) (v := some (.int (0 : Int32))) (fun h => by rw [hret] at h; cases h)
    refine ⟨_, _, pre328 _ ?_, hrun, hended, _, _, rfl, ?_, own_wmono hE (by decide) (by decide)⟩
    · show Steps p.tables e below (T310.setTop (mkF m 388 #[.val (.long q0), .second, .val (.long q1), .second, .val (.int ic0), .val (.int p3), .val (.int p4), .val (.int p5), .val (.int rw0), .val (.int cl0), .val (.int mw0), .val (.int mh0), .val (.int fl0), .val (.int sel), .val (.int alt), .val (.ref s0), .val (.ref s1), .val (.int rw1), .val (.int cl1), .val (.int mw1), .val (.int mh1), .val (.int ic1), .val (.int fl1), .val (.int xp), .val (.ref b302), .val (.ref b304)] [(.int xp), (.int (F_gpe bs0 bs1 rw0 cl0 mw0 mh0 ic0 (nar .boolean fl0) rw1 cl1 mw1 mh1 ic1 (nar .boolean fl1)))])) _
      refine XS.icmpYes X310.here hx rfl (pc0 := 388) (pc' := 436) rfl (hb hby at_388) rfl (feq hc388_327).2 (by decide) (by decide) ?_
      refine XS.iconst X310.here hx rfl (hb hby at_436) ?_
      exact retN X310 hx (t := .boolean) hret (by simp) (hb hby at_437) hr
    · show Q_seg Z q0 q1 ic0 p3 p4 p5 rw0 cl0 mw0 mh0 fl0 sel alt s0 s1 rw1 cl1 mw1 mh1 ic1 fl1 xp v0 v1 k0 k1 bs0 bs1 kc h0 n0 _ T310.heap _
      refine ⟨?_, N310, trivial⟩
      rw [F_seg, if_neg hc388_327]
theorem own_len3 (x : Int32) : (FB_mk x).length ≤ 3 := by
  unfold FB_mk
  repeat' split
  all_goals simp
theorem own_pd8 : parseMethodDescriptor "(I)Ljava/lang/String;" = some ⟨[.int], some (.object "java/lang/String")⟩ := by decide +kernel
theorem own_pd9 : parseMethodDescriptor "(II)Z" = some ⟨[.int, .int], some .boolean⟩ := by decide +kernel
def F_segb (ic0 : Int32) (p3 : Int32) (p5 : Int32) (rw0 : Int32) (cl0 : Int32) (mw0 : Int32) (mh0 : Int32) (fl0 : Int32) (sel : Int32) (alt : Int32) : Int32 := (if sel = (0 : Int32) then (F_seg ic0 rw0 cl0 mw0 mh0 fl0 rw0 cl0 mw0 mh0 ic0 fl0 (F_same p3 p5) (FB_mk p3) (FB_mk p5)) else (if sel = (1 : Int32) then (if p5 = rw0 then (F_seg ic0 rw0 cl0 mw0 mh0 fl0 p5 cl0 mw0 mh0 ic0 fl0 (1 : Int32) (FB_mk p3) (FB_mk p3)) else (F_seg ic0 rw0 cl0 mw0 mh0 fl0 p5 cl0 mw0 mh0 ic0 fl0 (0 : Int32) (FB_mk p3) (FB_mk p3))) else (if sel = (2 : Int32) then (if p5 = cl0 then (F_seg ic0 rw0 cl0 mw0 mh0 fl0 rw0 p5 mw0 mh0 ic0 fl0 (1 : Int32) (FB_mk p3) (FB_mk p3)) else (F_seg ic0 rw0 cl0 mw0 mh0 fl0 rw0 p5 mw0 mh0 ic0 fl0 (0 : Int32) (FB_mk p3) (FB_mk p3))) else (if sel = (3 : Int32) then (if p5 = mw0 then (F_seg ic0 rw0 cl0 mw0 mh0 fl0 rw0 cl0 p5 mh0 ic0 fl0 (1 : Int32) (FB_mk p3) (FB_mk p3)) else (F_seg ic0 rw0 cl0 mw0 mh0 fl0 rw0 cl0 p5 mh0 ic0 fl0 (0 : Int32) (FB_mk p3) (FB_mk p3))) else (if sel = (4 : Int32) then (if p5 = mh0 then (F_seg ic0 rw0 cl0 mw0 mh0 fl0 rw0 cl0 mw0 p5 ic0 fl0 (1 : Int32) (FB_mk p3) (FB_mk p3)) else (F_seg ic0 rw0 cl0 mw0 mh0 fl0 rw0 cl0 mw0 p5 ic0 fl0 (0 : Int32) (FB_mk p3) (FB_mk p3))) else (if sel = (5 : Int32) then (if p5 = ic0 then (F_seg ic0 rw0 cl0 mw0 mh0 fl0 rw0 cl0 mw0 mh0 p5 fl0 (1 : Int32) (FB_mk p3) (FB_mk p3)) else (F_seg ic0 rw0 cl0 mw0 mh0 fl0 rw0 cl0 mw0 mh0 p5 fl0 (0 : Int32) (FB_mk p3) (FB_mk p3))) else (if sel = (6 : Int32) then (if alt = fl0 then (F_seg ic0 rw0 cl0 mw0 mh0 fl0 rw0 cl0 mw0 mh0 ic0 alt (1 : Int32) (FB_mk p3) (FB_mk p3)) else (F_seg ic0 rw0 cl0 mw0 mh0 fl0 rw0 cl0 mw0 mh0 ic0 alt (0 : Int32) (FB_mk p3) (FB_mk p3))) else (F_seg ic0 rw0 cl0 mw0 mh0 fl0 rw0 cl0 mw0 mh0 ic0 fl0 (1 : Int32) (FB_mk p3) (FB_mk p3)))))))))
def Q_segb (Z : State) (q0 : Int64) (q1 : Int64) (ic0 : Int32) (p3 : Int32) (p4 : Int32) (p5 : Int32) (rw0 : Int32) (cl0 : Int32) (mw0 : Int32) (mh0 : Int32) (fl0 : Int32) (sel : Int32) (alt : Int32) (kc : Int32) (h0 : Heap) (n0 : Nat) (v : Option Value) (h : Heap) (L : List Loc) : Prop := v = some (.int (F_segb ic0 p3 p5 rw0 cl0 mw0 mh0 fl0 sel alt)) ∧ Fr n0 L ∧ True
set_option maxRecDepth 65536 in
set_option maxHeartbeats 40000000 in
theorem sg_segb {l : Launch} {Z : State} {a0' : Array Value} (hw : ∀ d ∈ tables_1, d.before a0' Z = true) (q0 : Int64) (q1 : Int64) (ic0 : Int32) (p3 : Int32) (p4 : Int32) (p5 : Int32) (rw0 : Int32) (cl0 : Int32) (mw0 : Int32) (mh0 : Int32) (fl0 : Int32) (sel : Int32) (alt : Int32) (kc : Int32) {h0 : Heap} {n0 : Nat} (Z0 : n0 ≤ h0.size) (S_cs : Sta Z h0 "java/lang/String" "COMPACT_STRINGS" "Z" (.int kc)) (hkc : ¬ (kc = (0 : Int32)))
    {p : Program} {e : Env} {s : State} {m : MethodId} {args : Array Value} {below : List Frame} {meth : Method} {c : Code} {T0 : State} {locs : List Loc} {vm0 : Vm} {kk0 : Nat} (X0 : Stand p l e room_1 (s.setVm vm0) m args below meth c T0 locs 0 0) (hx : p.tables.exec = Jvm.exec) (hZ : Z.Warmed39 (s.setVm vm0).vm) (hby : c.code = code) (hml : c.maxLocals = 26) (hown : (s.setVm vm0).vm.findClass "com/example/entry_to_apps/entrytoapps/GridProfileEqualsPinLaw" = some m.cls) (hret : meth.sig.returnType = some .boolean) (hlk : meth.locks = false) (e0 : T0.heap = h0) (N0 : Fr n0 locs) (hS0 : s.Since vm0 kk0) (hk0 : kk0 ≤ h0.size) (CH0 : CHr Z own_EL vm0 h0 vm0 h0) :
    ∃ s₂ o, Steps p.tables e below (T0.setTop (mkF m 59 #[.val (.long q0), .second, .val (.long q1), .second, .val (.int ic0), .val (.int p3), .val (.int p4), .val (.int p5), .val (.int rw0), .val (.int cl0), .val (.int mw0), .val (.int mh0), .val (.int fl0), .val (.int sel), .val (.int alt), .unset, .unset, .unset, .unset, .unset, .unset, .unset, .unset, .unset, .unset, .unset] [])) s₂ ∧ s₂.status = .running ∧ Ended s₂ below o ∧ ∃ v L, o = .returned v ∧ Q_segb Z q0 q1 ic0 p3 p4 p5 rw0 cl0 mw0 mh0 fl0 sel alt kc h0 n0 v s₂.heap L ∧ ReturnedEndW s o s₂ L room_1.cells room_1.slots := by
  have hEW := own_EW hw
  have pre0 : ∀ t, Steps p.tables e below (T0.setTop (mkF m 59 #[.val (.long q0), .second, .val (.long q1), .second, .val (.int ic0), .val (.int p3), .val (.int p4), .val (.int p5), .val (.int rw0), .val (.int cl0), .val (.int mw0), .val (.int mh0), .val (.int fl0), .val (.int sel), .val (.int alt), .unset, .unset, .unset, .unset, .unset, .unset, .unset, .unset, .unset, .unset, .unset] [])) t → Steps p.tables e below (T0.setTop (mkF m 59 #[.val (.long q0), .second, .val (.long q1), .second, .val (.int ic0), .val (.int p3), .val (.int p4), .val (.int p5), .val (.int rw0), .val (.int cl0), .val (.int mw0), .val (.int mh0), .val (.int fl0), .val (.int sel), .val (.int alt), .unset, .unset, .unset, .unset, .unset, .unset, .unset, .unset, .unset, .unset, .unset] [])) t := fun t k => k
  have pre338 : ∀ t, Steps p.tables e below (T0.setTop (mkF m 61 #[.val (.long q0), .second, .val (.long q1), .second, .val (.int ic0), .val (.int p3), .val (.int p4), .val (.int p5), .val (.int rw0), .val (.int cl0), .val (.int mw0), .val (.int mh0), .val (.int fl0), .val (.int sel), .val (.int alt), .unset, .unset, .unset, .unset, .unset, .unset, .unset, .unset, .unset, .unset, .unset] [(.int p3)])) t → Steps p.tables e below (T0.setTop (mkF m 59 #[.val (.long q0), .second, .val (.long q1), .second, .val (.int ic0), .val (.int p3), .val (.int p4), .val (.int p5), .val (.int rw0), .val (.int cl0), .val (.int mw0), .val (.int mh0), .val (.int fl0), .val (.int sel), .val (.int alt), .unset, .unset, .unset, .unset, .unset, .unset, .unset, .unset, .unset, .unset, .unset] [])) t := fun t k => pre0 t (by
    refine XS.iload X0.here hx rfl (hb hby at_59) rfl ?_
    exact k)
  obtain ⟨_, _, ⟨T337, L337, k337, n337⟩, -, X337w, hS337w, hg337w, ⟨Lc337, hQ337, l337, y337, z337, hC337⟩, st337⟩ := callSS X0 hx (y := (⟨"com/example/entry_to_apps/entrytoapps/GridProfileEqualsPinLaw", "mkName", "(I)Ljava/lang/String;"⟩ : MethodName)) hown (mvT hZ (ow hw 0 rfl)) (mvT hZ (ow hw 1 rfl)) (mvT hZ (ow hw 2 rfl)) (mvT hZ (ow hw 3 rfl)) (by decide) (own_backW (s := s) (vm0 := vm0) (W := 0) (rm_mk l Z a0' hw [] p3 kc h0 n0 Z0 S_cs hkc) hZ (ow hw 3 rfl) (ow hw 2 rfl) (by decide) (by decide) hEW CH0.1 all0) (g := (mkF m 61 #[.val (.long q0), .second, .val (.long q1), .second, .val (.int ic0), .val (.int p3), .val (.int p4), .val (.int p5), .val (.int rw0), .val (.int cl0), .val (.int mw0), .val (.int mh0), .val (.int fl0), .val (.int sel), .val (.int alt), .unset, .unset, .unset, .unset, .unset, .unset, .unset, .unset, .unset, .unset, .unset] [(.int p3)])) rfl (by rw [hml]; rfl) (argsL := [(.int p3)]) (rest := []) (lenOf own_pd8 rfl) rfl (by show 2 * 0 + _ ≤ _; exact Nat.le_of_eq rfl) (hb hby at_61) (fun _ _ => ⟨rfl, e0, (by decide : 0 + 6 ≤ _), (by decide : 0 + 12 ≤ _)⟩)
  dsimp only [Pt.U, Pt.locs, Pt.cells, Pt.slots] at X337w hS337w hg337w l337 y337 z337 st337 hQ337 hC337
  subst l337 y337 z337
  obtain ⟨X337, hS337, hZ, hown⟩ := rebS hS0 (by rw [e0]; exact hk0) X337w hS337w hg337w hZ hown
  have CHn337 := CH0.trans hC337
  obtain ⟨r337, bn337, kn337, rfl, N337q, E337, zz337, Es337, Cs337, Fs337, As337⟩ := hQ337
  have N337 := Fr.app N0 N337q
  have g_r337 : n0 ≤ r337 := Nat.le_trans Z0 zz337
  have sz_r337 : h0.size ≤ r337 := Nat.le_trans (Nat.le_refl _) zz337
  have EX337 : Ext h0 T337.heap := E337
  have SZ337 : h0.size ≤ T337.heap.size := EX337.1
  have Z337 : n0 ≤ T337.heap.size := Nat.le_trans Z0 SZ337
  have pre340 : ∀ t, Steps p.tables e below (T337.setTop (mkF m 68 #[.val (.long q0), .second, .val (.long q1), .second, .val (.int ic0), .val (.int p3), .val (.int p4), .val (.int p5), .val (.int rw0), .val (.int cl0), .val (.int mw0), .val (.int mh0), .val (.int fl0), .val (.int sel), .val (.int alt), .val (.ref r337), .unset, .unset, .unset, .unset, .unset, .unset, .unset, .unset, .unset, .unset] [(.int sel)])) t → Steps p.tables e below (T0.setTop (mkF m 59 #[.val (.long q0), .second, .val (.long q1), .second, .val (.int ic0), .val (.int p3), .val (.int p4), .val (.int p5), .val (.int rw0), .val (.int cl0), .val (.int mw0), .val (.int mh0), .val (.int fl0), .val (.int sel), .val (.int alt), .unset, .unset, .unset, .unset, .unset, .unset, .unset, .unset, .unset, .unset, .unset] [])) t := fun t k => pre338 t (by
    refine st337.trans ?_
    refine XS.astore X337.here hx rfl (hb hby at_64) rfl rfl (l' := #[.val (.long q0), .second, .val (.long q1), .second, .val (.int ic0), .val (.int p3), .val (.int p4), .val (.int p5), .val (.int rw0), .val (.int cl0), .val (.int mw0), .val (.int mh0), .val (.int fl0), .val (.int sel), .val (.int alt), .val (.ref r337), .unset, .unset, .unset, .unset, .unset, .unset, .unset, .unset, .unset, .unset]) rfl ?_
    refine XS.iload X337.here hx rfl (hb hby at_66) rfl ?_
    exact k)
  by_cases hc68_339 : sel = (0 : Int32)
  · have pre342 : ∀ t, Steps p.tables e below (T337.setTop (mkF m 78 #[.val (.long q0), .second, .val (.long q1), .second, .val (.int ic0), .val (.int p3), .val (.int p4), .val (.int p5), .val (.int rw0), .val (.int cl0), .val (.int mw0), .val (.int mh0), .val (.int fl0), .val (.int sel), .val (.int alt), .val (.ref r337), .unset, .unset, .unset, .unset, .unset, .unset, .unset, .unset, .unset, .unset] [(.int p5)])) t → Steps p.tables e below (T0.setTop (mkF m 59 #[.val (.long q0), .second, .val (.long q1), .second, .val (.int ic0), .val (.int p3), .val (.int p4), .val (.int p5), .val (.int rw0), .val (.int cl0), .val (.int mw0), .val (.int mh0), .val (.int fl0), .val (.int sel), .val (.int alt), .unset, .unset, .unset, .unset, .unset, .unset, .unset, .unset, .unset, .unset, .unset] [])) t := fun t k => pre340 t (by
      refine XS.ifNo X337.here hx rfl (hb hby at_68) rfl ((if0 _ _).trans (teq hc68_339).2) ?_
      refine XS.iload X337.here hx rfl (hb hby at_71) rfl ?_
      refine XS.goto X337.here hx rfl (pc0 := 73) (pc' := 78) rfl (hb hby at_73) (by decide) (by decide) ?_
      exact k)
    obtain ⟨_, _, ⟨T341, L341, k341, n341⟩, -, X341w, hS341w, hg341w, ⟨Lc341, hQ341, l341, y341, z341, hC341⟩, st341⟩ := callSS X337 hx (y := (⟨"com/example/entry_to_apps/entrytoapps/GridProfileEqualsPinLaw", "mkName", "(I)Ljava/lang/String;"⟩ : MethodName)) hown (mvT hZ (ow hw 0 rfl)) (mvT hZ (ow hw 1 rfl)) (mvT hZ (ow hw 2 rfl)) (mvT hZ (ow hw 3 rfl)) (by decide) (own_backW (s := s) (vm0 := T337.vm) (W := 0) (rm_mk l Z a0' hw [] p5 kc T337.heap n0 Z337 (S_cs.ext EX337) hkc) hZ (ow hw 3 rfl) (ow hw 2 rfl) (by decide) (by decide) hEW CHn337.1 all0) (g := (mkF m 78 #[.val (.long q0), .second, .val (.long q1), .second, .val (.int ic0), .val (.int p3), .val (.int p4), .val (.int p5), .val (.int rw0), .val (.int cl0), .val (.int mw0), .val (.int mh0), .val (.int fl0), .val (.int sel), .val (.int alt), .val (.ref r337), .unset, .unset, .unset, .unset, .unset, .unset, .unset, .unset, .unset, .unset] [(.int p5)])) rfl (by rw [hml]; rfl) (argsL := [(.int p5)]) (rest := []) (lenOf own_pd8 rfl) rfl (by show 2 * 0 + _ ≤ _; exact Nat.le_of_eq rfl) (hb hby at_78) (fun _ _ => ⟨rfl, rfl, (by decide : 6 + 6 ≤ _), (by decide : 12 + 12 ≤ _)⟩)
    dsimp only [Pt.U, Pt.locs, Pt.cells, Pt.slots] at X341w hS341w hg341w l341 y341 z341 st341 hQ341 hC341
    subst l341 y341 z341
    obtain ⟨X341, hS341, hZ, hown⟩ := rebS hS337 (Nat.le_refl _) X341w hS341w hg341w hZ hown
    have CHn341 := CHn337.trans hC341
    obtain ⟨r341, bn341, kn341, rfl, N341q, E341, zz341, Es341, Cs341, Fs341, As341⟩ := hQ341
    have N341 := Fr.app N337 N341q
    have ne341_r337_r341 : r337 ≠ r341 := Nat.ne_of_lt (Nat.lt_of_lt_of_le Es337.lt zz341)
    have ne341_bn337_r341 : bn337 ≠ r341 := Nat.ne_of_lt (Nat.lt_of_lt_of_le As337.lt zz341)
    have g_r341 : n0 ≤ r341 := Nat.le_trans Z337 zz341
    have sz_r341 : h0.size ≤ r341 := Nat.le_trans SZ337 zz341
    have EX341 : Ext h0 T341.heap := own_exttr EX337 E341
    have SZ341 : h0.size ≤ T341.heap.size := EX341.1
    have Z341 : n0 ≤ T341.heap.size := Nat.le_trans Z0 SZ341
    obtain ⟨_, _, ⟨T343, L343, k343, n343⟩, -, X343, ⟨Lc343, hQ343, l343, y343, z343⟩, st343⟩ := Jvm.LawKit.callS X341 hx (y := (⟨"com/example/entry_to_apps/entrytoapps/GridProfileEqualsPinLaw", "sameName", "(II)Z"⟩ : MethodName)) hown (mvT hZ (ow hw 26 rfl)) (mvT hZ (ow hw 27 rfl)) (mvT hZ (ow hw 2 rfl)) (mvT hZ (ow hw 28 rfl)) (by decide) (backOf (W := 0) (rm_same l Z a0' hw [] p3 p5 T341.heap n0 Z341) hZ (ow hw 28 rfl) (ow hw 2 rfl) (by decide) (by decide)) (g := (mkF m 183 #[.val (.long q0), .second, .val (.long q1), .second, .val (.int ic0), .val (.int p3), .val (.int p4), .val (.int p5), .val (.int rw0), .val (.int cl0), .val (.int mw0), .val (.int mh0), .val (.int fl0), .val (.int sel), .val (.int alt), .val (.ref r337), .val (.ref r341), .val (.int rw0), .val (.int cl0), .val (.int mw0), .val (.int mh0), .val (.int ic0), .val (.int fl0), .unset, .unset, .unset] [(.int p5), (.int p3)])) rfl (by rw [hml]; rfl) (argsL := [(.int p3), (.int p5)]) (rest := []) (lenOf own_pd9 rfl) rfl (by show 2 * 0 + _ ≤ _; exact Nat.le_of_eq rfl) (hb hby at_183) (fun _ _ => ⟨rfl, rfl, (by decide : 12 + 0 ≤ _), (by decide : 24 + 0 ≤ _)⟩)
    dsimp only [Pt.U, Pt.locs, Pt.cells, Pt.slots] at X343 l343 y343 z343 st343 hQ343
    subst l343 y343 z343
    obtain ⟨rfl, N343q, e343⟩ := hQ343
    have N343 := Fr.app N341 N343q
    have fx344 := (Es337.ext E341)
    have fx345 := (Cs337.ext E341)
    have fx346 := (Fs337.ext E341)
    have fx347 := (As337.ext E341)
    have pre348 : ∀ t, Steps p.tables e below (T343.setTop (mkF m 333 #[.val (.long q0), .second, .val (.long q1), .second, .val (.int ic0), .val (.int p3), .val (.int p4), .val (.int p5), .val (.int rw0), .val (.int cl0), .val (.int mw0), .val (.int mh0), .val (.int fl0), .val (.int sel), .val (.int alt), .val (.ref r337), .val (.ref r341), .val (.int rw0), .val (.int cl0), .val (.int mw0), .val (.int mh0), .val (.int ic0), .val (.int fl0), .val (.int (F_same p3 p5)), .unset, .unset] [])) t → Steps p.tables e below (T0.setTop (mkF m 59 #[.val (.long q0), .second, .val (.long q1), .second, .val (.int ic0), .val (.int p3), .val (.int p4), .val (.int p5), .val (.int rw0), .val (.int cl0), .val (.int mw0), .val (.int mh0), .val (.int fl0), .val (.int sel), .val (.int alt), .unset, .unset, .unset, .unset, .unset, .unset, .unset, .unset, .unset, .unset, .unset] [])) t := fun t k => pre342 t (by
      refine st341.trans ?_
      refine XS.astore X341.here hx rfl (hb hby at_81) rfl rfl (l' := #[.val (.long q0), .second, .val (.long q1), .second, .val (.int ic0), .val (.int p3), .val (.int p4), .val (.int p5), .val (.int rw0), .val (.int cl0), .val (.int mw0), .val (.int mh0), .val (.int fl0), .val (.int sel), .val (.int alt), .val (.ref r337), .val (.ref r341), .unset, .unset, .unset, .unset, .unset, .unset, .unset, .unset, .unset]) rfl ?_
      refine XS.iload X341.here hx rfl (hb hby at_83) rfl ?_
      refine XS.iconst X341.here hx rfl (hb hby at_85) ?_
      refine XS.icmpYes X341.here hx rfl (pc0 := 86) (pc' := 94) rfl (hb hby at_86) rfl (feq (fun q => absurd (hc68_339.symm.trans q) (by decide))).2 (by decide) (by decide) ?_
      refine XS.iload X341.here hx rfl (hb hby at_94) rfl ?_
      refine XS.istore X341.here hx rfl (hb hby at_96) rfl (l' := #[.val (.long q0), .second, .val (.long q1), .second, .val (.int ic0), .val (.int p3), .val (.int p4), .val (.int p5), .val (.int rw0), .val (.int cl0), .val (.int mw0), .val (.int mh0), .val (.int fl0), .val (.int sel), .val (.int alt), .val (.ref r337), .val (.ref r341), .val (.int rw0), .unset, .unset, .unset, .unset, .unset, .unset, .unset, .unset]) rfl ?_
      refine XS.iload X341.here hx rfl (hb hby at_98) rfl ?_
      refine XS.iconst X341.here hx rfl (hb hby at_100) ?_
      refine XS.icmpYes X341.here hx rfl (pc0 := 101) (pc' := 109) rfl (hb hby at_101) rfl (feq (fun q => absurd (hc68_339.symm.trans q) (by decide))).2 (by decide) (by decide) ?_
      refine XS.iload X341.here hx rfl (hb hby at_109) rfl ?_
      refine XS.istore X341.here hx rfl (hb hby at_111) rfl (l' := #[.val (.long q0), .second, .val (.long q1), .second, .val (.int ic0), .val (.int p3), .val (.int p4), .val (.int p5), .val (.int rw0), .val (.int cl0), .val (.int mw0), .val (.int mh0), .val (.int fl0), .val (.int sel), .val (.int alt), .val (.ref r337), .val (.ref r341), .val (.int rw0), .val (.int cl0), .unset, .unset, .unset, .unset, .unset, .unset, .unset]) rfl ?_
      refine XS.iload X341.here hx rfl (hb hby at_113) rfl ?_
      refine XS.iconst X341.here hx rfl (hb hby at_115) ?_
      refine XS.icmpYes X341.here hx rfl (pc0 := 116) (pc' := 124) rfl (hb hby at_116) rfl (feq (fun q => absurd (hc68_339.symm.trans q) (by decide))).2 (by decide) (by decide) ?_
      refine XS.iload X341.here hx rfl (hb hby at_124) rfl ?_
      refine XS.istore X341.here hx rfl (hb hby at_126) rfl (l' := #[.val (.long q0), .second, .val (.long q1), .second, .val (.int ic0), .val (.int p3), .val (.int p4), .val (.int p5), .val (.int rw0), .val (.int cl0), .val (.int mw0), .val (.int mh0), .val (.int fl0), .val (.int sel), .val (.int alt), .val (.ref r337), .val (.ref r341), .val (.int rw0), .val (.int cl0), .val (.int mw0), .unset, .unset, .unset, .unset, .unset, .unset]) rfl ?_
      refine XS.iload X341.here hx rfl (hb hby at_128) rfl ?_
      refine XS.iconst X341.here hx rfl (hb hby at_130) ?_
      refine XS.icmpYes X341.here hx rfl (pc0 := 131) (pc' := 139) rfl (hb hby at_131) rfl (feq (fun q => absurd (hc68_339.symm.trans q) (by decide))).2 (by decide) (by decide) ?_
      refine XS.iload X341.here hx rfl (hb hby at_139) rfl ?_
      refine XS.istore X341.here hx rfl (hb hby at_141) rfl (l' := #[.val (.long q0), .second, .val (.long q1), .second, .val (.int ic0), .val (.int p3), .val (.int p4), .val (.int p5), .val (.int rw0), .val (.int cl0), .val (.int mw0), .val (.int mh0), .val (.int fl0), .val (.int sel), .val (.int alt), .val (.ref r337), .val (.ref r341), .val (.int rw0), .val (.int cl0), .val (.int mw0), .val (.int mh0), .unset, .unset, .unset, .unset, .unset]) rfl ?_
      refine XS.iload X341.here hx rfl (hb hby at_143) rfl ?_
      refine XS.iconst X341.here hx rfl (hb hby at_145) ?_
      refine XS.icmpYes X341.here hx rfl (pc0 := 146) (pc' := 154) rfl (hb hby at_146) rfl (feq (fun q => absurd (hc68_339.symm.trans q) (by decide))).2 (by decide) (by decide) ?_
      refine XS.iload X341.here hx rfl (hb hby at_154) rfl ?_
      refine XS.istore X341.here hx rfl (hb hby at_156) rfl (l' := #[.val (.long q0), .second, .val (.long q1), .second, .val (.int ic0), .val (.int p3), .val (.int p4), .val (.int p5), .val (.int rw0), .val (.int cl0), .val (.int mw0), .val (.int mh0), .val (.int fl0), .val (.int sel), .val (.int alt), .val (.ref r337), .val (.ref r341), .val (.int rw0), .val (.int cl0), .val (.int mw0), .val (.int mh0), .val (.int ic0), .unset, .unset, .unset, .unset]) rfl ?_
      refine XS.iload X341.here hx rfl (hb hby at_158) rfl ?_
      refine XS.bipush X341.here hx rfl (hb hby at_160) ?_
      refine XS.icmpYes X341.here hx rfl (pc0 := 162) (pc' := 170) rfl (hb hby at_162) rfl (feq (fun q => absurd (hc68_339.symm.trans q) (by decide))).2 (by decide) (by decide) ?_
      refine XS.iload X341.here hx rfl (hb hby at_170) rfl ?_
      refine XS.istore X341.here hx rfl (hb hby at_172) rfl (l' := #[.val (.long q0), .second, .val (.long q1), .second, .val (.int ic0), .val (.int p3), .val (.int p4), .val (.int p5), .val (.int rw0), .val (.int cl0), .val (.int mw0), .val (.int mh0), .val (.int fl0), .val (.int sel), .val (.int alt), .val (.ref r337), .val (.ref r341), .val (.int rw0), .val (.int cl0), .val (.int mw0), .val (.int mh0), .val (.int ic0), .val (.int fl0), .unset, .unset, .unset]) rfl ?_
      refine XS.iload X341.here hx rfl (hb hby at_174) rfl ?_
      refine XS.ifNo X341.here hx rfl (hb hby at_176) rfl ((if0 _ _).trans (teq hc68_339).2) ?_
      refine XS.iload X341.here hx rfl (hb hby at_179) rfl ?_
      refine XS.iload X341.here hx rfl (hb hby at_181) rfl ?_
      refine st343 _ ?_
      refine XS.istore X343.here hx rfl (hb hby at_186) rfl (l' := #[.val (.long q0), .second, .val (.long q1), .second, .val (.int ic0), .val (.int p3), .val (.int p4), .val (.int p5), .val (.int rw0), .val (.int cl0), .val (.int mw0), .val (.int mh0), .val (.int fl0), .val (.int sel), .val (.int alt), .val (.ref r337), .val (.ref r341), .val (.int rw0), .val (.int cl0), .val (.int mw0), .val (.int mh0), .val (.int ic0), .val (.int fl0), .val (.int (F_same p3 p5)), .unset, .unset]) rfl ?_
      refine XS.goto X343.here hx rfl (pc0 := 188) (pc' := 333) rfl (hb hby at_188) (by decide) (by decide) ?_
      exact k)
    obtain ⟨s₂, o₂, h1₂, h2₂, h3₂, v₂, L₂, rfl, ⟨hv₂, N₂, -⟩, hE₂⟩ := sg_seg (l := l) (s := s) hw q0 q1 ic0 p3 p4 p5 rw0 cl0 mw0 mh0 fl0 sel alt r337 r341 rw0 cl0 mw0 mh0 ic0 fl0 (F_same p3 p5) bn337 bn341 kn337 kn341 (FB_mk p3) (FB_mk p5) kc Z341 fx344 fx345 fx346 fx347 (own_len3 _) Es341 Cs341 Fs341 As341 (own_len3 _) (S_cs.ext EX341) hkc (vm0 := T341.vm) X343 hx hZ hby hml hown hret (by first | assumption | exact BodyLoose.notSynchronized (by assumption)) e343 N343 hS341 (Nat.le_refl _) (CHr.refl CHn341.1)
    refine ⟨s₂, _, pre348 _ h1₂, h2₂, h3₂, v₂, L₂, rfl, ⟨?_, N₂, trivial⟩, hE₂⟩
    rw [hv₂, F_segb, if_pos hc68_339]
  · have pre350 : ∀ t, Steps p.tables e below (T337.setTop (mkF m 78 #[.val (.long q0), .second, .val (.long q1), .second, .val (.int ic0), .val (.int p3), .val (.int p4), .val (.int p5), .val (.int rw0), .val (.int cl0), .val (.int mw0), .val (.int mh0), .val (.int fl0), .val (.int sel), .val (.int alt), .val (.ref r337), .unset, .unset, .unset, .unset, .unset, .unset, .unset, .unset, .unset, .unset] [(.int p3)])) t → Steps p.tables e below (T0.setTop (mkF m 59 #[.val (.long q0), .second, .val (.long q1), .second, .val (.int ic0), .val (.int p3), .val (.int p4), .val (.int p5), .val (.int rw0), .val (.int cl0), .val (.int mw0), .val (.int mh0), .val (.int fl0), .val (.int sel), .val (.int alt), .unset, .unset, .unset, .unset, .unset, .unset, .unset, .unset, .unset, .unset, .unset] [])) t := fun t k => pre340 t (by
      refine XS.ifYes X337.here hx rfl (pc0 := 68) (pc' := 76) rfl (hb hby at_68) rfl ((if0 _ _).trans (feq hc68_339).2) (by decide) (by decide) ?_
      refine XS.iload X337.here hx rfl (hb hby at_76) rfl ?_
      exact k)
    obtain ⟨_, _, ⟨T349, L349, k349, n349⟩, -, X349w, hS349w, hg349w, ⟨Lc349, hQ349, l349, y349, z349, hC349⟩, st349⟩ := callSS X337 hx (y := (⟨"com/example/entry_to_apps/entrytoapps/GridProfileEqualsPinLaw", "mkName", "(I)Ljava/lang/String;"⟩ : MethodName)) hown (mvT hZ (ow hw 0 rfl)) (mvT hZ (ow hw 1 rfl)) (mvT hZ (ow hw 2 rfl)) (mvT hZ (ow hw 3 rfl)) (by decide) (own_backW (s := s) (vm0 := T337.vm) (W := 0) (rm_mk l Z a0' hw [] p3 kc T337.heap n0 Z337 (S_cs.ext EX337) hkc) hZ (ow hw 3 rfl) (ow hw 2 rfl) (by decide) (by decide) hEW CHn337.1 all0) (g := (mkF m 78 #[.val (.long q0), .second, .val (.long q1), .second, .val (.int ic0), .val (.int p3), .val (.int p4), .val (.int p5), .val (.int rw0), .val (.int cl0), .val (.int mw0), .val (.int mh0), .val (.int fl0), .val (.int sel), .val (.int alt), .val (.ref r337), .unset, .unset, .unset, .unset, .unset, .unset, .unset, .unset, .unset, .unset] [(.int p3)])) rfl (by rw [hml]; rfl) (argsL := [(.int p3)]) (rest := []) (lenOf own_pd8 rfl) rfl (by show 2 * 0 + _ ≤ _; exact Nat.le_of_eq rfl) (hb hby at_78) (fun _ _ => ⟨rfl, rfl, (by decide : 6 + 6 ≤ _), (by decide : 12 + 12 ≤ _)⟩)
    dsimp only [Pt.U, Pt.locs, Pt.cells, Pt.slots] at X349w hS349w hg349w l349 y349 z349 st349 hQ349 hC349
    subst l349 y349 z349
    obtain ⟨X349, hS349, hZ, hown⟩ := rebS hS337 (Nat.le_refl _) X349w hS349w hg349w hZ hown
    have CHn349 := CHn337.trans hC349
    obtain ⟨r349, bn349, kn349, rfl, N349q, E349, zz349, Es349, Cs349, Fs349, As349⟩ := hQ349
    have N349 := Fr.app N337 N349q
    have ne349_r337_r349 : r337 ≠ r349 := Nat.ne_of_lt (Nat.lt_of_lt_of_le Es337.lt zz349)
    have ne349_bn337_r349 : bn337 ≠ r349 := Nat.ne_of_lt (Nat.lt_of_lt_of_le As337.lt zz349)
    have g_r349 : n0 ≤ r349 := Nat.le_trans Z337 zz349
    have sz_r349 : h0.size ≤ r349 := Nat.le_trans SZ337 zz349
    have EX349 : Ext h0 T349.heap := own_exttr EX337 E349
    have SZ349 : h0.size ≤ T349.heap.size := EX349.1
    have Z349 : n0 ≤ T349.heap.size := Nat.le_trans Z0 SZ349
    have pre352 : ∀ t, Steps p.tables e below (T349.setTop (mkF m 86 #[.val (.long q0), .second, .val (.long q1), .second, .val (.int ic0), .val (.int p3), .val (.int p4), .val (.int p5), .val (.int rw0), .val (.int cl0), .val (.int mw0), .val (.int mh0), .val (.int fl0), .val (.int sel), .val (.int alt), .val (.ref r337), .val (.ref r349), .unset, .unset, .unset, .unset, .unset, .unset, .unset, .unset, .unset] [(.int (1 : Int32)), (.int sel)])) t → Steps p.tables e below (T0.setTop (mkF m 59 #[.val (.long q0), .second, .val (.long q1), .second, .val (.int ic0), .val (.int p3), .val (.int p4), .val (.int p5), .val (.int rw0), .val (.int cl0), .val (.int mw0), .val (.int mh0), .val (.int fl0), .val (.int sel), .val (.int alt), .unset, .unset, .unset, .unset, .unset, .unset, .unset, .unset, .unset, .unset, .unset] [])) t := fun t k => pre350 t (by
      refine st349.trans ?_
      refine XS.astore X349.here hx rfl (hb hby at_81) rfl rfl (l' := #[.val (.long q0), .second, .val (.long q1), .second, .val (.int ic0), .val (.int p3), .val (.int p4), .val (.int p5), .val (.int rw0), .val (.int cl0), .val (.int mw0), .val (.int mh0), .val (.int fl0), .val (.int sel), .val (.int alt), .val (.ref r337), .val (.ref r349), .unset, .unset, .unset, .unset, .unset, .unset, .unset, .unset, .unset]) rfl ?_
      refine XS.iload X349.here hx rfl (hb hby at_83) rfl ?_
      refine XS.iconst X349.here hx rfl (hb hby at_85) ?_
      exact k)
    by_cases hc86_351 : sel = (1 : Int32)
    · have pre354 : ∀ t, Steps p.tables e below (T349.setTop (mkF m 201 #[.val (.long q0), .second, .val (.long q1), .second, .val (.int ic0), .val (.int p3), .val (.int p4), .val (.int p5), .val (.int rw0), .val (.int cl0), .val (.int mw0), .val (.int mh0), .val (.int fl0), .val (.int sel), .val (.int alt), .val (.ref r337), .val (.ref r349), .val (.int p5), .val (.int cl0), .val (.int mw0), .val (.int mh0), .val (.int ic0), .val (.int fl0), .unset, .unset, .unset] [(.int rw0), (.int p5)])) t → Steps p.tables e below (T0.setTop (mkF m 59 #[.val (.long q0), .second, .val (.long q1), .second, .val (.int ic0), .val (.int p3), .val (.int p4), .val (.int p5), .val (.int rw0), .val (.int cl0), .val (.int mw0), .val (.int mh0), .val (.int fl0), .val (.int sel), .val (.int alt), .unset, .unset, .unset, .unset, .unset, .unset, .unset, .unset, .unset, .unset, .unset] [])) t := fun t k => pre352 t (by
        refine XS.icmpNo X349.here hx rfl (hb hby at_86) rfl (teq hc86_351).2 ?_
        refine XS.iload X349.here hx rfl (hb hby at_89) rfl ?_
        refine XS.goto X349.here hx rfl (pc0 := 91) (pc' := 96) rfl (hb hby at_91) (by decide) (by decide) ?_
        refine XS.istore X349.here hx rfl (hb hby at_96) rfl (l' := #[.val (.long q0), .second, .val (.long q1), .second, .val (.int ic0), .val (.int p3), .val (.int p4), .val (.int p5), .val (.int rw0), .val (.int cl0), .val (.int mw0), .val (.int mh0), .val (.int fl0), .val (.int sel), .val (.int alt), .val (.ref r337), .val (.ref r349), .val (.int p5), .unset, .unset, .unset, .unset, .unset, .unset, .unset, .unset]) rfl ?_
        refine XS.iload X349.here hx rfl (hb hby at_98) rfl ?_
        refine XS.iconst X349.here hx rfl (hb hby at_100) ?_
        refine XS.icmpYes X349.here hx rfl (pc0 := 101) (pc' := 109) rfl (hb hby at_101) rfl (feq (fun q => absurd (hc86_351.symm.trans q) (by decide))).2 (by decide) (by decide) ?_
        refine XS.iload X349.here hx rfl (hb hby at_109) rfl ?_
        refine XS.istore X349.here hx rfl (hb hby at_111) rfl (l' := #[.val (.long q0), .second, .val (.long q1), .second, .val (.int ic0), .val (.int p3), .val (.int p4), .val (.int p5), .val (.int rw0), .val (.int cl0), .val (.int mw0), .val (.int mh0), .val (.int fl0), .val (.int sel), .val (.int alt), .val (.ref r337), .val (.ref r349), .val (.int p5), .val (.int cl0), .unset, .unset, .unset, .unset, .unset, .unset, .unset]) rfl ?_
        refine XS.iload X349.here hx rfl (hb hby at_113) rfl ?_
        refine XS.iconst X349.here hx rfl (hb hby at_115) ?_
        refine XS.icmpYes X349.here hx rfl (pc0 := 116) (pc' := 124) rfl (hb hby at_116) rfl (feq (fun q => absurd (hc86_351.symm.trans q) (by decide))).2 (by decide) (by decide) ?_
        refine XS.iload X349.here hx rfl (hb hby at_124) rfl ?_
        refine XS.istore X349.here hx rfl (hb hby at_126) rfl (l' := #[.val (.long q0), .second, .val (.long q1), .second, .val (.int ic0), .val (.int p3), .val (.int p4), .val (.int p5), .val (.int rw0), .val (.int cl0), .val (.int mw0), .val (.int mh0), .val (.int fl0), .val (.int sel), .val (.int alt), .val (.ref r337), .val (.ref r349), .val (.int p5), .val (.int cl0), .val (.int mw0), .unset, .unset, .unset, .unset, .unset, .unset]) rfl ?_
        refine XS.iload X349.here hx rfl (hb hby at_128) rfl ?_
        refine XS.iconst X349.here hx rfl (hb hby at_130) ?_
        refine XS.icmpYes X349.here hx rfl (pc0 := 131) (pc' := 139) rfl (hb hby at_131) rfl (feq (fun q => absurd (hc86_351.symm.trans q) (by decide))).2 (by decide) (by decide) ?_
        refine XS.iload X349.here hx rfl (hb hby at_139) rfl ?_
        refine XS.istore X349.here hx rfl (hb hby at_141) rfl (l' := #[.val (.long q0), .second, .val (.long q1), .second, .val (.int ic0), .val (.int p3), .val (.int p4), .val (.int p5), .val (.int rw0), .val (.int cl0), .val (.int mw0), .val (.int mh0), .val (.int fl0), .val (.int sel), .val (.int alt), .val (.ref r337), .val (.ref r349), .val (.int p5), .val (.int cl0), .val (.int mw0), .val (.int mh0), .unset, .unset, .unset, .unset, .unset]) rfl ?_
        refine XS.iload X349.here hx rfl (hb hby at_143) rfl ?_
        refine XS.iconst X349.here hx rfl (hb hby at_145) ?_
        refine XS.icmpYes X349.here hx rfl (pc0 := 146) (pc' := 154) rfl (hb hby at_146) rfl (feq (fun q => absurd (hc86_351.symm.trans q) (by decide))).2 (by decide) (by decide) ?_
        refine XS.iload X349.here hx rfl (hb hby at_154) rfl ?_
        refine XS.istore X349.here hx rfl (hb hby at_156) rfl (l' := #[.val (.long q0), .second, .val (.long q1), .second, .val (.int ic0), .val (.int p3), .val (.int p4), .val (.int p5), .val (.int rw0), .val (.int cl0), .val (.int mw0), .val (.int mh0), .val (.int fl0), .val (.int sel), .val (.int alt), .val (.ref r337), .val (.ref r349), .val (.int p5), .val (.int cl0), .val (.int mw0), .val (.int mh0), .val (.int ic0), .unset, .unset, .unset, .unset]) rfl ?_
        refine XS.iload X349.here hx rfl (hb hby at_158) rfl ?_
        refine XS.bipush X349.here hx rfl (hb hby at_160) ?_
        refine XS.icmpYes X349.here hx rfl (pc0 := 162) (pc' := 170) rfl (hb hby at_162) rfl (feq (fun q => absurd (hc86_351.symm.trans q) (by decide))).2 (by decide) (by decide) ?_
        refine XS.iload X349.here hx rfl (hb hby at_170) rfl ?_
        refine XS.istore X349.here hx rfl (hb hby at_172) rfl (l' := #[.val (.long q0), .second, .val (.long q1), .second, .val (.int ic0), .val (.int p3), .val (.int p4), .val (.int p5), .val (.int rw0), .val (.int cl0), .val (.int mw0), .val (.int mh0), .val (.int fl0), .val (.int sel), .val (.int alt), .val (.ref r337), .val (.ref r349), .val (.int p5), .val (.int cl0), .val (.int mw0), .val (.int mh0), .val (.int ic0), .val (.int fl0), .unset, .unset, .unset]) rfl ?_
        refine XS.iload X349.here hx rfl (hb hby at_174) rfl ?_
        refine XS.ifYes X349.here hx rfl (pc0 := 176) (pc' := 191) rfl (hb hby at_176) rfl ((if0 _ _).trans (feq hc68_339).2) (by decide) (by decide) ?_
        refine XS.iload X349.here hx rfl (hb hby at_191) rfl ?_
        refine XS.iconst X349.here hx rfl (hb hby at_193) ?_
        refine XS.icmpNo X349.here hx rfl (hb hby at_194) rfl (teq hc86_351).2 ?_
        refine XS.iload X349.here hx rfl (hb hby at_197) rfl ?_
        refine XS.iload X349.here hx rfl (hb hby at_199) rfl ?_
        exact k)
      by_cases hc201_353 : p5 = rw0
      · have fx355 := (Es337.ext E349)
        have fx356 := (Cs337.ext E349)
        have fx357 := (Fs337.ext E349)
        have fx358 := (As337.ext E349)
        have pre359 : ∀ t, Steps p.tables e below (T349.setTop (mkF m 333 #[.val (.long q0), .second, .val (.long q1), .second, .val (.int ic0), .val (.int p3), .val (.int p4), .val (.int p5), .val (.int rw0), .val (.int cl0), .val (.int mw0), .val (.int mh0), .val (.int fl0), .val (.int sel), .val (.int alt), .val (.ref r337), .val (.ref r349), .val (.int p5), .val (.int cl0), .val (.int mw0), .val (.int mh0), .val (.int ic0), .val (.int fl0), .val (.int (1 : Int32)), .unset, .unset] [])) t → Steps p.tables e below (T0.setTop (mkF m 59 #[.val (.long q0), .second, .val (.long q1), .second, .val (.int ic0), .val (.int p3), .val (.int p4), .val (.int p5), .val (.int rw0), .val (.int cl0), .val (.int mw0), .val (.int mh0), .val (.int fl0), .val (.int sel), .val (.int alt), .unset, .unset, .unset, .unset, .unset, .unset, .unset, .unset, .unset, .unset, .unset] [])) t := fun t k => pre354 t (by
          refine XS.icmpNo X349.here hx rfl (hb hby at_201) rfl (teq hc201_353).2 ?_
          refine XS.iconst X349.here hx rfl (hb hby at_204) ?_
          refine XS.goto X349.here hx rfl (pc0 := 205) (pc' := 209) rfl (hb hby at_205) (by decide) (by decide) ?_
          refine XS.istore X349.here hx rfl (hb hby at_209) rfl (l' := #[.val (.long q0), .second, .val (.long q1), .second, .val (.int ic0), .val (.int p3), .val (.int p4), .val (.int p5), .val (.int rw0), .val (.int cl0), .val (.int mw0), .val (.int mh0), .val (.int fl0), .val (.int sel), .val (.int alt), .val (.ref r337), .val (.ref r349), .val (.int p5), .val (.int cl0), .val (.int mw0), .val (.int mh0), .val (.int ic0), .val (.int fl0), .val (.int (1 : Int32)), .unset, .unset]) rfl ?_
          refine XS.goto X349.here hx rfl (pc0 := 211) (pc' := 333) rfl (hb hby at_211) (by decide) (by decide) ?_
          exact k)
        obtain ⟨s₂, o₂, h1₂, h2₂, h3₂, v₂, L₂, rfl, ⟨hv₂, N₂, -⟩, hE₂⟩ := sg_seg (l := l) (s := s) hw q0 q1 ic0 p3 p4 p5 rw0 cl0 mw0 mh0 fl0 sel alt r337 r349 p5 cl0 mw0 mh0 ic0 fl0 (1 : Int32) bn337 bn349 kn337 kn349 (FB_mk p3) (FB_mk p3) kc Z349 fx355 fx356 fx357 fx358 (own_len3 _) Es349 Cs349 Fs349 As349 (own_len3 _) (S_cs.ext EX349) hkc (vm0 := T349.vm) X349 hx hZ hby hml hown hret (by first | assumption | exact BodyLoose.notSynchronized (by assumption)) rfl N349 hS349 (Nat.le_refl _) (CHr.refl CHn349.1)
        refine ⟨s₂, _, pre359 _ h1₂, h2₂, h3₂, v₂, L₂, rfl, ⟨?_, N₂, trivial⟩, hE₂⟩
        rw [hv₂, F_segb, if_neg hc68_339, if_pos hc86_351, if_pos hc201_353]
      · have fx360 := (Es337.ext E349)
        have fx361 := (Cs337.ext E349)
        have fx362 := (Fs337.ext E349)
        have fx363 := (As337.ext E349)
        have pre364 : ∀ t, Steps p.tables e below (T349.setTop (mkF m 333 #[.val (.long q0), .second, .val (.long q1), .second, .val (.int ic0), .val (.int p3), .val (.int p4), .val (.int p5), .val (.int rw0), .val (.int cl0), .val (.int mw0), .val (.int mh0), .val (.int fl0), .val (.int sel), .val (.int alt), .val (.ref r337), .val (.ref r349), .val (.int p5), .val (.int cl0), .val (.int mw0), .val (.int mh0), .val (.int ic0), .val (.int fl0), .val (.int (0 : Int32)), .unset, .unset] [])) t → Steps p.tables e below (T0.setTop (mkF m 59 #[.val (.long q0), .second, .val (.long q1), .second, .val (.int ic0), .val (.int p3), .val (.int p4), .val (.int p5), .val (.int rw0), .val (.int cl0), .val (.int mw0), .val (.int mh0), .val (.int fl0), .val (.int sel), .val (.int alt), .unset, .unset, .unset, .unset, .unset, .unset, .unset, .unset, .unset, .unset, .unset] [])) t := fun t k => pre354 t (by
          refine XS.icmpYes X349.here hx rfl (pc0 := 201) (pc' := 208) rfl (hb hby at_201) rfl (feq hc201_353).2 (by decide) (by decide) ?_
          refine XS.iconst X349.here hx rfl (hb hby at_208) ?_
          refine XS.istore X349.here hx rfl (hb hby at_209) rfl (l' := #[.val (.long q0), .second, .val (.long q1), .second, .val (.int ic0), .val (.int p3), .val (.int p4), .val (.int p5), .val (.int rw0), .val (.int cl0), .val (.int mw0), .val (.int mh0), .val (.int fl0), .val (.int sel), .val (.int alt), .val (.ref r337), .val (.ref r349), .val (.int p5), .val (.int cl0), .val (.int mw0), .val (.int mh0), .val (.int ic0), .val (.int fl0), .val (.int (0 : Int32)), .unset, .unset]) rfl ?_
          refine XS.goto X349.here hx rfl (pc0 := 211) (pc' := 333) rfl (hb hby at_211) (by decide) (by decide) ?_
          exact k)
        obtain ⟨s₂, o₂, h1₂, h2₂, h3₂, v₂, L₂, rfl, ⟨hv₂, N₂, -⟩, hE₂⟩ := sg_seg (l := l) (s := s) hw q0 q1 ic0 p3 p4 p5 rw0 cl0 mw0 mh0 fl0 sel alt r337 r349 p5 cl0 mw0 mh0 ic0 fl0 (0 : Int32) bn337 bn349 kn337 kn349 (FB_mk p3) (FB_mk p3) kc Z349 fx360 fx361 fx362 fx363 (own_len3 _) Es349 Cs349 Fs349 As349 (own_len3 _) (S_cs.ext EX349) hkc (vm0 := T349.vm) X349 hx hZ hby hml hown hret (by first | assumption | exact BodyLoose.notSynchronized (by assumption)) rfl N349 hS349 (Nat.le_refl _) (CHr.refl CHn349.1)
        refine ⟨s₂, _, pre364 _ h1₂, h2₂, h3₂, v₂, L₂, rfl, ⟨?_, N₂, trivial⟩, hE₂⟩
        rw [hv₂, F_segb, if_neg hc68_339, if_pos hc86_351, if_neg hc201_353]
    · have pre366 : ∀ t, Steps p.tables e below (T349.setTop (mkF m 101 #[.val (.long q0), .second, .val (.long q1), .second, .val (.int ic0), .val (.int p3), .val (.int p4), .val (.int p5), .val (.int rw0), .val (.int cl0), .val (.int mw0), .val (.int mh0), .val (.int fl0), .val (.int sel), .val (.int alt), .val (.ref r337), .val (.ref r349), .val (.int rw0), .unset, .unset, .unset, .unset, .unset, .unset, .unset, .unset] [(.int (2 : Int32)), (.int sel)])) t → Steps p.tables e below (T0.setTop (mkF m 59 #[.val (.long q0), .second, .val (.long q1), .second, .val (.int ic0), .val (.int p3), .val (.int p4), .val (.int p5), .val (.int rw0), .val (.int cl0), .val (.int mw0), .val (.int mh0), .val (.int fl0), .val (.int sel), .val (.int alt), .unset, .unset, .unset, .unset, .unset, .unset, .unset, .unset, .unset, .unset, .unset] [])) t := fun t k => pre352 t (by
        refine XS.icmpYes X349.here hx rfl (pc0 := 86) (pc' := 94) rfl (hb hby at_86) rfl (feq hc86_351).2 (by decide) (by decide) ?_
        refine XS.iload X349.here hx rfl (hb hby at_94) rfl ?_
        refine XS.istore X349.here hx rfl (hb hby at_96) rfl (l' := #[.val (.long q0), .second, .val (.long q1), .second, .val (.int ic0), .val (.int p3), .val (.int p4), .val (.int p5), .val (.int rw0), .val (.int cl0), .val (.int mw0), .val (.int mh0), .val (.int fl0), .val (.int sel), .val (.int alt), .val (.ref r337), .val (.ref r349), .val (.int rw0), .unset, .unset, .unset, .unset, .unset, .unset, .unset, .unset]) rfl ?_
        refine XS.iload X349.here hx rfl (hb hby at_98) rfl ?_
        refine XS.iconst X349.here hx rfl (hb hby at_100) ?_
        exact k)
      by_cases hc101_365 : sel = (2 : Int32)
      · have pre368 : ∀ t, Steps p.tables e below (T349.setTop (mkF m 224 #[.val (.long q0), .second, .val (.long q1), .second, .val (.int ic0), .val (.int p3), .val (.int p4), .val (.int p5), .val (.int rw0), .val (.int cl0), .val (.int mw0), .val (.int mh0), .val (.int fl0), .val (.int sel), .val (.int alt), .val (.ref r337), .val (.ref r349), .val (.int rw0), .val (.int p5), .val (.int mw0), .val (.int mh0), .val (.int ic0), .val (.int fl0), .unset, .unset, .unset] [(.int cl0), (.int p5)])) t → Steps p.tables e below (T0.setTop (mkF m 59 #[.val (.long q0), .second, .val (.long q1), .second, .val (.int ic0), .val (.int p3), .val (.int p4), .val (.int p5), .val (.int rw0), .val (.int cl0), .val (.int mw0), .val (.int mh0), .val (.int fl0), .val (.int sel), .val (.int alt), .unset, .unset, .unset, .unset, .unset, .unset, .unset, .unset, .unset, .unset, .unset] [])) t := fun t k => pre366 t (by
          refine XS.icmpNo X349.here hx rfl (hb hby at_101) rfl (teq hc101_365).2 ?_
          refine XS.iload X349.here hx rfl (hb hby at_104) rfl ?_
          refine XS.goto X349.here hx rfl (pc0 := 106) (pc' := 111) rfl (hb hby at_106) (by decide) (by decide) ?_
          refine XS.istore X349.here hx rfl (hb hby at_111) rfl (l' := #[.val (.long q0), .second, .val (.long q1), .second, .val (.int ic0), .val (.int p3), .val (.int p4), .val (.int p5), .val (.int rw0), .val (.int cl0), .val (.int mw0), .val (.int mh0), .val (.int fl0), .val (.int sel), .val (.int alt), .val (.ref r337), .val (.ref r349), .val (.int rw0), .val (.int p5), .unset, .unset, .unset, .unset, .unset, .unset, .unset]) rfl ?_
          refine XS.iload X349.here hx rfl (hb hby at_113) rfl ?_
          refine XS.iconst X349.here hx rfl (hb hby at_115) ?_
          refine XS.icmpYes X349.here hx rfl (pc0 := 116) (pc' := 124) rfl (hb hby at_116) rfl (feq (fun q => absurd (hc101_365.symm.trans q) (by decide))).2 (by decide) (by decide) ?_
          refine XS.iload X349.here hx rfl (hb hby at_124) rfl ?_
          refine XS.istore X349.here hx rfl (hb hby at_126) rfl (l' := #[.val (.long q0), .second, .val (.long q1), .second, .val (.int ic0), .val (.int p3), .val (.int p4), .val (.int p5), .val (.int rw0), .val (.int cl0), .val (.int mw0), .val (.int mh0), .val (.int fl0), .val (.int sel), .val (.int alt), .val (.ref r337), .val (.ref r349), .val (.int rw0), .val (.int p5), .val (.int mw0), .unset, .unset, .unset, .unset, .unset, .unset]) rfl ?_
          refine XS.iload X349.here hx rfl (hb hby at_128) rfl ?_
          refine XS.iconst X349.here hx rfl (hb hby at_130) ?_
          refine XS.icmpYes X349.here hx rfl (pc0 := 131) (pc' := 139) rfl (hb hby at_131) rfl (feq (fun q => absurd (hc101_365.symm.trans q) (by decide))).2 (by decide) (by decide) ?_
          refine XS.iload X349.here hx rfl (hb hby at_139) rfl ?_
          refine XS.istore X349.here hx rfl (hb hby at_141) rfl (l' := #[.val (.long q0), .second, .val (.long q1), .second, .val (.int ic0), .val (.int p3), .val (.int p4), .val (.int p5), .val (.int rw0), .val (.int cl0), .val (.int mw0), .val (.int mh0), .val (.int fl0), .val (.int sel), .val (.int alt), .val (.ref r337), .val (.ref r349), .val (.int rw0), .val (.int p5), .val (.int mw0), .val (.int mh0), .unset, .unset, .unset, .unset, .unset]) rfl ?_
          refine XS.iload X349.here hx rfl (hb hby at_143) rfl ?_
          refine XS.iconst X349.here hx rfl (hb hby at_145) ?_
          refine XS.icmpYes X349.here hx rfl (pc0 := 146) (pc' := 154) rfl (hb hby at_146) rfl (feq (fun q => absurd (hc101_365.symm.trans q) (by decide))).2 (by decide) (by decide) ?_
          refine XS.iload X349.here hx rfl (hb hby at_154) rfl ?_
          refine XS.istore X349.here hx rfl (hb hby at_156) rfl (l' := #[.val (.long q0), .second, .val (.long q1), .second, .val (.int ic0), .val (.int p3), .val (.int p4), .val (.int p5), .val (.int rw0), .val (.int cl0), .val (.int mw0), .val (.int mh0), .val (.int fl0), .val (.int sel), .val (.int alt), .val (.ref r337), .val (.ref r349), .val (.int rw0), .val (.int p5), .val (.int mw0), .val (.int mh0), .val (.int ic0), .unset, .unset, .unset, .unset]) rfl ?_
          refine XS.iload X349.here hx rfl (hb hby at_158) rfl ?_
          refine XS.bipush X349.here hx rfl (hb hby at_160) ?_
          refine XS.icmpYes X349.here hx rfl (pc0 := 162) (pc' := 170) rfl (hb hby at_162) rfl (feq (fun q => absurd (hc101_365.symm.trans q) (by decide))).2 (by decide) (by decide) ?_
          refine XS.iload X349.here hx rfl (hb hby at_170) rfl ?_
          refine XS.istore X349.here hx rfl (hb hby at_172) rfl (l' := #[.val (.long q0), .second, .val (.long q1), .second, .val (.int ic0), .val (.int p3), .val (.int p4), .val (.int p5), .val (.int rw0), .val (.int cl0), .val (.int mw0), .val (.int mh0), .val (.int fl0), .val (.int sel), .val (.int alt), .val (.ref r337), .val (.ref r349), .val (.int rw0), .val (.int p5), .val (.int mw0), .val (.int mh0), .val (.int ic0), .val (.int fl0), .unset, .unset, .unset]) rfl ?_
          refine XS.iload X349.here hx rfl (hb hby at_174) rfl ?_
          refine XS.ifYes X349.here hx rfl (pc0 := 176) (pc' := 191) rfl (hb hby at_176) rfl ((if0 _ _).trans (feq hc68_339).2) (by decide) (by decide) ?_
          refine XS.iload X349.here hx rfl (hb hby at_191) rfl ?_
          refine XS.iconst X349.here hx rfl (hb hby at_193) ?_
          refine XS.icmpYes X349.here hx rfl (pc0 := 194) (pc' := 214) rfl (hb hby at_194) rfl (feq hc86_351).2 (by decide) (by decide) ?_
          refine XS.iload X349.here hx rfl (hb hby at_214) rfl ?_
          refine XS.iconst X349.here hx rfl (hb hby at_216) ?_
          refine XS.icmpNo X349.here hx rfl (hb hby at_217) rfl (teq hc101_365).2 ?_
          refine XS.iload X349.here hx rfl (hb hby at_220) rfl ?_
          refine XS.iload X349.here hx rfl (hb hby at_222) rfl ?_
          exact k)
        by_cases hc224_367 : p5 = cl0
        · have fx369 := (Es337.ext E349)
          have fx370 := (Cs337.ext E349)
          have fx371 := (Fs337.ext E349)
          have fx372 := (As337.ext E349)
          have pre373 : ∀ t, Steps p.tables e below (T349.setTop (mkF m 333 #[.val (.long q0), .second, .val (.long q1), .second, .val (.int ic0), .val (.int p3), .val (.int p4), .val (.int p5), .val (.int rw0), .val (.int cl0), .val (.int mw0), .val (.int mh0), .val (.int fl0), .val (.int sel), .val (.int alt), .val (.ref r337), .val (.ref r349), .val (.int rw0), .val (.int p5), .val (.int mw0), .val (.int mh0), .val (.int ic0), .val (.int fl0), .val (.int (1 : Int32)), .unset, .unset] [])) t → Steps p.tables e below (T0.setTop (mkF m 59 #[.val (.long q0), .second, .val (.long q1), .second, .val (.int ic0), .val (.int p3), .val (.int p4), .val (.int p5), .val (.int rw0), .val (.int cl0), .val (.int mw0), .val (.int mh0), .val (.int fl0), .val (.int sel), .val (.int alt), .unset, .unset, .unset, .unset, .unset, .unset, .unset, .unset, .unset, .unset, .unset] [])) t := fun t k => pre368 t (by
            refine XS.icmpNo X349.here hx rfl (hb hby at_224) rfl (teq hc224_367).2 ?_
            refine XS.iconst X349.here hx rfl (hb hby at_227) ?_
            refine XS.goto X349.here hx rfl (pc0 := 228) (pc' := 232) rfl (hb hby at_228) (by decide) (by decide) ?_
            refine XS.istore X349.here hx rfl (hb hby at_232) rfl (l' := #[.val (.long q0), .second, .val (.long q1), .second, .val (.int ic0), .val (.int p3), .val (.int p4), .val (.int p5), .val (.int rw0), .val (.int cl0), .val (.int mw0), .val (.int mh0), .val (.int fl0), .val (.int sel), .val (.int alt), .val (.ref r337), .val (.ref r349), .val (.int rw0), .val (.int p5), .val (.int mw0), .val (.int mh0), .val (.int ic0), .val (.int fl0), .val (.int (1 : Int32)), .unset, .unset]) rfl ?_
            refine XS.goto X349.here hx rfl (pc0 := 234) (pc' := 333) rfl (hb hby at_234) (by decide) (by decide) ?_
            exact k)
          obtain ⟨s₂, o₂, h1₂, h2₂, h3₂, v₂, L₂, rfl, ⟨hv₂, N₂, -⟩, hE₂⟩ := sg_seg (l := l) (s := s) hw q0 q1 ic0 p3 p4 p5 rw0 cl0 mw0 mh0 fl0 sel alt r337 r349 rw0 p5 mw0 mh0 ic0 fl0 (1 : Int32) bn337 bn349 kn337 kn349 (FB_mk p3) (FB_mk p3) kc Z349 fx369 fx370 fx371 fx372 (own_len3 _) Es349 Cs349 Fs349 As349 (own_len3 _) (S_cs.ext EX349) hkc (vm0 := T349.vm) X349 hx hZ hby hml hown hret (by first | assumption | exact BodyLoose.notSynchronized (by assumption)) rfl N349 hS349 (Nat.le_refl _) (CHr.refl CHn349.1)
          refine ⟨s₂, _, pre373 _ h1₂, h2₂, h3₂, v₂, L₂, rfl, ⟨?_, N₂, trivial⟩, hE₂⟩
          rw [hv₂, F_segb, if_neg hc68_339, if_neg hc86_351, if_pos hc101_365, if_pos hc224_367]
        · have fx374 := (Es337.ext E349)
          have fx375 := (Cs337.ext E349)
          have fx376 := (Fs337.ext E349)
          have fx377 := (As337.ext E349)
          have pre378 : ∀ t, Steps p.tables e below (T349.setTop (mkF m 333 #[.val (.long q0), .second, .val (.long q1), .second, .val (.int ic0), .val (.int p3), .val (.int p4), .val (.int p5), .val (.int rw0), .val (.int cl0), .val (.int mw0), .val (.int mh0), .val (.int fl0), .val (.int sel), .val (.int alt), .val (.ref r337), .val (.ref r349), .val (.int rw0), .val (.int p5), .val (.int mw0), .val (.int mh0), .val (.int ic0), .val (.int fl0), .val (.int (0 : Int32)), .unset, .unset] [])) t → Steps p.tables e below (T0.setTop (mkF m 59 #[.val (.long q0), .second, .val (.long q1), .second, .val (.int ic0), .val (.int p3), .val (.int p4), .val (.int p5), .val (.int rw0), .val (.int cl0), .val (.int mw0), .val (.int mh0), .val (.int fl0), .val (.int sel), .val (.int alt), .unset, .unset, .unset, .unset, .unset, .unset, .unset, .unset, .unset, .unset, .unset] [])) t := fun t k => pre368 t (by
            refine XS.icmpYes X349.here hx rfl (pc0 := 224) (pc' := 231) rfl (hb hby at_224) rfl (feq hc224_367).2 (by decide) (by decide) ?_
            refine XS.iconst X349.here hx rfl (hb hby at_231) ?_
            refine XS.istore X349.here hx rfl (hb hby at_232) rfl (l' := #[.val (.long q0), .second, .val (.long q1), .second, .val (.int ic0), .val (.int p3), .val (.int p4), .val (.int p5), .val (.int rw0), .val (.int cl0), .val (.int mw0), .val (.int mh0), .val (.int fl0), .val (.int sel), .val (.int alt), .val (.ref r337), .val (.ref r349), .val (.int rw0), .val (.int p5), .val (.int mw0), .val (.int mh0), .val (.int ic0), .val (.int fl0), .val (.int (0 : Int32)), .unset, .unset]) rfl ?_
            refine XS.goto X349.here hx rfl (pc0 := 234) (pc' := 333) rfl (hb hby at_234) (by decide) (by decide) ?_
            exact k)
          obtain ⟨s₂, o₂, h1₂, h2₂, h3₂, v₂, L₂, rfl, ⟨hv₂, N₂, -⟩, hE₂⟩ := sg_seg (l := l) (s := s) hw q0 q1 ic0 p3 p4 p5 rw0 cl0 mw0 mh0 fl0 sel alt r337 r349 rw0 p5 mw0 mh0 ic0 fl0 (0 : Int32) bn337 bn349 kn337 kn349 (FB_mk p3) (FB_mk p3) kc Z349 fx374 fx375 fx376 fx377 (own_len3 _) Es349 Cs349 Fs349 As349 (own_len3 _) (S_cs.ext EX349) hkc (vm0 := T349.vm) X349 hx hZ hby hml hown hret (by first | assumption | exact BodyLoose.notSynchronized (by assumption)) rfl N349 hS349 (Nat.le_refl _) (CHr.refl CHn349.1)
          refine ⟨s₂, _, pre378 _ h1₂, h2₂, h3₂, v₂, L₂, rfl, ⟨?_, N₂, trivial⟩, hE₂⟩
          rw [hv₂, F_segb, if_neg hc68_339, if_neg hc86_351, if_pos hc101_365, if_neg hc224_367]
      · have pre380 : ∀ t, Steps p.tables e below (T349.setTop (mkF m 116 #[.val (.long q0), .second, .val (.long q1), .second, .val (.int ic0), .val (.int p3), .val (.int p4), .val (.int p5), .val (.int rw0), .val (.int cl0), .val (.int mw0), .val (.int mh0), .val (.int fl0), .val (.int sel), .val (.int alt), .val (.ref r337), .val (.ref r349), .val (.int rw0), .val (.int cl0), .unset, .unset, .unset, .unset, .unset, .unset, .unset] [(.int (3 : Int32)), (.int sel)])) t → Steps p.tables e below (T0.setTop (mkF m 59 #[.val (.long q0), .second, .val (.long q1), .second, .val (.int ic0), .val (.int p3), .val (.int p4), .val (.int p5), .val (.int rw0), .val (.int cl0), .val (.int mw0), .val (.int mh0), .val (.int fl0), .val (.int sel), .val (.int alt), .unset, .unset, .unset, .unset, .unset, .unset, .unset, .unset, .unset, .unset, .unset] [])) t := fun t k => pre366 t (by
          refine XS.icmpYes X349.here hx rfl (pc0 := 101) (pc' := 109) rfl (hb hby at_101) rfl (feq hc101_365).2 (by decide) (by decide) ?_
          refine XS.iload X349.here hx rfl (hb hby at_109) rfl ?_
          refine XS.istore X349.here hx rfl (hb hby at_111) rfl (l' := #[.val (.long q0), .second, .val (.long q1), .second, .val (.int ic0), .val (.int p3), .val (.int p4), .val (.int p5), .val (.int rw0), .val (.int cl0), .val (.int mw0), .val (.int mh0), .val (.int fl0), .val (.int sel), .val (.int alt), .val (.ref r337), .val (.ref r349), .val (.int rw0), .val (.int cl0), .unset, .unset, .unset, .unset, .unset, .unset, .unset]) rfl ?_
          refine XS.iload X349.here hx rfl (hb hby at_113) rfl ?_
          refine XS.iconst X349.here hx rfl (hb hby at_115) ?_
          exact k)
        by_cases hc116_379 : sel = (3 : Int32)
        · have pre382 : ∀ t, Steps p.tables e below (T349.setTop (mkF m 247 #[.val (.long q0), .second, .val (.long q1), .second, .val (.int ic0), .val (.int p3), .val (.int p4), .val (.int p5), .val (.int rw0), .val (.int cl0), .val (.int mw0), .val (.int mh0), .val (.int fl0), .val (.int sel), .val (.int alt), .val (.ref r337), .val (.ref r349), .val (.int rw0), .val (.int cl0), .val (.int p5), .val (.int mh0), .val (.int ic0), .val (.int fl0), .unset, .unset, .unset] [(.int mw0), (.int p5)])) t → Steps p.tables e below (T0.setTop (mkF m 59 #[.val (.long q0), .second, .val (.long q1), .second, .val (.int ic0), .val (.int p3), .val (.int p4), .val (.int p5), .val (.int rw0), .val (.int cl0), .val (.int mw0), .val (.int mh0), .val (.int fl0), .val (.int sel), .val (.int alt), .unset, .unset, .unset, .unset, .unset, .unset, .unset, .unset, .unset, .unset, .unset] [])) t := fun t k => pre380 t (by
            refine XS.icmpNo X349.here hx rfl (hb hby at_116) rfl (teq hc116_379).2 ?_
            refine XS.iload X349.here hx rfl (hb hby at_119) rfl ?_
            refine XS.goto X349.here hx rfl (pc0 := 121) (pc' := 126) rfl (hb hby at_121) (by decide) (by decide) ?_
            refine XS.istore X349.here hx rfl (hb hby at_126) rfl (l' := #[.val (.long q0), .second, .val (.long q1), .second, .val (.int ic0), .val (.int p3), .val (.int p4), .val (.int p5), .val (.int rw0), .val (.int cl0), .val (.int mw0), .val (.int mh0), .val (.int fl0), .val (.int sel), .val (.int alt), .val (.ref r337), .val (.ref r349), .val (.int rw0), .val (.int cl0), .val (.int p5), .unset, .unset, .unset, .unset, .unset, .unset]) rfl ?_
            refine XS.iload X349.here hx rfl (hb hby at_128) rfl ?_
            refine XS.iconst X349.here hx rfl (hb hby at_130) ?_
            refine XS.icmpYes X349.here hx rfl (pc0 := 131) (pc' := 139) rfl (hb hby at_131) rfl (feq (fun q => absurd (hc116_379.symm.trans q) (by decide))).2 (by decide) (by decide) ?_
            refine XS.iload X349.here hx rfl (hb hby at_139) rfl ?_
            refine XS.istore X349.here hx rfl (hb hby at_141) rfl (l' := #[.val (.long q0), .second, .val (.long q1), .second, .val (.int ic0), .val (.int p3), .val (.int p4), .val (.int p5), .val (.int rw0), .val (.int cl0), .val (.int mw0), .val (.int mh0), .val (.int fl0), .val (.int sel), .val (.int alt), .val (.ref r337), .val (.ref r349), .val (.int rw0), .val (.int cl0), .val (.int p5), .val (.int mh0), .unset, .unset, .unset, .unset, .unset]) rfl ?_
            refine XS.iload X349.here hx rfl (hb hby at_143) rfl ?_
            refine XS.iconst X349.here hx rfl (hb hby at_145) ?_
            refine XS.icmpYes X349.here hx rfl (pc0 := 146) (pc' := 154) rfl (hb hby at_146) rfl (feq (fun q => absurd (hc116_379.symm.trans q) (by decide))).2 (by decide) (by decide) ?_
            refine XS.iload X349.here hx rfl (hb hby at_154) rfl ?_
            refine XS.istore X349.here hx rfl (hb hby at_156) rfl (l' := #[.val (.long q0), .second, .val (.long q1), .second, .val (.int ic0), .val (.int p3), .val (.int p4), .val (.int p5), .val (.int rw0), .val (.int cl0), .val (.int mw0), .val (.int mh0), .val (.int fl0), .val (.int sel), .val (.int alt), .val (.ref r337), .val (.ref r349), .val (.int rw0), .val (.int cl0), .val (.int p5), .val (.int mh0), .val (.int ic0), .unset, .unset, .unset, .unset]) rfl ?_
            refine XS.iload X349.here hx rfl (hb hby at_158) rfl ?_
            refine XS.bipush X349.here hx rfl (hb hby at_160) ?_
            refine XS.icmpYes X349.here hx rfl (pc0 := 162) (pc' := 170) rfl (hb hby at_162) rfl (feq (fun q => absurd (hc116_379.symm.trans q) (by decide))).2 (by decide) (by decide) ?_
            refine XS.iload X349.here hx rfl (hb hby at_170) rfl ?_
            refine XS.istore X349.here hx rfl (hb hby at_172) rfl (l' := #[.val (.long q0), .second, .val (.long q1), .second, .val (.int ic0), .val (.int p3), .val (.int p4), .val (.int p5), .val (.int rw0), .val (.int cl0), .val (.int mw0), .val (.int mh0), .val (.int fl0), .val (.int sel), .val (.int alt), .val (.ref r337), .val (.ref r349), .val (.int rw0), .val (.int cl0), .val (.int p5), .val (.int mh0), .val (.int ic0), .val (.int fl0), .unset, .unset, .unset]) rfl ?_
            refine XS.iload X349.here hx rfl (hb hby at_174) rfl ?_
            refine XS.ifYes X349.here hx rfl (pc0 := 176) (pc' := 191) rfl (hb hby at_176) rfl ((if0 _ _).trans (feq hc68_339).2) (by decide) (by decide) ?_
            refine XS.iload X349.here hx rfl (hb hby at_191) rfl ?_
            refine XS.iconst X349.here hx rfl (hb hby at_193) ?_
            refine XS.icmpYes X349.here hx rfl (pc0 := 194) (pc' := 214) rfl (hb hby at_194) rfl (feq hc86_351).2 (by decide) (by decide) ?_
            refine XS.iload X349.here hx rfl (hb hby at_214) rfl ?_
            refine XS.iconst X349.here hx rfl (hb hby at_216) ?_
            refine XS.icmpYes X349.here hx rfl (pc0 := 217) (pc' := 237) rfl (hb hby at_217) rfl (feq hc101_365).2 (by decide) (by decide) ?_
            refine XS.iload X349.here hx rfl (hb hby at_237) rfl ?_
            refine XS.iconst X349.here hx rfl (hb hby at_239) ?_
            refine XS.icmpNo X349.here hx rfl (hb hby at_240) rfl (teq hc116_379).2 ?_
            refine XS.iload X349.here hx rfl (hb hby at_243) rfl ?_
            refine XS.iload X349.here hx rfl (hb hby at_245) rfl ?_
            exact k)
          by_cases hc247_381 : p5 = mw0
          · have fx383 := (Es337.ext E349)
            have fx384 := (Cs337.ext E349)
            have fx385 := (Fs337.ext E349)
            have fx386 := (As337.ext E349)
            have pre387 : ∀ t, Steps p.tables e below (T349.setTop (mkF m 333 #[.val (.long q0), .second, .val (.long q1), .second, .val (.int ic0), .val (.int p3), .val (.int p4), .val (.int p5), .val (.int rw0), .val (.int cl0), .val (.int mw0), .val (.int mh0), .val (.int fl0), .val (.int sel), .val (.int alt), .val (.ref r337), .val (.ref r349), .val (.int rw0), .val (.int cl0), .val (.int p5), .val (.int mh0), .val (.int ic0), .val (.int fl0), .val (.int (1 : Int32)), .unset, .unset] [])) t → Steps p.tables e below (T0.setTop (mkF m 59 #[.val (.long q0), .second, .val (.long q1), .second, .val (.int ic0), .val (.int p3), .val (.int p4), .val (.int p5), .val (.int rw0), .val (.int cl0), .val (.int mw0), .val (.int mh0), .val (.int fl0), .val (.int sel), .val (.int alt), .unset, .unset, .unset, .unset, .unset, .unset, .unset, .unset, .unset, .unset, .unset] [])) t := fun t k => pre382 t (by
              refine XS.icmpNo X349.here hx rfl (hb hby at_247) rfl (teq hc247_381).2 ?_
              refine XS.iconst X349.here hx rfl (hb hby at_250) ?_
              refine XS.goto X349.here hx rfl (pc0 := 251) (pc' := 255) rfl (hb hby at_251) (by decide) (by decide) ?_
              refine XS.istore X349.here hx rfl (hb hby at_255) rfl (l' := #[.val (.long q0), .second, .val (.long q1), .second, .val (.int ic0), .val (.int p3), .val (.int p4), .val (.int p5), .val (.int rw0), .val (.int cl0), .val (.int mw0), .val (.int mh0), .val (.int fl0), .val (.int sel), .val (.int alt), .val (.ref r337), .val (.ref r349), .val (.int rw0), .val (.int cl0), .val (.int p5), .val (.int mh0), .val (.int ic0), .val (.int fl0), .val (.int (1 : Int32)), .unset, .unset]) rfl ?_
              refine XS.goto X349.here hx rfl (pc0 := 257) (pc' := 333) rfl (hb hby at_257) (by decide) (by decide) ?_
              exact k)
            obtain ⟨s₂, o₂, h1₂, h2₂, h3₂, v₂, L₂, rfl, ⟨hv₂, N₂, -⟩, hE₂⟩ := sg_seg (l := l) (s := s) hw q0 q1 ic0 p3 p4 p5 rw0 cl0 mw0 mh0 fl0 sel alt r337 r349 rw0 cl0 p5 mh0 ic0 fl0 (1 : Int32) bn337 bn349 kn337 kn349 (FB_mk p3) (FB_mk p3) kc Z349 fx383 fx384 fx385 fx386 (own_len3 _) Es349 Cs349 Fs349 As349 (own_len3 _) (S_cs.ext EX349) hkc (vm0 := T349.vm) X349 hx hZ hby hml hown hret (by first | assumption | exact BodyLoose.notSynchronized (by assumption)) rfl N349 hS349 (Nat.le_refl _) (CHr.refl CHn349.1)
            refine ⟨s₂, _, pre387 _ h1₂, h2₂, h3₂, v₂, L₂, rfl, ⟨?_, N₂, trivial⟩, hE₂⟩
            rw [hv₂, F_segb, if_neg hc68_339, if_neg hc86_351, if_neg hc101_365, if_pos hc116_379, if_pos hc247_381]
          · have fx388 := (Es337.ext E349)
            have fx389 := (Cs337.ext E349)
            have fx390 := (Fs337.ext E349)
            have fx391 := (As337.ext E349)
            have pre392 : ∀ t, Steps p.tables e below (T349.setTop (mkF m 333 #[.val (.long q0), .second, .val (.long q1), .second, .val (.int ic0), .val (.int p3), .val (.int p4), .val (.int p5), .val (.int rw0), .val (.int cl0), .val (.int mw0), .val (.int mh0), .val (.int fl0), .val (.int sel), .val (.int alt), .val (.ref r337), .val (.ref r349), .val (.int rw0), .val (.int cl0), .val (.int p5), .val (.int mh0), .val (.int ic0), .val (.int fl0), .val (.int (0 : Int32)), .unset, .unset] [])) t → Steps p.tables e below (T0.setTop (mkF m 59 #[.val (.long q0), .second, .val (.long q1), .second, .val (.int ic0), .val (.int p3), .val (.int p4), .val (.int p5), .val (.int rw0), .val (.int cl0), .val (.int mw0), .val (.int mh0), .val (.int fl0), .val (.int sel), .val (.int alt), .unset, .unset, .unset, .unset, .unset, .unset, .unset, .unset, .unset, .unset, .unset] [])) t := fun t k => pre382 t (by
              refine XS.icmpYes X349.here hx rfl (pc0 := 247) (pc' := 254) rfl (hb hby at_247) rfl (feq hc247_381).2 (by decide) (by decide) ?_
              refine XS.iconst X349.here hx rfl (hb hby at_254) ?_
              refine XS.istore X349.here hx rfl (hb hby at_255) rfl (l' := #[.val (.long q0), .second, .val (.long q1), .second, .val (.int ic0), .val (.int p3), .val (.int p4), .val (.int p5), .val (.int rw0), .val (.int cl0), .val (.int mw0), .val (.int mh0), .val (.int fl0), .val (.int sel), .val (.int alt), .val (.ref r337), .val (.ref r349), .val (.int rw0), .val (.int cl0), .val (.int p5), .val (.int mh0), .val (.int ic0), .val (.int fl0), .val (.int (0 : Int32)), .unset, .unset]) rfl ?_
              refine XS.goto X349.here hx rfl (pc0 := 257) (pc' := 333) rfl (hb hby at_257) (by decide) (by decide) ?_
              exact k)
            obtain ⟨s₂, o₂, h1₂, h2₂, h3₂, v₂, L₂, rfl, ⟨hv₂, N₂, -⟩, hE₂⟩ := sg_seg (l := l) (s := s) hw q0 q1 ic0 p3 p4 p5 rw0 cl0 mw0 mh0 fl0 sel alt r337 r349 rw0 cl0 p5 mh0 ic0 fl0 (0 : Int32) bn337 bn349 kn337 kn349 (FB_mk p3) (FB_mk p3) kc Z349 fx388 fx389 fx390 fx391 (own_len3 _) Es349 Cs349 Fs349 As349 (own_len3 _) (S_cs.ext EX349) hkc (vm0 := T349.vm) X349 hx hZ hby hml hown hret (by first | assumption | exact BodyLoose.notSynchronized (by assumption)) rfl N349 hS349 (Nat.le_refl _) (CHr.refl CHn349.1)
            refine ⟨s₂, _, pre392 _ h1₂, h2₂, h3₂, v₂, L₂, rfl, ⟨?_, N₂, trivial⟩, hE₂⟩
            rw [hv₂, F_segb, if_neg hc68_339, if_neg hc86_351, if_neg hc101_365, if_pos hc116_379, if_neg hc247_381]
        · have pre394 : ∀ t, Steps p.tables e below (T349.setTop (mkF m 131 #[.val (.long q0), .second, .val (.long q1), .second, .val (.int ic0), .val (.int p3), .val (.int p4), .val (.int p5), .val (.int rw0), .val (.int cl0), .val (.int mw0), .val (.int mh0), .val (.int fl0), .val (.int sel), .val (.int alt), .val (.ref r337), .val (.ref r349), .val (.int rw0), .val (.int cl0), .val (.int mw0), .unset, .unset, .unset, .unset, .unset, .unset] [(.int (4 : Int32)), (.int sel)])) t → Steps p.tables e below (T0.setTop (mkF m 59 #[.val (.long q0), .second, .val (.long q1), .second, .val (.int ic0), .val (.int p3), .val (.int p4), .val (.int p5), .val (.int rw0), .val (.int cl0), .val (.int mw0), .val (.int mh0), .val (.int fl0), .val (.int sel), .val (.int alt), .unset, .unset, .unset, .unset, .unset, .unset, .unset, .unset, .unset, .unset, .unset] [])) t := fun t k => pre380 t (by
            refine XS.icmpYes X349.here hx rfl (pc0 := 116) (pc' := 124) rfl (hb hby at_116) rfl (feq hc116_379).2 (by decide) (by decide) ?_
            refine XS.iload X349.here hx rfl (hb hby at_124) rfl ?_
            refine XS.istore X349.here hx rfl (hb hby at_126) rfl (l' := #[.val (.long q0), .second, .val (.long q1), .second, .val (.int ic0), .val (.int p3), .val (.int p4), .val (.int p5), .val (.int rw0), .val (.int cl0), .val (.int mw0), .val (.int mh0), .val (.int fl0), .val (.int sel), .val (.int alt), .val (.ref r337), .val (.ref r349), .val (.int rw0), .val (.int cl0), .val (.int mw0), .unset, .unset, .unset, .unset, .unset, .unset]) rfl ?_
            refine XS.iload X349.here hx rfl (hb hby at_128) rfl ?_
            refine XS.iconst X349.here hx rfl (hb hby at_130) ?_
            exact k)
          by_cases hc131_393 : sel = (4 : Int32)
          · have pre396 : ∀ t, Steps p.tables e below (T349.setTop (mkF m 270 #[.val (.long q0), .second, .val (.long q1), .second, .val (.int ic0), .val (.int p3), .val (.int p4), .val (.int p5), .val (.int rw0), .val (.int cl0), .val (.int mw0), .val (.int mh0), .val (.int fl0), .val (.int sel), .val (.int alt), .val (.ref r337), .val (.ref r349), .val (.int rw0), .val (.int cl0), .val (.int mw0), .val (.int p5), .val (.int ic0), .val (.int fl0), .unset, .unset, .unset] [(.int mh0), (.int p5)])) t → Steps p.tables e below (T0.setTop (mkF m 59 #[.val (.long q0), .second, .val (.long q1), .second, .val (.int ic0), .val (.int p3), .val (.int p4), .val (.int p5), .val (.int rw0), .val (.int cl0), .val (.int mw0), .val (.int mh0), .val (.int fl0), .val (.int sel), .val (.int alt), .unset, .unset, .unset, .unset, .unset, .unset, .unset, .unset, .unset, .unset, .unset] [])) t := fun t k => pre394 t (by
              refine XS.icmpNo X349.here hx rfl (hb hby at_131) rfl (teq hc131_393).2 ?_
              refine XS.iload X349.here hx rfl (hb hby at_134) rfl ?_
              refine XS.goto X349.here hx rfl (pc0 := 136) (pc' := 141) rfl (hb hby at_136) (by decide) (by decide) ?_
              refine XS.istore X349.here hx rfl (hb hby at_141) rfl (l' := #[.val (.long q0), .second, .val (.long q1), .second, .val (.int ic0), .val (.int p3), .val (.int p4), .val (.int p5), .val (.int rw0), .val (.int cl0), .val (.int mw0), .val (.int mh0), .val (.int fl0), .val (.int sel), .val (.int alt), .val (.ref r337), .val (.ref r349), .val (.int rw0), .val (.int cl0), .val (.int mw0), .val (.int p5), .unset, .unset, .unset, .unset, .unset]) rfl ?_
              refine XS.iload X349.here hx rfl (hb hby at_143) rfl ?_
              refine XS.iconst X349.here hx rfl (hb hby at_145) ?_
              refine XS.icmpYes X349.here hx rfl (pc0 := 146) (pc' := 154) rfl (hb hby at_146) rfl (feq (fun q => absurd (hc131_393.symm.trans q) (by decide))).2 (by decide) (by decide) ?_
              refine XS.iload X349.here hx rfl (hb hby at_154) rfl ?_
              refine XS.istore X349.here hx rfl (hb hby at_156) rfl (l' := #[.val (.long q0), .second, .val (.long q1), .second, .val (.int ic0), .val (.int p3), .val (.int p4), .val (.int p5), .val (.int rw0), .val (.int cl0), .val (.int mw0), .val (.int mh0), .val (.int fl0), .val (.int sel), .val (.int alt), .val (.ref r337), .val (.ref r349), .val (.int rw0), .val (.int cl0), .val (.int mw0), .val (.int p5), .val (.int ic0), .unset, .unset, .unset, .unset]) rfl ?_
              refine XS.iload X349.here hx rfl (hb hby at_158) rfl ?_
              refine XS.bipush X349.here hx rfl (hb hby at_160) ?_
              refine XS.icmpYes X349.here hx rfl (pc0 := 162) (pc' := 170) rfl (hb hby at_162) rfl (feq (fun q => absurd (hc131_393.symm.trans q) (by decide))).2 (by decide) (by decide) ?_
              refine XS.iload X349.here hx rfl (hb hby at_170) rfl ?_
              refine XS.istore X349.here hx rfl (hb hby at_172) rfl (l' := #[.val (.long q0), .second, .val (.long q1), .second, .val (.int ic0), .val (.int p3), .val (.int p4), .val (.int p5), .val (.int rw0), .val (.int cl0), .val (.int mw0), .val (.int mh0), .val (.int fl0), .val (.int sel), .val (.int alt), .val (.ref r337), .val (.ref r349), .val (.int rw0), .val (.int cl0), .val (.int mw0), .val (.int p5), .val (.int ic0), .val (.int fl0), .unset, .unset, .unset]) rfl ?_
              refine XS.iload X349.here hx rfl (hb hby at_174) rfl ?_
              refine XS.ifYes X349.here hx rfl (pc0 := 176) (pc' := 191) rfl (hb hby at_176) rfl ((if0 _ _).trans (feq hc68_339).2) (by decide) (by decide) ?_
              refine XS.iload X349.here hx rfl (hb hby at_191) rfl ?_
              refine XS.iconst X349.here hx rfl (hb hby at_193) ?_
              refine XS.icmpYes X349.here hx rfl (pc0 := 194) (pc' := 214) rfl (hb hby at_194) rfl (feq hc86_351).2 (by decide) (by decide) ?_
              refine XS.iload X349.here hx rfl (hb hby at_214) rfl ?_
              refine XS.iconst X349.here hx rfl (hb hby at_216) ?_
              refine XS.icmpYes X349.here hx rfl (pc0 := 217) (pc' := 237) rfl (hb hby at_217) rfl (feq hc101_365).2 (by decide) (by decide) ?_
              refine XS.iload X349.here hx rfl (hb hby at_237) rfl ?_
              refine XS.iconst X349.here hx rfl (hb hby at_239) ?_
              refine XS.icmpYes X349.here hx rfl (pc0 := 240) (pc' := 260) rfl (hb hby at_240) rfl (feq hc116_379).2 (by decide) (by decide) ?_
              refine XS.iload X349.here hx rfl (hb hby at_260) rfl ?_
              refine XS.iconst X349.here hx rfl (hb hby at_262) ?_
              refine XS.icmpNo X349.here hx rfl (hb hby at_263) rfl (teq hc131_393).2 ?_
              refine XS.iload X349.here hx rfl (hb hby at_266) rfl ?_
              refine XS.iload X349.here hx rfl (hb hby at_268) rfl ?_
              exact k)
            by_cases hc270_395 : p5 = mh0
            · have fx397 := (Es337.ext E349)
              have fx398 := (Cs337.ext E349)
              have fx399 := (Fs337.ext E349)
              have fx400 := (As337.ext E349)
              have pre401 : ∀ t, Steps p.tables e below (T349.setTop (mkF m 333 #[.val (.long q0), .second, .val (.long q1), .second, .val (.int ic0), .val (.int p3), .val (.int p4), .val (.int p5), .val (.int rw0), .val (.int cl0), .val (.int mw0), .val (.int mh0), .val (.int fl0), .val (.int sel), .val (.int alt), .val (.ref r337), .val (.ref r349), .val (.int rw0), .val (.int cl0), .val (.int mw0), .val (.int p5), .val (.int ic0), .val (.int fl0), .val (.int (1 : Int32)), .unset, .unset] [])) t → Steps p.tables e below (T0.setTop (mkF m 59 #[.val (.long q0), .second, .val (.long q1), .second, .val (.int ic0), .val (.int p3), .val (.int p4), .val (.int p5), .val (.int rw0), .val (.int cl0), .val (.int mw0), .val (.int mh0), .val (.int fl0), .val (.int sel), .val (.int alt), .unset, .unset, .unset, .unset, .unset, .unset, .unset, .unset, .unset, .unset, .unset] [])) t := fun t k => pre396 t (by
                refine XS.icmpNo X349.here hx rfl (hb hby at_270) rfl (teq hc270_395).2 ?_
                refine XS.iconst X349.here hx rfl (hb hby at_273) ?_
                refine XS.goto X349.here hx rfl (pc0 := 274) (pc' := 278) rfl (hb hby at_274) (by decide) (by decide) ?_
                refine XS.istore X349.here hx rfl (hb hby at_278) rfl (l' := #[.val (.long q0), .second, .val (.long q1), .second, .val (.int ic0), .val (.int p3), .val (.int p4), .val (.int p5), .val (.int rw0), .val (.int cl0), .val (.int mw0), .val (.int mh0), .val (.int fl0), .val (.int sel), .val (.int alt), .val (.ref r337), .val (.ref r349), .val (.int rw0), .val (.int cl0), .val (.int mw0), .val (.int p5), .val (.int ic0), .val (.int fl0), .val (.int (1 : Int32)), .unset, .unset]) rfl ?_
                refine XS.goto X349.here hx rfl (pc0 := 280) (pc' := 333) rfl (hb hby at_280) (by decide) (by decide) ?_
                exact k)
              obtain ⟨s₂, o₂, h1₂, h2₂, h3₂, v₂, L₂, rfl, ⟨hv₂, N₂, -⟩, hE₂⟩ := sg_seg (l := l) (s := s) hw q0 q1 ic0 p3 p4 p5 rw0 cl0 mw0 mh0 fl0 sel alt r337 r349 rw0 cl0 mw0 p5 ic0 fl0 (1 : Int32) bn337 bn349 kn337 kn349 (FB_mk p3) (FB_mk p3) kc Z349 fx397 fx398 fx399 fx400 (own_len3 _) Es349 Cs349 Fs349 As349 (own_len3 _) (S_cs.ext EX349) hkc (vm0 := T349.vm) X349 hx hZ hby hml hown hret (by first | assumption | exact BodyLoose.notSynchronized (by assumption)) rfl N349 hS349 (Nat.le_refl _) (CHr.refl CHn349.1)
              refine ⟨s₂, _, pre401 _ h1₂, h2₂, h3₂, v₂, L₂, rfl, ⟨?_, N₂, trivial⟩, hE₂⟩
              rw [hv₂, F_segb, if_neg hc68_339, if_neg hc86_351, if_neg hc101_365, if_neg hc116_379, if_pos hc131_393, if_pos hc270_395]
            · have fx402 := (Es337.ext E349)
              have fx403 := (Cs337.ext E349)
              have fx404 := (Fs337.ext E349)
              have fx405 := (As337.ext E349)
              have pre406 : ∀ t, Steps p.tables e below (T349.setTop (mkF m 333 #[.val (.long q0), .second, .val (.long q1), .second, .val (.int ic0), .val (.int p3), .val (.int p4), .val (.int p5), .val (.int rw0), .val (.int cl0), .val (.int mw0), .val (.int mh0), .val (.int fl0), .val (.int sel), .val (.int alt), .val (.ref r337), .val (.ref r349), .val (.int rw0), .val (.int cl0), .val (.int mw0), .val (.int p5), .val (.int ic0), .val (.int fl0), .val (.int (0 : Int32)), .unset, .unset] [])) t → Steps p.tables e below (T0.setTop (mkF m 59 #[.val (.long q0), .second, .val (.long q1), .second, .val (.int ic0), .val (.int p3), .val (.int p4), .val (.int p5), .val (.int rw0), .val (.int cl0), .val (.int mw0), .val (.int mh0), .val (.int fl0), .val (.int sel), .val (.int alt), .unset, .unset, .unset, .unset, .unset, .unset, .unset, .unset, .unset, .unset, .unset] [])) t := fun t k => pre396 t (by
                refine XS.icmpYes X349.here hx rfl (pc0 := 270) (pc' := 277) rfl (hb hby at_270) rfl (feq hc270_395).2 (by decide) (by decide) ?_
                refine XS.iconst X349.here hx rfl (hb hby at_277) ?_
                refine XS.istore X349.here hx rfl (hb hby at_278) rfl (l' := #[.val (.long q0), .second, .val (.long q1), .second, .val (.int ic0), .val (.int p3), .val (.int p4), .val (.int p5), .val (.int rw0), .val (.int cl0), .val (.int mw0), .val (.int mh0), .val (.int fl0), .val (.int sel), .val (.int alt), .val (.ref r337), .val (.ref r349), .val (.int rw0), .val (.int cl0), .val (.int mw0), .val (.int p5), .val (.int ic0), .val (.int fl0), .val (.int (0 : Int32)), .unset, .unset]) rfl ?_
                refine XS.goto X349.here hx rfl (pc0 := 280) (pc' := 333) rfl (hb hby at_280) (by decide) (by decide) ?_
                exact k)
              obtain ⟨s₂, o₂, h1₂, h2₂, h3₂, v₂, L₂, rfl, ⟨hv₂, N₂, -⟩, hE₂⟩ := sg_seg (l := l) (s := s) hw q0 q1 ic0 p3 p4 p5 rw0 cl0 mw0 mh0 fl0 sel alt r337 r349 rw0 cl0 mw0 p5 ic0 fl0 (0 : Int32) bn337 bn349 kn337 kn349 (FB_mk p3) (FB_mk p3) kc Z349 fx402 fx403 fx404 fx405 (own_len3 _) Es349 Cs349 Fs349 As349 (own_len3 _) (S_cs.ext EX349) hkc (vm0 := T349.vm) X349 hx hZ hby hml hown hret (by first | assumption | exact BodyLoose.notSynchronized (by assumption)) rfl N349 hS349 (Nat.le_refl _) (CHr.refl CHn349.1)
              refine ⟨s₂, _, pre406 _ h1₂, h2₂, h3₂, v₂, L₂, rfl, ⟨?_, N₂, trivial⟩, hE₂⟩
              rw [hv₂, F_segb, if_neg hc68_339, if_neg hc86_351, if_neg hc101_365, if_neg hc116_379, if_pos hc131_393, if_neg hc270_395]
          · have pre408 : ∀ t, Steps p.tables e below (T349.setTop (mkF m 146 #[.val (.long q0), .second, .val (.long q1), .second, .val (.int ic0), .val (.int p3), .val (.int p4), .val (.int p5), .val (.int rw0), .val (.int cl0), .val (.int mw0), .val (.int mh0), .val (.int fl0), .val (.int sel), .val (.int alt), .val (.ref r337), .val (.ref r349), .val (.int rw0), .val (.int cl0), .val (.int mw0), .val (.int mh0), .unset, .unset, .unset, .unset, .unset] [(.int (5 : Int32)), (.int sel)])) t → Steps p.tables e below (T0.setTop (mkF m 59 #[.val (.long q0), .second, .val (.long q1), .second, .val (.int ic0), .val (.int p3), .val (.int p4), .val (.int p5), .val (.int rw0), .val (.int cl0), .val (.int mw0), .val (.int mh0), .val (.int fl0), .val (.int sel), .val (.int alt), .unset, .unset, .unset, .unset, .unset, .unset, .unset, .unset, .unset, .unset, .unset] [])) t := fun t k => pre394 t (by
              refine XS.icmpYes X349.here hx rfl (pc0 := 131) (pc' := 139) rfl (hb hby at_131) rfl (feq hc131_393).2 (by decide) (by decide) ?_
              refine XS.iload X349.here hx rfl (hb hby at_139) rfl ?_
              refine XS.istore X349.here hx rfl (hb hby at_141) rfl (l' := #[.val (.long q0), .second, .val (.long q1), .second, .val (.int ic0), .val (.int p3), .val (.int p4), .val (.int p5), .val (.int rw0), .val (.int cl0), .val (.int mw0), .val (.int mh0), .val (.int fl0), .val (.int sel), .val (.int alt), .val (.ref r337), .val (.ref r349), .val (.int rw0), .val (.int cl0), .val (.int mw0), .val (.int mh0), .unset, .unset, .unset, .unset, .unset]) rfl ?_
              refine XS.iload X349.here hx rfl (hb hby at_143) rfl ?_
              refine XS.iconst X349.here hx rfl (hb hby at_145) ?_
              exact k)
            by_cases hc146_407 : sel = (5 : Int32)
            · have pre410 : ∀ t, Steps p.tables e below (T349.setTop (mkF m 293 #[.val (.long q0), .second, .val (.long q1), .second, .val (.int ic0), .val (.int p3), .val (.int p4), .val (.int p5), .val (.int rw0), .val (.int cl0), .val (.int mw0), .val (.int mh0), .val (.int fl0), .val (.int sel), .val (.int alt), .val (.ref r337), .val (.ref r349), .val (.int rw0), .val (.int cl0), .val (.int mw0), .val (.int mh0), .val (.int p5), .val (.int fl0), .unset, .unset, .unset] [(.int ic0), (.int p5)])) t → Steps p.tables e below (T0.setTop (mkF m 59 #[.val (.long q0), .second, .val (.long q1), .second, .val (.int ic0), .val (.int p3), .val (.int p4), .val (.int p5), .val (.int rw0), .val (.int cl0), .val (.int mw0), .val (.int mh0), .val (.int fl0), .val (.int sel), .val (.int alt), .unset, .unset, .unset, .unset, .unset, .unset, .unset, .unset, .unset, .unset, .unset] [])) t := fun t k => pre408 t (by
                refine XS.icmpNo X349.here hx rfl (hb hby at_146) rfl (teq hc146_407).2 ?_
                refine XS.iload X349.here hx rfl (hb hby at_149) rfl ?_
                refine XS.goto X349.here hx rfl (pc0 := 151) (pc' := 156) rfl (hb hby at_151) (by decide) (by decide) ?_
                refine XS.istore X349.here hx rfl (hb hby at_156) rfl (l' := #[.val (.long q0), .second, .val (.long q1), .second, .val (.int ic0), .val (.int p3), .val (.int p4), .val (.int p5), .val (.int rw0), .val (.int cl0), .val (.int mw0), .val (.int mh0), .val (.int fl0), .val (.int sel), .val (.int alt), .val (.ref r337), .val (.ref r349), .val (.int rw0), .val (.int cl0), .val (.int mw0), .val (.int mh0), .val (.int p5), .unset, .unset, .unset, .unset]) rfl ?_
                refine XS.iload X349.here hx rfl (hb hby at_158) rfl ?_
                refine XS.bipush X349.here hx rfl (hb hby at_160) ?_
                refine XS.icmpYes X349.here hx rfl (pc0 := 162) (pc' := 170) rfl (hb hby at_162) rfl (feq (fun q => absurd (hc146_407.symm.trans q) (by decide))).2 (by decide) (by decide) ?_
                refine XS.iload X349.here hx rfl (hb hby at_170) rfl ?_
                refine XS.istore X349.here hx rfl (hb hby at_172) rfl (l' := #[.val (.long q0), .second, .val (.long q1), .second, .val (.int ic0), .val (.int p3), .val (.int p4), .val (.int p5), .val (.int rw0), .val (.int cl0), .val (.int mw0), .val (.int mh0), .val (.int fl0), .val (.int sel), .val (.int alt), .val (.ref r337), .val (.ref r349), .val (.int rw0), .val (.int cl0), .val (.int mw0), .val (.int mh0), .val (.int p5), .val (.int fl0), .unset, .unset, .unset]) rfl ?_
                refine XS.iload X349.here hx rfl (hb hby at_174) rfl ?_
                refine XS.ifYes X349.here hx rfl (pc0 := 176) (pc' := 191) rfl (hb hby at_176) rfl ((if0 _ _).trans (feq hc68_339).2) (by decide) (by decide) ?_
                refine XS.iload X349.here hx rfl (hb hby at_191) rfl ?_
                refine XS.iconst X349.here hx rfl (hb hby at_193) ?_
                refine XS.icmpYes X349.here hx rfl (pc0 := 194) (pc' := 214) rfl (hb hby at_194) rfl (feq hc86_351).2 (by decide) (by decide) ?_
                refine XS.iload X349.here hx rfl (hb hby at_214) rfl ?_
                refine XS.iconst X349.here hx rfl (hb hby at_216) ?_
                refine XS.icmpYes X349.here hx rfl (pc0 := 217) (pc' := 237) rfl (hb hby at_217) rfl (feq hc101_365).2 (by decide) (by decide) ?_
                refine XS.iload X349.here hx rfl (hb hby at_237) rfl ?_
                refine XS.iconst X349.here hx rfl (hb hby at_239) ?_
                refine XS.icmpYes X349.here hx rfl (pc0 := 240) (pc' := 260) rfl (hb hby at_240) rfl (feq hc116_379).2 (by decide) (by decide) ?_
                refine XS.iload X349.here hx rfl (hb hby at_260) rfl ?_
                refine XS.iconst X349.here hx rfl (hb hby at_262) ?_
                refine XS.icmpYes X349.here hx rfl (pc0 := 263) (pc' := 283) rfl (hb hby at_263) rfl (feq hc131_393).2 (by decide) (by decide) ?_
                refine XS.iload X349.here hx rfl (hb hby at_283) rfl ?_
                refine XS.iconst X349.here hx rfl (hb hby at_285) ?_
                refine XS.icmpNo X349.here hx rfl (hb hby at_286) rfl (teq hc146_407).2 ?_
                refine XS.iload X349.here hx rfl (hb hby at_289) rfl ?_
                refine XS.iload X349.here hx rfl (hb hby at_291) rfl ?_
                exact k)
              by_cases hc293_409 : p5 = ic0
              · have fx411 := (Es337.ext E349)
                have fx412 := (Cs337.ext E349)
                have fx413 := (Fs337.ext E349)
                have fx414 := (As337.ext E349)
                have pre415 : ∀ t, Steps p.tables e below (T349.setTop (mkF m 333 #[.val (.long q0), .second, .val (.long q1), .second, .val (.int ic0), .val (.int p3), .val (.int p4), .val (.int p5), .val (.int rw0), .val (.int cl0), .val (.int mw0), .val (.int mh0), .val (.int fl0), .val (.int sel), .val (.int alt), .val (.ref r337), .val (.ref r349), .val (.int rw0), .val (.int cl0), .val (.int mw0), .val (.int mh0), .val (.int p5), .val (.int fl0), .val (.int (1 : Int32)), .unset, .unset] [])) t → Steps p.tables e below (T0.setTop (mkF m 59 #[.val (.long q0), .second, .val (.long q1), .second, .val (.int ic0), .val (.int p3), .val (.int p4), .val (.int p5), .val (.int rw0), .val (.int cl0), .val (.int mw0), .val (.int mh0), .val (.int fl0), .val (.int sel), .val (.int alt), .unset, .unset, .unset, .unset, .unset, .unset, .unset, .unset, .unset, .unset, .unset] [])) t := fun t k => pre410 t (by
                  refine XS.icmpNo X349.here hx rfl (hb hby at_293) rfl (teq hc293_409).2 ?_
                  refine XS.iconst X349.here hx rfl (hb hby at_296) ?_
                  refine XS.goto X349.here hx rfl (pc0 := 297) (pc' := 301) rfl (hb hby at_297) (by decide) (by decide) ?_
                  refine XS.istore X349.here hx rfl (hb hby at_301) rfl (l' := #[.val (.long q0), .second, .val (.long q1), .second, .val (.int ic0), .val (.int p3), .val (.int p4), .val (.int p5), .val (.int rw0), .val (.int cl0), .val (.int mw0), .val (.int mh0), .val (.int fl0), .val (.int sel), .val (.int alt), .val (.ref r337), .val (.ref r349), .val (.int rw0), .val (.int cl0), .val (.int mw0), .val (.int mh0), .val (.int p5), .val (.int fl0), .val (.int (1 : Int32)), .unset, .unset]) rfl ?_
                  refine XS.goto X349.here hx rfl (pc0 := 303) (pc' := 333) rfl (hb hby at_303) (by decide) (by decide) ?_
                  exact k)
                obtain ⟨s₂, o₂, h1₂, h2₂, h3₂, v₂, L₂, rfl, ⟨hv₂, N₂, -⟩, hE₂⟩ := sg_seg (l := l) (s := s) hw q0 q1 ic0 p3 p4 p5 rw0 cl0 mw0 mh0 fl0 sel alt r337 r349 rw0 cl0 mw0 mh0 p5 fl0 (1 : Int32) bn337 bn349 kn337 kn349 (FB_mk p3) (FB_mk p3) kc Z349 fx411 fx412 fx413 fx414 (own_len3 _) Es349 Cs349 Fs349 As349 (own_len3 _) (S_cs.ext EX349) hkc (vm0 := T349.vm) X349 hx hZ hby hml hown hret (by first | assumption | exact BodyLoose.notSynchronized (by assumption)) rfl N349 hS349 (Nat.le_refl _) (CHr.refl CHn349.1)
                refine ⟨s₂, _, pre415 _ h1₂, h2₂, h3₂, v₂, L₂, rfl, ⟨?_, N₂, trivial⟩, hE₂⟩
                rw [hv₂, F_segb, if_neg hc68_339, if_neg hc86_351, if_neg hc101_365, if_neg hc116_379, if_neg hc131_393, if_pos hc146_407, if_pos hc293_409]
              · have fx416 := (Es337.ext E349)
                have fx417 := (Cs337.ext E349)
                have fx418 := (Fs337.ext E349)
                have fx419 := (As337.ext E349)
                have pre420 : ∀ t, Steps p.tables e below (T349.setTop (mkF m 333 #[.val (.long q0), .second, .val (.long q1), .second, .val (.int ic0), .val (.int p3), .val (.int p4), .val (.int p5), .val (.int rw0), .val (.int cl0), .val (.int mw0), .val (.int mh0), .val (.int fl0), .val (.int sel), .val (.int alt), .val (.ref r337), .val (.ref r349), .val (.int rw0), .val (.int cl0), .val (.int mw0), .val (.int mh0), .val (.int p5), .val (.int fl0), .val (.int (0 : Int32)), .unset, .unset] [])) t → Steps p.tables e below (T0.setTop (mkF m 59 #[.val (.long q0), .second, .val (.long q1), .second, .val (.int ic0), .val (.int p3), .val (.int p4), .val (.int p5), .val (.int rw0), .val (.int cl0), .val (.int mw0), .val (.int mh0), .val (.int fl0), .val (.int sel), .val (.int alt), .unset, .unset, .unset, .unset, .unset, .unset, .unset, .unset, .unset, .unset, .unset] [])) t := fun t k => pre410 t (by
                  refine XS.icmpYes X349.here hx rfl (pc0 := 293) (pc' := 300) rfl (hb hby at_293) rfl (feq hc293_409).2 (by decide) (by decide) ?_
                  refine XS.iconst X349.here hx rfl (hb hby at_300) ?_
                  refine XS.istore X349.here hx rfl (hb hby at_301) rfl (l' := #[.val (.long q0), .second, .val (.long q1), .second, .val (.int ic0), .val (.int p3), .val (.int p4), .val (.int p5), .val (.int rw0), .val (.int cl0), .val (.int mw0), .val (.int mh0), .val (.int fl0), .val (.int sel), .val (.int alt), .val (.ref r337), .val (.ref r349), .val (.int rw0), .val (.int cl0), .val (.int mw0), .val (.int mh0), .val (.int p5), .val (.int fl0), .val (.int (0 : Int32)), .unset, .unset]) rfl ?_
                  refine XS.goto X349.here hx rfl (pc0 := 303) (pc' := 333) rfl (hb hby at_303) (by decide) (by decide) ?_
                  exact k)
                obtain ⟨s₂, o₂, h1₂, h2₂, h3₂, v₂, L₂, rfl, ⟨hv₂, N₂, -⟩, hE₂⟩ := sg_seg (l := l) (s := s) hw q0 q1 ic0 p3 p4 p5 rw0 cl0 mw0 mh0 fl0 sel alt r337 r349 rw0 cl0 mw0 mh0 p5 fl0 (0 : Int32) bn337 bn349 kn337 kn349 (FB_mk p3) (FB_mk p3) kc Z349 fx416 fx417 fx418 fx419 (own_len3 _) Es349 Cs349 Fs349 As349 (own_len3 _) (S_cs.ext EX349) hkc (vm0 := T349.vm) X349 hx hZ hby hml hown hret (by first | assumption | exact BodyLoose.notSynchronized (by assumption)) rfl N349 hS349 (Nat.le_refl _) (CHr.refl CHn349.1)
                refine ⟨s₂, _, pre420 _ h1₂, h2₂, h3₂, v₂, L₂, rfl, ⟨?_, N₂, trivial⟩, hE₂⟩
                rw [hv₂, F_segb, if_neg hc68_339, if_neg hc86_351, if_neg hc101_365, if_neg hc116_379, if_neg hc131_393, if_pos hc146_407, if_neg hc293_409]
            · have pre422 : ∀ t, Steps p.tables e below (T349.setTop (mkF m 162 #[.val (.long q0), .second, .val (.long q1), .second, .val (.int ic0), .val (.int p3), .val (.int p4), .val (.int p5), .val (.int rw0), .val (.int cl0), .val (.int mw0), .val (.int mh0), .val (.int fl0), .val (.int sel), .val (.int alt), .val (.ref r337), .val (.ref r349), .val (.int rw0), .val (.int cl0), .val (.int mw0), .val (.int mh0), .val (.int ic0), .unset, .unset, .unset, .unset] [(.int (6 : Int32)), (.int sel)])) t → Steps p.tables e below (T0.setTop (mkF m 59 #[.val (.long q0), .second, .val (.long q1), .second, .val (.int ic0), .val (.int p3), .val (.int p4), .val (.int p5), .val (.int rw0), .val (.int cl0), .val (.int mw0), .val (.int mh0), .val (.int fl0), .val (.int sel), .val (.int alt), .unset, .unset, .unset, .unset, .unset, .unset, .unset, .unset, .unset, .unset, .unset] [])) t := fun t k => pre408 t (by
                refine XS.icmpYes X349.here hx rfl (pc0 := 146) (pc' := 154) rfl (hb hby at_146) rfl (feq hc146_407).2 (by decide) (by decide) ?_
                refine XS.iload X349.here hx rfl (hb hby at_154) rfl ?_
                refine XS.istore X349.here hx rfl (hb hby at_156) rfl (l' := #[.val (.long q0), .second, .val (.long q1), .second, .val (.int ic0), .val (.int p3), .val (.int p4), .val (.int p5), .val (.int rw0), .val (.int cl0), .val (.int mw0), .val (.int mh0), .val (.int fl0), .val (.int sel), .val (.int alt), .val (.ref r337), .val (.ref r349), .val (.int rw0), .val (.int cl0), .val (.int mw0), .val (.int mh0), .val (.int ic0), .unset, .unset, .unset, .unset]) rfl ?_
                refine XS.iload X349.here hx rfl (hb hby at_158) rfl ?_
                refine XS.bipush X349.here hx rfl (hb hby at_160) ?_
                exact k)
              by_cases hc162_421 : sel = (6 : Int32)
              · have pre424 : ∀ t, Steps p.tables e below (T349.setTop (mkF m 317 #[.val (.long q0), .second, .val (.long q1), .second, .val (.int ic0), .val (.int p3), .val (.int p4), .val (.int p5), .val (.int rw0), .val (.int cl0), .val (.int mw0), .val (.int mh0), .val (.int fl0), .val (.int sel), .val (.int alt), .val (.ref r337), .val (.ref r349), .val (.int rw0), .val (.int cl0), .val (.int mw0), .val (.int mh0), .val (.int ic0), .val (.int alt), .unset, .unset, .unset] [(.int fl0), (.int alt)])) t → Steps p.tables e below (T0.setTop (mkF m 59 #[.val (.long q0), .second, .val (.long q1), .second, .val (.int ic0), .val (.int p3), .val (.int p4), .val (.int p5), .val (.int rw0), .val (.int cl0), .val (.int mw0), .val (.int mh0), .val (.int fl0), .val (.int sel), .val (.int alt), .unset, .unset, .unset, .unset, .unset, .unset, .unset, .unset, .unset, .unset, .unset] [])) t := fun t k => pre422 t (by
                  refine XS.icmpNo X349.here hx rfl (hb hby at_162) rfl (teq hc162_421).2 ?_
                  refine XS.iload X349.here hx rfl (hb hby at_165) rfl ?_
                  refine XS.goto X349.here hx rfl (pc0 := 167) (pc' := 172) rfl (hb hby at_167) (by decide) (by decide) ?_
                  refine XS.istore X349.here hx rfl (hb hby at_172) rfl (l' := #[.val (.long q0), .second, .val (.long q1), .second, .val (.int ic0), .val (.int p3), .val (.int p4), .val (.int p5), .val (.int rw0), .val (.int cl0), .val (.int mw0), .val (.int mh0), .val (.int fl0), .val (.int sel), .val (.int alt), .val (.ref r337), .val (.ref r349), .val (.int rw0), .val (.int cl0), .val (.int mw0), .val (.int mh0), .val (.int ic0), .val (.int alt), .unset, .unset, .unset]) rfl ?_
                  refine XS.iload X349.here hx rfl (hb hby at_174) rfl ?_
                  refine XS.ifYes X349.here hx rfl (pc0 := 176) (pc' := 191) rfl (hb hby at_176) rfl ((if0 _ _).trans (feq hc68_339).2) (by decide) (by decide) ?_
                  refine XS.iload X349.here hx rfl (hb hby at_191) rfl ?_
                  refine XS.iconst X349.here hx rfl (hb hby at_193) ?_
                  refine XS.icmpYes X349.here hx rfl (pc0 := 194) (pc' := 214) rfl (hb hby at_194) rfl (feq hc86_351).2 (by decide) (by decide) ?_
                  refine XS.iload X349.here hx rfl (hb hby at_214) rfl ?_
                  refine XS.iconst X349.here hx rfl (hb hby at_216) ?_
                  refine XS.icmpYes X349.here hx rfl (pc0 := 217) (pc' := 237) rfl (hb hby at_217) rfl (feq hc101_365).2 (by decide) (by decide) ?_
                  refine XS.iload X349.here hx rfl (hb hby at_237) rfl ?_
                  refine XS.iconst X349.here hx rfl (hb hby at_239) ?_
                  refine XS.icmpYes X349.here hx rfl (pc0 := 240) (pc' := 260) rfl (hb hby at_240) rfl (feq hc116_379).2 (by decide) (by decide) ?_
                  refine XS.iload X349.here hx rfl (hb hby at_260) rfl ?_
                  refine XS.iconst X349.here hx rfl (hb hby at_262) ?_
                  refine XS.icmpYes X349.here hx rfl (pc0 := 263) (pc' := 283) rfl (hb hby at_263) rfl (feq hc131_393).2 (by decide) (by decide) ?_
                  refine XS.iload X349.here hx rfl (hb hby at_283) rfl ?_
                  refine XS.iconst X349.here hx rfl (hb hby at_285) ?_
                  refine XS.icmpYes X349.here hx rfl (pc0 := 286) (pc' := 306) rfl (hb hby at_286) rfl (feq hc146_407).2 (by decide) (by decide) ?_
                  refine XS.iload X349.here hx rfl (hb hby at_306) rfl ?_
                  refine XS.bipush X349.here hx rfl (hb hby at_308) ?_
                  refine XS.icmpNo X349.here hx rfl (hb hby at_310) rfl (teq hc162_421).2 ?_
                  refine XS.iload X349.here hx rfl (hb hby at_313) rfl ?_
                  refine XS.iload X349.here hx rfl (hb hby at_315) rfl ?_
                  exact k)
                by_cases hc317_423 : alt = fl0
                · have fx425 := (Es337.ext E349)
                  have fx426 := (Cs337.ext E349)
                  have fx427 := (Fs337.ext E349)
                  have fx428 := (As337.ext E349)
                  have pre429 : ∀ t, Steps p.tables e below (T349.setTop (mkF m 333 #[.val (.long q0), .second, .val (.long q1), .second, .val (.int ic0), .val (.int p3), .val (.int p4), .val (.int p5), .val (.int rw0), .val (.int cl0), .val (.int mw0), .val (.int mh0), .val (.int fl0), .val (.int sel), .val (.int alt), .val (.ref r337), .val (.ref r349), .val (.int rw0), .val (.int cl0), .val (.int mw0), .val (.int mh0), .val (.int ic0), .val (.int alt), .val (.int (1 : Int32)), .unset, .unset] [])) t → Steps p.tables e below (T0.setTop (mkF m 59 #[.val (.long q0), .second, .val (.long q1), .second, .val (.int ic0), .val (.int p3), .val (.int p4), .val (.int p5), .val (.int rw0), .val (.int cl0), .val (.int mw0), .val (.int mh0), .val (.int fl0), .val (.int sel), .val (.int alt), .unset, .unset, .unset, .unset, .unset, .unset, .unset, .unset, .unset, .unset, .unset] [])) t := fun t k => pre424 t (by
                    refine XS.icmpNo X349.here hx rfl (hb hby at_317) rfl (teq hc317_423).2 ?_
                    refine XS.iconst X349.here hx rfl (hb hby at_320) ?_
                    refine XS.goto X349.here hx rfl (pc0 := 321) (pc' := 325) rfl (hb hby at_321) (by decide) (by decide) ?_
                    refine XS.istore X349.here hx rfl (hb hby at_325) rfl (l' := #[.val (.long q0), .second, .val (.long q1), .second, .val (.int ic0), .val (.int p3), .val (.int p4), .val (.int p5), .val (.int rw0), .val (.int cl0), .val (.int mw0), .val (.int mh0), .val (.int fl0), .val (.int sel), .val (.int alt), .val (.ref r337), .val (.ref r349), .val (.int rw0), .val (.int cl0), .val (.int mw0), .val (.int mh0), .val (.int ic0), .val (.int alt), .val (.int (1 : Int32)), .unset, .unset]) rfl ?_
                    refine XS.goto X349.here hx rfl (pc0 := 327) (pc' := 333) rfl (hb hby at_327) (by decide) (by decide) ?_
                    exact k)
                  obtain ⟨s₂, o₂, h1₂, h2₂, h3₂, v₂, L₂, rfl, ⟨hv₂, N₂, -⟩, hE₂⟩ := sg_seg (l := l) (s := s) hw q0 q1 ic0 p3 p4 p5 rw0 cl0 mw0 mh0 fl0 sel alt r337 r349 rw0 cl0 mw0 mh0 ic0 alt (1 : Int32) bn337 bn349 kn337 kn349 (FB_mk p3) (FB_mk p3) kc Z349 fx425 fx426 fx427 fx428 (own_len3 _) Es349 Cs349 Fs349 As349 (own_len3 _) (S_cs.ext EX349) hkc (vm0 := T349.vm) X349 hx hZ hby hml hown hret (by first | assumption | exact BodyLoose.notSynchronized (by assumption)) rfl N349 hS349 (Nat.le_refl _) (CHr.refl CHn349.1)
                  refine ⟨s₂, _, pre429 _ h1₂, h2₂, h3₂, v₂, L₂, rfl, ⟨?_, N₂, trivial⟩, hE₂⟩
                  rw [hv₂, F_segb, if_neg hc68_339, if_neg hc86_351, if_neg hc101_365, if_neg hc116_379, if_neg hc131_393, if_neg hc146_407, if_pos hc162_421, if_pos hc317_423]
                · have fx430 := (Es337.ext E349)
                  have fx431 := (Cs337.ext E349)
                  have fx432 := (Fs337.ext E349)
                  have fx433 := (As337.ext E349)
                  have pre434 : ∀ t, Steps p.tables e below (T349.setTop (mkF m 333 #[.val (.long q0), .second, .val (.long q1), .second, .val (.int ic0), .val (.int p3), .val (.int p4), .val (.int p5), .val (.int rw0), .val (.int cl0), .val (.int mw0), .val (.int mh0), .val (.int fl0), .val (.int sel), .val (.int alt), .val (.ref r337), .val (.ref r349), .val (.int rw0), .val (.int cl0), .val (.int mw0), .val (.int mh0), .val (.int ic0), .val (.int alt), .val (.int (0 : Int32)), .unset, .unset] [])) t → Steps p.tables e below (T0.setTop (mkF m 59 #[.val (.long q0), .second, .val (.long q1), .second, .val (.int ic0), .val (.int p3), .val (.int p4), .val (.int p5), .val (.int rw0), .val (.int cl0), .val (.int mw0), .val (.int mh0), .val (.int fl0), .val (.int sel), .val (.int alt), .unset, .unset, .unset, .unset, .unset, .unset, .unset, .unset, .unset, .unset, .unset] [])) t := fun t k => pre424 t (by
                    refine XS.icmpYes X349.here hx rfl (pc0 := 317) (pc' := 324) rfl (hb hby at_317) rfl (feq hc317_423).2 (by decide) (by decide) ?_
                    refine XS.iconst X349.here hx rfl (hb hby at_324) ?_
                    refine XS.istore X349.here hx rfl (hb hby at_325) rfl (l' := #[.val (.long q0), .second, .val (.long q1), .second, .val (.int ic0), .val (.int p3), .val (.int p4), .val (.int p5), .val (.int rw0), .val (.int cl0), .val (.int mw0), .val (.int mh0), .val (.int fl0), .val (.int sel), .val (.int alt), .val (.ref r337), .val (.ref r349), .val (.int rw0), .val (.int cl0), .val (.int mw0), .val (.int mh0), .val (.int ic0), .val (.int alt), .val (.int (0 : Int32)), .unset, .unset]) rfl ?_
                    refine XS.goto X349.here hx rfl (pc0 := 327) (pc' := 333) rfl (hb hby at_327) (by decide) (by decide) ?_
                    exact k)
                  obtain ⟨s₂, o₂, h1₂, h2₂, h3₂, v₂, L₂, rfl, ⟨hv₂, N₂, -⟩, hE₂⟩ := sg_seg (l := l) (s := s) hw q0 q1 ic0 p3 p4 p5 rw0 cl0 mw0 mh0 fl0 sel alt r337 r349 rw0 cl0 mw0 mh0 ic0 alt (0 : Int32) bn337 bn349 kn337 kn349 (FB_mk p3) (FB_mk p3) kc Z349 fx430 fx431 fx432 fx433 (own_len3 _) Es349 Cs349 Fs349 As349 (own_len3 _) (S_cs.ext EX349) hkc (vm0 := T349.vm) X349 hx hZ hby hml hown hret (by first | assumption | exact BodyLoose.notSynchronized (by assumption)) rfl N349 hS349 (Nat.le_refl _) (CHr.refl CHn349.1)
                  refine ⟨s₂, _, pre434 _ h1₂, h2₂, h3₂, v₂, L₂, rfl, ⟨?_, N₂, trivial⟩, hE₂⟩
                  rw [hv₂, F_segb, if_neg hc68_339, if_neg hc86_351, if_neg hc101_365, if_neg hc116_379, if_neg hc131_393, if_neg hc146_407, if_pos hc162_421, if_neg hc317_423]
              · have fx435 := (Es337.ext E349)
                have fx436 := (Cs337.ext E349)
                have fx437 := (Fs337.ext E349)
                have fx438 := (As337.ext E349)
                have pre439 : ∀ t, Steps p.tables e below (T349.setTop (mkF m 333 #[.val (.long q0), .second, .val (.long q1), .second, .val (.int ic0), .val (.int p3), .val (.int p4), .val (.int p5), .val (.int rw0), .val (.int cl0), .val (.int mw0), .val (.int mh0), .val (.int fl0), .val (.int sel), .val (.int alt), .val (.ref r337), .val (.ref r349), .val (.int rw0), .val (.int cl0), .val (.int mw0), .val (.int mh0), .val (.int ic0), .val (.int fl0), .val (.int (1 : Int32)), .unset, .unset] [])) t → Steps p.tables e below (T0.setTop (mkF m 59 #[.val (.long q0), .second, .val (.long q1), .second, .val (.int ic0), .val (.int p3), .val (.int p4), .val (.int p5), .val (.int rw0), .val (.int cl0), .val (.int mw0), .val (.int mh0), .val (.int fl0), .val (.int sel), .val (.int alt), .unset, .unset, .unset, .unset, .unset, .unset, .unset, .unset, .unset, .unset, .unset] [])) t := fun t k => pre422 t (by
                  refine XS.icmpYes X349.here hx rfl (pc0 := 162) (pc' := 170) rfl (hb hby at_162) rfl (feq hc162_421).2 (by decide) (by decide) ?_
                  refine XS.iload X349.here hx rfl (hb hby at_170) rfl ?_
                  refine XS.istore X349.here hx rfl (hb hby at_172) rfl (l' := #[.val (.long q0), .second, .val (.long q1), .second, .val (.int ic0), .val (.int p3), .val (.int p4), .val (.int p5), .val (.int rw0), .val (.int cl0), .val (.int mw0), .val (.int mh0), .val (.int fl0), .val (.int sel), .val (.int alt), .val (.ref r337), .val (.ref r349), .val (.int rw0), .val (.int cl0), .val (.int mw0), .val (.int mh0), .val (.int ic0), .val (.int fl0), .unset, .unset, .unset]) rfl ?_
                  refine XS.iload X349.here hx rfl (hb hby at_174) rfl ?_
                  refine XS.ifYes X349.here hx rfl (pc0 := 176) (pc' := 191) rfl (hb hby at_176) rfl ((if0 _ _).trans (feq hc68_339).2) (by decide) (by decide) ?_
                  refine XS.iload X349.here hx rfl (hb hby at_191) rfl ?_
                  refine XS.iconst X349.here hx rfl (hb hby at_193) ?_
                  refine XS.icmpYes X349.here hx rfl (pc0 := 194) (pc' := 214) rfl (hb hby at_194) rfl (feq hc86_351).2 (by decide) (by decide) ?_
                  refine XS.iload X349.here hx rfl (hb hby at_214) rfl ?_
                  refine XS.iconst X349.here hx rfl (hb hby at_216) ?_
                  refine XS.icmpYes X349.here hx rfl (pc0 := 217) (pc' := 237) rfl (hb hby at_217) rfl (feq hc101_365).2 (by decide) (by decide) ?_
                  refine XS.iload X349.here hx rfl (hb hby at_237) rfl ?_
                  refine XS.iconst X349.here hx rfl (hb hby at_239) ?_
                  refine XS.icmpYes X349.here hx rfl (pc0 := 240) (pc' := 260) rfl (hb hby at_240) rfl (feq hc116_379).2 (by decide) (by decide) ?_
                  refine XS.iload X349.here hx rfl (hb hby at_260) rfl ?_
                  refine XS.iconst X349.here hx rfl (hb hby at_262) ?_
                  refine XS.icmpYes X349.here hx rfl (pc0 := 263) (pc' := 283) rfl (hb hby at_263) rfl (feq hc131_393).2 (by decide) (by decide) ?_
                  refine XS.iload X349.here hx rfl (hb hby at_283) rfl ?_
                  refine XS.iconst X349.here hx rfl (hb hby at_285) ?_
                  refine XS.icmpYes X349.here hx rfl (pc0 := 286) (pc' := 306) rfl (hb hby at_286) rfl (feq hc146_407).2 (by decide) (by decide) ?_
                  refine XS.iload X349.here hx rfl (hb hby at_306) rfl ?_
                  refine XS.bipush X349.here hx rfl (hb hby at_308) ?_
                  refine XS.icmpYes X349.here hx rfl (pc0 := 310) (pc' := 330) rfl (hb hby at_310) rfl (feq hc162_421).2 (by decide) (by decide) ?_
                  refine XS.iconst X349.here hx rfl (hb hby at_330) ?_
                  refine XS.istore X349.here hx rfl (hb hby at_331) rfl (l' := #[.val (.long q0), .second, .val (.long q1), .second, .val (.int ic0), .val (.int p3), .val (.int p4), .val (.int p5), .val (.int rw0), .val (.int cl0), .val (.int mw0), .val (.int mh0), .val (.int fl0), .val (.int sel), .val (.int alt), .val (.ref r337), .val (.ref r349), .val (.int rw0), .val (.int cl0), .val (.int mw0), .val (.int mh0), .val (.int ic0), .val (.int fl0), .val (.int (1 : Int32)), .unset, .unset]) rfl ?_
                  exact k)
                obtain ⟨s₂, o₂, h1₂, h2₂, h3₂, v₂, L₂, rfl, ⟨hv₂, N₂, -⟩, hE₂⟩ := sg_seg (l := l) (s := s) hw q0 q1 ic0 p3 p4 p5 rw0 cl0 mw0 mh0 fl0 sel alt r337 r349 rw0 cl0 mw0 mh0 ic0 fl0 (1 : Int32) bn337 bn349 kn337 kn349 (FB_mk p3) (FB_mk p3) kc Z349 fx435 fx436 fx437 fx438 (own_len3 _) Es349 Cs349 Fs349 As349 (own_len3 _) (S_cs.ext EX349) hkc (vm0 := T349.vm) X349 hx hZ hby hml hown hret (by first | assumption | exact BodyLoose.notSynchronized (by assumption)) rfl N349 hS349 (Nat.le_refl _) (CHr.refl CHn349.1)
                refine ⟨s₂, _, pre439 _ h1₂, h2₂, h3₂, v₂, L₂, rfl, ⟨?_, N₂, trivial⟩, hE₂⟩
                rw [hv₂, F_segb, if_neg hc68_339, if_neg hc86_351, if_neg hc101_365, if_neg hc116_379, if_neg hc131_393, if_neg hc146_407, if_neg hc162_421]
def F_law (q0 : Int64) (q1 : Int64) (p2 : Int32) (p3 : Int32) (p4 : Int32) (p5 : Int32) : Int32 := (if (p4 &&& (1 : Int32)) = (0 : Int32) then (if (p5 &&& (1 : Int32)) = (0 : Int32) then (F_segb p2 p3 p5 (((q0.toUInt64 >>> ((32 : Int32) &&& 0x3f).toInt64.toUInt64).toInt64).toInt32) (q0.toInt32) (((q1.toUInt64 >>> ((32 : Int32) &&& 0x3f).toInt64.toUInt64).toInt64).toInt32) (q1.toInt32) (0 : Int32) (((p4.toUInt32 >>> ((1 : Int32) &&& 31).toUInt32).toInt32) &&& (7 : Int32)) (0 : Int32)) else (F_segb p2 p3 p5 (((q0.toUInt64 >>> ((32 : Int32) &&& 0x3f).toInt64.toUInt64).toInt64).toInt32) (q0.toInt32) (((q1.toUInt64 >>> ((32 : Int32) &&& 0x3f).toInt64.toUInt64).toInt64).toInt32) (q1.toInt32) (0 : Int32) (((p4.toUInt32 >>> ((1 : Int32) &&& 31).toUInt32).toInt32) &&& (7 : Int32)) (1 : Int32))) else (if (p5 &&& (1 : Int32)) = (0 : Int32) then (F_segb p2 p3 p5 (((q0.toUInt64 >>> ((32 : Int32) &&& 0x3f).toInt64.toUInt64).toInt64).toInt32) (q0.toInt32) (((q1.toUInt64 >>> ((32 : Int32) &&& 0x3f).toInt64.toUInt64).toInt64).toInt32) (q1.toInt32) (1 : Int32) (((p4.toUInt32 >>> ((1 : Int32) &&& 31).toUInt32).toInt32) &&& (7 : Int32)) (0 : Int32)) else (F_segb p2 p3 p5 (((q0.toUInt64 >>> ((32 : Int32) &&& 0x3f).toInt64.toUInt64).toInt64).toInt32) (q0.toInt32) (((q1.toUInt64 >>> ((32 : Int32) &&& 0x3f).toInt64.toUInt64).toInt64).toInt32) (q1.toInt32) (1 : Int32) (((p4.toUInt32 >>> ((1 : Int32) &&& 31).toUInt32).toInt32) &&& (7 : Int32)) (1 : Int32))))
theorem own_ef_law (m : MethodId) (q0 : Int64) (q1 : Int64) (p2 : Int32) (p3 : Int32) (p4 : Int32) (p5 : Int32) : entryFrame m #[(.long q0), (.long q1), (.int p2), (.int p3), (.int p4), (.int p5)] maxLocals = mkF m 0 #[.val (.long q0), .second, .val (.long q1), .second, .val (.int p2), .val (.int p3), .val (.int p4), .val (.int p5), .unset, .unset, .unset, .unset, .unset, .unset, .unset, .unset, .unset, .unset, .unset, .unset, .unset, .unset, .unset, .unset, .unset, .unset] [] := by first | (simp [entryFrame, mkF, argsToLocals, Value.category, maxLocals]; done) | rfl
def Q_law (Z : State) (q0 : Int64) (q1 : Int64) (p2 : Int32) (p3 : Int32) (p4 : Int32) (p5 : Int32) (kc : Int32) (h0 : Heap) (n0 : Nat) (v : Option Value) (h : Heap) (L : List Loc) : Prop := v = some (.int (F_law q0 q1 p2 p3 p4 p5)) ∧ Fr n0 L ∧ True
set_option maxRecDepth 65536 in
set_option maxHeartbeats 40000000 in
theorem rm_law (l : Launch) (Z : State) (a0' : Array Value) (hw : ∀ d ∈ tables_1, d.before a0' Z = true) (ws : List Jvm.Cond) (q0 : Int64) (q1 : Int64) (p2 : Int32) (p3 : Int32) (p4 : Int32) (p5 : Int32) (kc : Int32) (h0 : Heap) (n0 : Nat) (Z0 : n0 ≤ h0.size) (S_cs : Sta Z h0 "java/lang/String" "COMPACT_STRINGS" "Z" (.int kc)) (hkc : ¬ (kc = (0 : Int32))) :
    MetFree l x (head1 (Jvm.Cond.code x code maxLocals ret :: ws) room_1) (fun a U => a = #[(.long q0), (.long q1), (.int p2), (.int p3), (.int p4), (.int p5)] ∧ Z.Warmed39 U.vm ∧ U.heap = h0 ∧ CHv Z own_EL U.vm h0 ∧ ∀ x ∈ ([] : List Addr), Safe Z own_EL U.vm h0 x) (fun _ _ _ _ _ => True) (fun _ U o U' => ∃ v L, o = .returned v ∧ Q_law Z q0 q1 p2 p3 p4 p5 kc h0 n0 v U'.heap L ∧ ReturnedEndW U o U' L room_1.cells room_1.slots) := by
  refine MetFree.of_bodySF (plainFor_of_name own_pn2) hisR ?_
  intro p e s m args below meth c s₁ Bd hml0 hP hK
  obtain ⟨rfl, hZ, hh, hCH, hSf⟩ := hP
  have hx := Bd.exec
  have hby := Bd.bytes
  have hml : c.maxLocals = 26 := hml0
  have hown : s.vm.findClass "com/example/entry_to_apps/entrytoapps/GridProfileEqualsPinLaw" = some m.cls := findClass_of_methodNamed Bd.named
  have hnm := (name_of_methodNamed Bd.named Bd.method).1
  have X0 : Stand p l e room_1 s m #[(.long q0), (.long q1), (.int p2), (.int p3), (.int p4), (.int p5)] below meth c s₁ [] 0 0 := Stand.of_body Bd
  have e0 : s₁.heap = h0 := by rw [← hh, Bd.state]; rfl
  have N0 := Fr.nil n0
  have pre0 : ∀ t, Steps p.tables e below (s₁.setTop (mkF m 0 #[.val (.long q0), .second, .val (.long q1), .second, .val (.int p2), .val (.int p3), .val (.int p4), .val (.int p5), .unset, .unset, .unset, .unset, .unset, .unset, .unset, .unset, .unset, .unset, .unset, .unset, .unset, .unset, .unset, .unset, .unset, .unset] [])) t → Steps p.tables e below (s₁.setTop (entryFrame m #[(.long q0), (.long q1), (.int p2), (.int p3), (.int p4), (.int p5)] maxLocals)) t := fun t k => castTop (own_ef_law m q0 q1 p2 p3 p4 p5) k
  have CH0 : CHr Z own_EL s.vm h0 s.vm h0 := CHr.refl hCH
  have hEW := own_EW hw
  have hS0 : s.Since s.vm 0 := (State.WarmedH.refl s).since 0
  have hk0 : 0 ≤ h0.size := Nat.zero_le _
  have pre441 : ∀ t, Steps p.tables e below (s₁.setTop (mkF m 26 #[.val (.long q0), .second, .val (.long q1), .second, .val (.int p2), .val (.int p3), .val (.int p4), .val (.int p5), .val (.int (((q0.toUInt64 >>> ((32 : Int32) &&& 0x3f).toInt64.toUInt64).toInt64).toInt32)), .val (.int (q0.toInt32)), .val (.int (((q1.toUInt64 >>> ((32 : Int32) &&& 0x3f).toInt64.toUInt64).toInt64).toInt32)), .val (.int (q1.toInt32)), .unset, .unset, .unset, .unset, .unset, .unset, .unset, .unset, .unset, .unset, .unset, .unset, .unset, .unset] [(.int (p4 &&& (1 : Int32)))])) t → Steps p.tables e below (s₁.setTop (entryFrame m #[(.long q0), (.long q1), (.int p2), (.int p3), (.int p4), (.int p5)] maxLocals)) t := fun t k => pre0 t (by
    refine XS.lloadN X0.here hx rfl (hb hby at_0) rfl ?_
    refine XS.bipush X0.here hx rfl (hb hby at_1) ?_
    refine XS.lushr X0.here hx rfl (hb hby at_3) rfl ?_
    refine XS.l2i X0.here hx rfl (hb hby at_4) rfl ?_
    refine XS.istore X0.here hx rfl (hb hby at_5) rfl (l' := #[.val (.long q0), .second, .val (.long q1), .second, .val (.int p2), .val (.int p3), .val (.int p4), .val (.int p5), .val (.int (((q0.toUInt64 >>> ((32 : Int32) &&& 0x3f).toInt64.toUInt64).toInt64).toInt32)), .unset, .unset, .unset, .unset, .unset, .unset, .unset, .unset, .unset, .unset, .unset, .unset, .unset, .unset, .unset, .unset, .unset]) rfl ?_
    refine XS.lloadN X0.here hx rfl (hb hby at_7) rfl ?_
    refine XS.l2i X0.here hx rfl (hb hby at_8) rfl ?_
    refine XS.istore X0.here hx rfl (hb hby at_9) rfl (l' := #[.val (.long q0), .second, .val (.long q1), .second, .val (.int p2), .val (.int p3), .val (.int p4), .val (.int p5), .val (.int (((q0.toUInt64 >>> ((32 : Int32) &&& 0x3f).toInt64.toUInt64).toInt64).toInt32)), .val (.int (q0.toInt32)), .unset, .unset, .unset, .unset, .unset, .unset, .unset, .unset, .unset, .unset, .unset, .unset, .unset, .unset, .unset, .unset]) rfl ?_
    refine XS.lloadN X0.here hx rfl (hb hby at_11) rfl ?_
    refine XS.bipush X0.here hx rfl (hb hby at_12) ?_
    refine XS.lushr X0.here hx rfl (hb hby at_14) rfl ?_
    refine XS.l2i X0.here hx rfl (hb hby at_15) rfl ?_
    refine XS.istore X0.here hx rfl (hb hby at_16) rfl (l' := #[.val (.long q0), .second, .val (.long q1), .second, .val (.int p2), .val (.int p3), .val (.int p4), .val (.int p5), .val (.int (((q0.toUInt64 >>> ((32 : Int32) &&& 0x3f).toInt64.toUInt64).toInt64).toInt32)), .val (.int (q0.toInt32)), .val (.int (((q1.toUInt64 >>> ((32 : Int32) &&& 0x3f).toInt64.toUInt64).toInt64).toInt32)), .unset, .unset, .unset, .unset, .unset, .unset, .unset, .unset, .unset, .unset, .unset, .unset, .unset, .unset, .unset]) rfl ?_
    refine XS.lloadN X0.here hx rfl (hb hby at_18) rfl ?_
    refine XS.l2i X0.here hx rfl (hb hby at_19) rfl ?_
    refine XS.istore X0.here hx rfl (hb hby at_20) rfl (l' := #[.val (.long q0), .second, .val (.long q1), .second, .val (.int p2), .val (.int p3), .val (.int p4), .val (.int p5), .val (.int (((q0.toUInt64 >>> ((32 : Int32) &&& 0x3f).toInt64.toUInt64).toInt64).toInt32)), .val (.int (q0.toInt32)), .val (.int (((q1.toUInt64 >>> ((32 : Int32) &&& 0x3f).toInt64.toUInt64).toInt64).toInt32)), .val (.int (q1.toInt32)), .unset, .unset, .unset, .unset, .unset, .unset, .unset, .unset, .unset, .unset, .unset, .unset, .unset, .unset]) rfl ?_
    refine XS.iload X0.here hx rfl (hb hby at_22) rfl ?_
    refine XS.iconst X0.here hx rfl (hb hby at_24) ?_
    refine XS.iand X0.here hx rfl (hb hby at_25) rfl ?_
    exact k)
  by_cases hc26_440 : (p4 &&& (1 : Int32)) = (0 : Int32)
  · have pre443 : ∀ t, Steps p.tables e below (s₁.setTop (mkF m 49 #[.val (.long q0), .second, .val (.long q1), .second, .val (.int p2), .val (.int p3), .val (.int p4), .val (.int p5), .val (.int (((q0.toUInt64 >>> ((32 : Int32) &&& 0x3f).toInt64.toUInt64).toInt64).toInt32)), .val (.int (q0.toInt32)), .val (.int (((q1.toUInt64 >>> ((32 : Int32) &&& 0x3f).toInt64.toUInt64).toInt64).toInt32)), .val (.int (q1.toInt32)), .val (.int (0 : Int32)), .val (.int (((p4.toUInt32 >>> ((1 : Int32) &&& 31).toUInt32).toInt32) &&& (7 : Int32))), .unset, .unset, .unset, .unset, .unset, .unset, .unset, .unset, .unset, .unset, .unset, .unset] [(.int (p5 &&& (1 : Int32)))])) t → Steps p.tables e below (s₁.setTop (entryFrame m #[(.long q0), (.long q1), (.int p2), (.int p3), (.int p4), (.int p5)] maxLocals)) t := fun t k => pre441 t (by
      refine XS.ifYes X0.here hx rfl (pc0 := 26) (pc' := 33) rfl (hb hby at_26) rfl ((if0 _ _).trans (teq hc26_440).1) (by decide) (by decide) ?_
      refine XS.iconst X0.here hx rfl (hb hby at_33) ?_
      refine XS.istore X0.here hx rfl (hb hby at_34) rfl (l' := #[.val (.long q0), .second, .val (.long q1), .second, .val (.int p2), .val (.int p3), .val (.int p4), .val (.int p5), .val (.int (((q0.toUInt64 >>> ((32 : Int32) &&& 0x3f).toInt64.toUInt64).toInt64).toInt32)), .val (.int (q0.toInt32)), .val (.int (((q1.toUInt64 >>> ((32 : Int32) &&& 0x3f).toInt64.toUInt64).toInt64).toInt32)), .val (.int (q1.toInt32)), .val (.int (0 : Int32)), .unset, .unset, .unset, .unset, .unset, .unset, .unset, .unset, .unset, .unset, .unset, .unset, .unset]) rfl ?_
      refine XS.iload X0.here hx rfl (hb hby at_36) rfl ?_
      refine XS.iconst X0.here hx rfl (hb hby at_38) ?_
      refine XS.iushr X0.here hx rfl (hb hby at_39) rfl ?_
      refine XS.bipush X0.here hx rfl (hb hby at_40) ?_
      refine XS.iand X0.here hx rfl (hb hby at_42) rfl ?_
      refine XS.istore X0.here hx rfl (hb hby at_43) rfl (l' := #[.val (.long q0), .second, .val (.long q1), .second, .val (.int p2), .val (.int p3), .val (.int p4), .val (.int p5), .val (.int (((q0.toUInt64 >>> ((32 : Int32) &&& 0x3f).toInt64.toUInt64).toInt64).toInt32)), .val (.int (q0.toInt32)), .val (.int (((q1.toUInt64 >>> ((32 : Int32) &&& 0x3f).toInt64.toUInt64).toInt64).toInt32)), .val (.int (q1.toInt32)), .val (.int (0 : Int32)), .val (.int (((p4.toUInt32 >>> ((1 : Int32) &&& 31).toUInt32).toInt32) &&& (7 : Int32))), .unset, .unset, .unset, .unset, .unset, .unset, .unset, .unset, .unset, .unset, .unset, .unset]) rfl ?_
      refine XS.iload X0.here hx rfl (hb hby at_45) rfl ?_
      refine XS.iconst X0.here hx rfl (hb hby at_47) ?_
      refine XS.iand X0.here hx rfl (hb hby at_48) rfl ?_
      exact k)
    by_cases hc49_442 : (p5 &&& (1 : Int32)) = (0 : Int32)
    · have pre444 : ∀ t, Steps p.tables e below (s₁.setTop (mkF m 59 #[.val (.long q0), .second, .val (.long q1), .second, .val (.int p2), .val (.int p3), .val (.int p4), .val (.int p5), .val (.int (((q0.toUInt64 >>> ((32 : Int32) &&& 0x3f).toInt64.toUInt64).toInt64).toInt32)), .val (.int (q0.toInt32)), .val (.int (((q1.toUInt64 >>> ((32 : Int32) &&& 0x3f).toInt64.toUInt64).toInt64).toInt32)), .val (.int (q1.toInt32)), .val (.int (0 : Int32)), .val (.int (((p4.toUInt32 >>> ((1 : Int32) &&& 31).toUInt32).toInt32) &&& (7 : Int32))), .val (.int (0 : Int32)), .unset, .unset, .unset, .unset, .unset, .unset, .unset, .unset, .unset, .unset, .unset] [])) t → Steps p.tables e below (s₁.setTop (entryFrame m #[(.long q0), (.long q1), (.int p2), (.int p3), (.int p4), (.int p5)] maxLocals)) t := fun t k => pre443 t (by
        refine XS.ifYes X0.here hx rfl (pc0 := 49) (pc' := 56) rfl (hb hby at_49) rfl ((if0 _ _).trans (teq hc49_442).1) (by decide) (by decide) ?_
        refine XS.iconst X0.here hx rfl (hb hby at_56) ?_
        refine XS.istore X0.here hx rfl (hb hby at_57) rfl (l' := #[.val (.long q0), .second, .val (.long q1), .second, .val (.int p2), .val (.int p3), .val (.int p4), .val (.int p5), .val (.int (((q0.toUInt64 >>> ((32 : Int32) &&& 0x3f).toInt64.toUInt64).toInt64).toInt32)), .val (.int (q0.toInt32)), .val (.int (((q1.toUInt64 >>> ((32 : Int32) &&& 0x3f).toInt64.toUInt64).toInt64).toInt32)), .val (.int (q1.toInt32)), .val (.int (0 : Int32)), .val (.int (((p4.toUInt32 >>> ((1 : Int32) &&& 31).toUInt32).toInt32) &&& (7 : Int32))), .val (.int (0 : Int32)), .unset, .unset, .unset, .unset, .unset, .unset, .unset, .unset, .unset, .unset, .unset]) rfl ?_
        exact k)
      obtain ⟨s₂, o₂, h1₂, h2₂, h3₂, v₂, L₂, rfl, ⟨hv₂, N₂, -⟩, hE₂⟩ := sg_segb (l := l) (s := s) hw q0 q1 p2 p3 p4 p5 (((q0.toUInt64 >>> ((32 : Int32) &&& 0x3f).toInt64.toUInt64).toInt64).toInt32) (q0.toInt32) (((q1.toUInt64 >>> ((32 : Int32) &&& 0x3f).toInt64.toUInt64).toInt64).toInt32) (q1.toInt32) (0 : Int32) (((p4.toUInt32 >>> ((1 : Int32) &&& 31).toUInt32).toInt32) &&& (7 : Int32)) (0 : Int32) kc Z0 S_cs hkc (vm0 := s.vm) X0 hx hZ hby hml hown Bd.returns (by first | assumption | exact BodyLoose.notSynchronized (by assumption)) e0 N0 hS0 hk0 (CHr.refl CH0.1)
      refine ⟨s₂, _, pre444 _ h1₂, h2₂, h3₂, v₂, L₂, rfl, ⟨?_, N₂, trivial⟩, hE₂⟩
      rw [hv₂, F_law, if_pos hc26_440, if_pos hc49_442]
    · have pre445 : ∀ t, Steps p.tables e below (s₁.setTop (mkF m 59 #[.val (.long q0), .second, .val (.long q1), .second, .val (.int p2), .val (.int p3), .val (.int p4), .val (.int p5), .val (.int (((q0.toUInt64 >>> ((32 : Int32) &&& 0x3f).toInt64.toUInt64).toInt64).toInt32)), .val (.int (q0.toInt32)), .val (.int (((q1.toUInt64 >>> ((32 : Int32) &&& 0x3f).toInt64.toUInt64).toInt64).toInt32)), .val (.int (q1.toInt32)), .val (.int (0 : Int32)), .val (.int (((p4.toUInt32 >>> ((1 : Int32) &&& 31).toUInt32).toInt32) &&& (7 : Int32))), .val (.int (1 : Int32)), .unset, .unset, .unset, .unset, .unset, .unset, .unset, .unset, .unset, .unset, .unset] [])) t → Steps p.tables e below (s₁.setTop (entryFrame m #[(.long q0), (.long q1), (.int p2), (.int p3), (.int p4), (.int p5)] maxLocals)) t := fun t k => pre443 t (by
        refine XS.ifNo X0.here hx rfl (hb hby at_49) rfl ((if0 _ _).trans (feq hc49_442).1) ?_
        refine XS.iconst X0.here hx rfl (hb hby at_52) ?_
        refine XS.goto X0.here hx rfl (pc0 := 53) (pc' := 57) rfl (hb hby at_53) (by decide) (by decide) ?_
        refine XS.istore X0.here hx rfl (hb hby at_57) rfl (l' := #[.val (.long q0), .second, .val (.long q1), .second, .val (.int p2), .val (.int p3), .val (.int p4), .val (.int p5), .val (.int (((q0.toUInt64 >>> ((32 : Int32) &&& 0x3f).toInt64.toUInt64).toInt64).toInt32)), .val (.int (q0.toInt32)), .val (.int (((q1.toUInt64 >>> ((32 : Int32) &&& 0x3f).toInt64.toUInt64).toInt64).toInt32)), .val (.int (q1.toInt32)), .val (.int (0 : Int32)), .val (.int (((p4.toUInt32 >>> ((1 : Int32) &&& 31).toUInt32).toInt32) &&& (7 : Int32))), .val (.int (1 : Int32)), .unset, .unset, .unset, .unset, .unset, .unset, .unset, .unset, .unset, .unset, .unset]) rfl ?_
        exact k)
      obtain ⟨s₂, o₂, h1₂, h2₂, h3₂, v₂, L₂, rfl, ⟨hv₂, N₂, -⟩, hE₂⟩ := sg_segb (l := l) (s := s) hw q0 q1 p2 p3 p4 p5 (((q0.toUInt64 >>> ((32 : Int32) &&& 0x3f).toInt64.toUInt64).toInt64).toInt32) (q0.toInt32) (((q1.toUInt64 >>> ((32 : Int32) &&& 0x3f).toInt64.toUInt64).toInt64).toInt32) (q1.toInt32) (0 : Int32) (((p4.toUInt32 >>> ((1 : Int32) &&& 31).toUInt32).toInt32) &&& (7 : Int32)) (1 : Int32) kc Z0 S_cs hkc (vm0 := s.vm) X0 hx hZ hby hml hown Bd.returns (by first | assumption | exact BodyLoose.notSynchronized (by assumption)) e0 N0 hS0 hk0 (CHr.refl CH0.1)
      refine ⟨s₂, _, pre445 _ h1₂, h2₂, h3₂, v₂, L₂, rfl, ⟨?_, N₂, trivial⟩, hE₂⟩
      rw [hv₂, F_law, if_pos hc26_440, if_neg hc49_442]
  · have pre447 : ∀ t, Steps p.tables e below (s₁.setTop (mkF m 49 #[.val (.long q0), .second, .val (.long q1), .second, .val (.int p2), .val (.int p3), .val (.int p4), .val (.int p5), .val (.int (((q0.toUInt64 >>> ((32 : Int32) &&& 0x3f).toInt64.toUInt64).toInt64).toInt32)), .val (.int (q0.toInt32)), .val (.int (((q1.toUInt64 >>> ((32 : Int32) &&& 0x3f).toInt64.toUInt64).toInt64).toInt32)), .val (.int (q1.toInt32)), .val (.int (1 : Int32)), .val (.int (((p4.toUInt32 >>> ((1 : Int32) &&& 31).toUInt32).toInt32) &&& (7 : Int32))), .unset, .unset, .unset, .unset, .unset, .unset, .unset, .unset, .unset, .unset, .unset, .unset] [(.int (p5 &&& (1 : Int32)))])) t → Steps p.tables e below (s₁.setTop (entryFrame m #[(.long q0), (.long q1), (.int p2), (.int p3), (.int p4), (.int p5)] maxLocals)) t := fun t k => pre441 t (by
      refine XS.ifNo X0.here hx rfl (hb hby at_26) rfl ((if0 _ _).trans (feq hc26_440).1) ?_
      refine XS.iconst X0.here hx rfl (hb hby at_29) ?_
      refine XS.goto X0.here hx rfl (pc0 := 30) (pc' := 34) rfl (hb hby at_30) (by decide) (by decide) ?_
      refine XS.istore X0.here hx rfl (hb hby at_34) rfl (l' := #[.val (.long q0), .second, .val (.long q1), .second, .val (.int p2), .val (.int p3), .val (.int p4), .val (.int p5), .val (.int (((q0.toUInt64 >>> ((32 : Int32) &&& 0x3f).toInt64.toUInt64).toInt64).toInt32)), .val (.int (q0.toInt32)), .val (.int (((q1.toUInt64 >>> ((32 : Int32) &&& 0x3f).toInt64.toUInt64).toInt64).toInt32)), .val (.int (q1.toInt32)), .val (.int (1 : Int32)), .unset, .unset, .unset, .unset, .unset, .unset, .unset, .unset, .unset, .unset, .unset, .unset, .unset]) rfl ?_
      refine XS.iload X0.here hx rfl (hb hby at_36) rfl ?_
      refine XS.iconst X0.here hx rfl (hb hby at_38) ?_
      refine XS.iushr X0.here hx rfl (hb hby at_39) rfl ?_
      refine XS.bipush X0.here hx rfl (hb hby at_40) ?_
      refine XS.iand X0.here hx rfl (hb hby at_42) rfl ?_
      refine XS.istore X0.here hx rfl (hb hby at_43) rfl (l' := #[.val (.long q0), .second, .val (.long q1), .second, .val (.int p2), .val (.int p3), .val (.int p4), .val (.int p5), .val (.int (((q0.toUInt64 >>> ((32 : Int32) &&& 0x3f).toInt64.toUInt64).toInt64).toInt32)), .val (.int (q0.toInt32)), .val (.int (((q1.toUInt64 >>> ((32 : Int32) &&& 0x3f).toInt64.toUInt64).toInt64).toInt32)), .val (.int (q1.toInt32)), .val (.int (1 : Int32)), .val (.int (((p4.toUInt32 >>> ((1 : Int32) &&& 31).toUInt32).toInt32) &&& (7 : Int32))), .unset, .unset, .unset, .unset, .unset, .unset, .unset, .unset, .unset, .unset, .unset, .unset]) rfl ?_
      refine XS.iload X0.here hx rfl (hb hby at_45) rfl ?_
      refine XS.iconst X0.here hx rfl (hb hby at_47) ?_
      refine XS.iand X0.here hx rfl (hb hby at_48) rfl ?_
      exact k)
    by_cases hc49_446 : (p5 &&& (1 : Int32)) = (0 : Int32)
    · have pre448 : ∀ t, Steps p.tables e below (s₁.setTop (mkF m 59 #[.val (.long q0), .second, .val (.long q1), .second, .val (.int p2), .val (.int p3), .val (.int p4), .val (.int p5), .val (.int (((q0.toUInt64 >>> ((32 : Int32) &&& 0x3f).toInt64.toUInt64).toInt64).toInt32)), .val (.int (q0.toInt32)), .val (.int (((q1.toUInt64 >>> ((32 : Int32) &&& 0x3f).toInt64.toUInt64).toInt64).toInt32)), .val (.int (q1.toInt32)), .val (.int (1 : Int32)), .val (.int (((p4.toUInt32 >>> ((1 : Int32) &&& 31).toUInt32).toInt32) &&& (7 : Int32))), .val (.int (0 : Int32)), .unset, .unset, .unset, .unset, .unset, .unset, .unset, .unset, .unset, .unset, .unset] [])) t → Steps p.tables e below (s₁.setTop (entryFrame m #[(.long q0), (.long q1), (.int p2), (.int p3), (.int p4), (.int p5)] maxLocals)) t := fun t k => pre447 t (by
        refine XS.ifYes X0.here hx rfl (pc0 := 49) (pc' := 56) rfl (hb hby at_49) rfl ((if0 _ _).trans (teq hc49_446).1) (by decide) (by decide) ?_
        refine XS.iconst X0.here hx rfl (hb hby at_56) ?_
        refine XS.istore X0.here hx rfl (hb hby at_57) rfl (l' := #[.val (.long q0), .second, .val (.long q1), .second, .val (.int p2), .val (.int p3), .val (.int p4), .val (.int p5), .val (.int (((q0.toUInt64 >>> ((32 : Int32) &&& 0x3f).toInt64.toUInt64).toInt64).toInt32)), .val (.int (q0.toInt32)), .val (.int (((q1.toUInt64 >>> ((32 : Int32) &&& 0x3f).toInt64.toUInt64).toInt64).toInt32)), .val (.int (q1.toInt32)), .val (.int (1 : Int32)), .val (.int (((p4.toUInt32 >>> ((1 : Int32) &&& 31).toUInt32).toInt32) &&& (7 : Int32))), .val (.int (0 : Int32)), .unset, .unset, .unset, .unset, .unset, .unset, .unset, .unset, .unset, .unset, .unset]) rfl ?_
        exact k)
      obtain ⟨s₂, o₂, h1₂, h2₂, h3₂, v₂, L₂, rfl, ⟨hv₂, N₂, -⟩, hE₂⟩ := sg_segb (l := l) (s := s) hw q0 q1 p2 p3 p4 p5 (((q0.toUInt64 >>> ((32 : Int32) &&& 0x3f).toInt64.toUInt64).toInt64).toInt32) (q0.toInt32) (((q1.toUInt64 >>> ((32 : Int32) &&& 0x3f).toInt64.toUInt64).toInt64).toInt32) (q1.toInt32) (1 : Int32) (((p4.toUInt32 >>> ((1 : Int32) &&& 31).toUInt32).toInt32) &&& (7 : Int32)) (0 : Int32) kc Z0 S_cs hkc (vm0 := s.vm) X0 hx hZ hby hml hown Bd.returns (by first | assumption | exact BodyLoose.notSynchronized (by assumption)) e0 N0 hS0 hk0 (CHr.refl CH0.1)
      refine ⟨s₂, _, pre448 _ h1₂, h2₂, h3₂, v₂, L₂, rfl, ⟨?_, N₂, trivial⟩, hE₂⟩
      rw [hv₂, F_law, if_neg hc26_440, if_pos hc49_446]
    · have pre449 : ∀ t, Steps p.tables e below (s₁.setTop (mkF m 59 #[.val (.long q0), .second, .val (.long q1), .second, .val (.int p2), .val (.int p3), .val (.int p4), .val (.int p5), .val (.int (((q0.toUInt64 >>> ((32 : Int32) &&& 0x3f).toInt64.toUInt64).toInt64).toInt32)), .val (.int (q0.toInt32)), .val (.int (((q1.toUInt64 >>> ((32 : Int32) &&& 0x3f).toInt64.toUInt64).toInt64).toInt32)), .val (.int (q1.toInt32)), .val (.int (1 : Int32)), .val (.int (((p4.toUInt32 >>> ((1 : Int32) &&& 31).toUInt32).toInt32) &&& (7 : Int32))), .val (.int (1 : Int32)), .unset, .unset, .unset, .unset, .unset, .unset, .unset, .unset, .unset, .unset, .unset] [])) t → Steps p.tables e below (s₁.setTop (entryFrame m #[(.long q0), (.long q1), (.int p2), (.int p3), (.int p4), (.int p5)] maxLocals)) t := fun t k => pre447 t (by
        refine XS.ifNo X0.here hx rfl (hb hby at_49) rfl ((if0 _ _).trans (feq hc49_446).1) ?_
        refine XS.iconst X0.here hx rfl (hb hby at_52) ?_
        refine XS.goto X0.here hx rfl (pc0 := 53) (pc' := 57) rfl (hb hby at_53) (by decide) (by decide) ?_
        refine XS.istore X0.here hx rfl (hb hby at_57) rfl (l' := #[.val (.long q0), .second, .val (.long q1), .second, .val (.int p2), .val (.int p3), .val (.int p4), .val (.int p5), .val (.int (((q0.toUInt64 >>> ((32 : Int32) &&& 0x3f).toInt64.toUInt64).toInt64).toInt32)), .val (.int (q0.toInt32)), .val (.int (((q1.toUInt64 >>> ((32 : Int32) &&& 0x3f).toInt64.toUInt64).toInt64).toInt32)), .val (.int (q1.toInt32)), .val (.int (1 : Int32)), .val (.int (((p4.toUInt32 >>> ((1 : Int32) &&& 31).toUInt32).toInt32) &&& (7 : Int32))), .val (.int (1 : Int32)), .unset, .unset, .unset, .unset, .unset, .unset, .unset, .unset, .unset, .unset, .unset]) rfl ?_
        exact k)
      obtain ⟨s₂, o₂, h1₂, h2₂, h3₂, v₂, L₂, rfl, ⟨hv₂, N₂, -⟩, hE₂⟩ := sg_segb (l := l) (s := s) hw q0 q1 p2 p3 p4 p5 (((q0.toUInt64 >>> ((32 : Int32) &&& 0x3f).toInt64.toUInt64).toInt64).toInt32) (q0.toInt32) (((q1.toUInt64 >>> ((32 : Int32) &&& 0x3f).toInt64.toUInt64).toInt64).toInt32) (q1.toInt32) (1 : Int32) (((p4.toUInt32 >>> ((1 : Int32) &&& 31).toUInt32).toInt32) &&& (7 : Int32)) (1 : Int32) kc Z0 S_cs hkc (vm0 := s.vm) X0 hx hZ hby hml hown Bd.returns (by first | assumption | exact BodyLoose.notSynchronized (by assumption)) e0 N0 hS0 hk0 (CHr.refl CH0.1)
      refine ⟨s₂, _, pre449 _ h1₂, h2₂, h3₂, v₂, L₂, rfl, ⟨?_, N₂, trivial⟩, hE₂⟩
      rw [hv₂, F_law, if_neg hc26_440, if_neg hc49_446]
theorem own_bt (y z : Int32) (hy : 0 ≤ y.toInt ∧ y.toInt < 256) (hz : 0 ≤ z.toInt ∧ z.toInt < 256) : (nar .byte (y.toInt8.toInt32) = nar .byte (z.toInt8.toInt32)) ↔ y = z := by
  constructor
  · intro h
    have h2 := congrArg Int32.toInt h
    simp only [nar, Int8.toInt_toInt32, Int32.toInt_toInt8] at h2
    rw [← Int32.toInt_inj]
    simp only [Int.bmod_def] at h2
    omega
  · intro h; rw [h]
theorem own_m3 (x : Int32) : (x &&& (3 : Int32)) = 0 ∨ (x &&& (3 : Int32)) = 1 ∨ (x &&& (3 : Int32)) = 2 ∨ (x &&& (3 : Int32)) = 3 := by
  have e1 : (x &&& (3 : Int32)).toInt = x.toInt % 2 ^ 2 := Jvm.Kit.i32_mask x 3 (k := 2) (by decide) (by decide)
  simp only [← Int32.toInt_inj]
  have c0 : (0 : Int32).toInt = 0 := by decide
  have c1 : (1 : Int32).toInt = 1 := by decide
  have c2 : (2 : Int32).toInt = 2 := by decide
  have c3 : (3 : Int32).toInt = 3 := by decide
  simp only [c0, c1, c2, c3]
  omega
theorem own_seqsame (x y : Int32) : F_seq (FB_mk x) (FB_mk y) = F_same x y := by
  unfold F_seq FB_mk F_same
  simp only [own_cc]
  have b0 := own_bt _ _ (own_m255 x) (own_m255 y)
  have b1 := own_bt _ _ (own_m255 ((x.toUInt32 >>> ((8 : Int32) &&& 31).toUInt32).toInt32)) (own_m255 ((y.toUInt32 >>> ((8 : Int32) &&& 31).toUInt32).toInt32))
  have b2 := own_bt _ _ (own_m255 ((x.toUInt32 >>> ((24 : Int32) &&& 31).toUInt32).toInt32)) (own_m255 ((y.toUInt32 >>> ((24 : Int32) &&& 31).toUInt32).toInt32))
  have n0 := own_m3 ((x.toUInt32 >>> ((16 : Int32) &&& 31).toUInt32).toInt32)
  have n1 := own_m3 ((y.toUInt32 >>> ((16 : Int32) &&& 31).toUInt32).toInt32)
  generalize ((x.toUInt32 >>> ((16 : Int32) &&& 31).toUInt32).toInt32) &&& (3 : Int32) = m at *
  generalize ((y.toUInt32 >>> ((16 : Int32) &&& 31).toUInt32).toInt32) &&& (3 : Int32) = n at *
  generalize (x &&& (255 : Int32)) = xa at *
  generalize (y &&& (255 : Int32)) = ya at *
  generalize ((x.toUInt32 >>> ((8 : Int32) &&& 31).toUInt32).toInt32 &&& (255 : Int32)) = xb at *
  generalize ((y.toUInt32 >>> ((8 : Int32) &&& 31).toUInt32).toInt32 &&& (255 : Int32)) = yb at *
  generalize ((x.toUInt32 >>> ((24 : Int32) &&& 31).toUInt32).toInt32 &&& (255 : Int32)) = xc at *
  generalize ((y.toUInt32 >>> ((24 : Int32) &&& 31).toUInt32).toInt32 &&& (255 : Int32)) = yc at *
  rcases n0 with rfl | rfl | rfl | rfl <;> rcases n1 with rfl | rfl | rfl | rfl <;> simp [b0, b1, b2] <;> (repeat' split) <;> simp_all
theorem own_seqsym (x y : Int32) : F_seq (FB_mk y) (FB_mk x) = F_same x y := by
  rw [← own_seqsame]; unfold F_seq; simp only [eq_comm]
theorem own_seqself (bs : List Int32) : F_seq bs bs = 1 := by simp [F_seq]
theorem own_seg1 (ic0 rw0 cl0 mw0 mh0 fl0 rw1 cl1 mw1 mh1 ic1 fl1 xp : Int32) (bs0 bs1 : List Int32) (h1 : F_gpe bs0 bs1 rw0 cl0 mw0 mh0 ic0 (nar .boolean fl0) rw1 cl1 mw1 mh1 ic1 (nar .boolean fl1) = xp) (h2 : F_gpe bs1 bs0 rw1 cl1 mw1 mh1 ic1 (nar .boolean fl1) rw0 cl0 mw0 mh0 ic0 (nar .boolean fl0) = xp) : F_seg ic0 rw0 cl0 mw0 mh0 fl0 rw1 cl1 mw1 mh1 ic1 fl1 xp bs0 bs1 = 1 := by
  unfold F_seg
  rw [h1, h2]
  simp [F_gpe, own_seqself]
theorem own_bool {a b : Int32} (ha : a = 0 ∨ a = 1) (hb : b = 0 ∨ b = 1) : (nar .boolean a = nar .boolean b) ↔ a = b := by
  rcases ha with rfl | rfl <;> rcases hb with rfl | rfl <;> decide
theorem own_01 (x y : Int32) : F_same x y = 0 ∨ F_same x y = 1 := by
  rw [← own_seqsame]; unfold F_seq; split <;> simp
theorem own_segb (ic0 p3 p5 rw0 cl0 mw0 mh0 fl0 sel alt : Int32) (hf : fl0 = 0 ∨ fl0 = 1) (ha : alt = 0 ∨ alt = 1) : F_segb ic0 p3 p5 rw0 cl0 mw0 mh0 fl0 sel alt = 1 := by
  have hb := own_bool hf ha
  have hb' := own_bool ha hf
  unfold F_segb
  split
  · refine own_seg1 _ _ _ _ _ _ _ _ _ _ _ _ _ _ _ ?_ ?_
    · simp only [F_gpe, own_seqsame p3 p5, if_true]
      rcases own_01 p3 p5 with h | h <;> simp [h]
    · simp only [F_gpe, own_seqsym p3 p5, if_true]
      rcases own_01 p3 p5 with h | h <;> simp [h]
  · repeat' split
    all_goals refine own_seg1 _ _ _ _ _ _ _ _ _ _ _ _ _ _ _ ?_ ?_
    all_goals (simp only [F_gpe, own_seqself]; simp_all [eq_comm])
theorem own_law (q0 q1 : Int64) (p2 p3 p4 p5 : Int32) : F_law q0 q1 p2 p3 p4 p5 = 1 := by
  unfold F_law
  repeat' split
  all_goals exact own_segb _ _ _ _ _ _ _ _ _ _ (by decide) (by decide)

set_option maxRecDepth 65536 in
set_option maxHeartbeats 40000000 in
theorem own_comes {Post : Tables → Env → Array Value → State → Outcome → State → Prop} (hpost : ∀ tb e args s v u, (limb_1_1.after args s (.returned v) u = true ∧ limb_1_2.after args s (.returned v) u = true ∧ True) → ReturnedEndW s (.returned v) u (Jvm.fieldLocs frame_1_writes args s ++ Jvm.arrayLocs frame_1_arrays args s ++ Jvm.staticLocs frame_1_statics s) 32 1216 → Post tb e args s (.returned v) u) :
    ArmFor flags0 classFile x code maxLocals ret World_1 tables_1 room_1 Calls_1 rest_1 Pre_1 Post := by
  intro l hfl _ _ p e ha hc hk s m args below hf hA hF happ hP
  obtain ⟨hcalls, hrest, hpre⟩ := hP
  obtain ⟨-, -, -, hnamed, -, -, -, hat⟩ := (Spec.applies_iff hf).mp happ
  obtain ⟨hg, hn⟩ := and_e (Cond.before_iff.mp (show (Jvm.Cond.and given_1 narrow_1).before args s = true from hpre))
  obtain ⟨g1, g1'⟩ := and_e hg
  obtain ⟨g2, g2'⟩ := and_e g1'
  obtain ⟨g3, g3'⟩ := and_e g2'
  obtain ⟨g4, g4'⟩ := and_e g3'
  obtain ⟨g5, g5'⟩ := and_e g4'
  obtain ⟨g6, g6'⟩ := and_e g5'
  obtain ⟨u0, u1, u2, u3, u4, u5, rfl⟩ : ∃ u0 u1 u2 u3 u4 u5 : Value, args = #[u0, u1, u2, u3, u4, u5] := by
    have hs : args.size = 6 := by simpa [Cond.value, given_1] using g1
    obtain ⟨L⟩ := args
    match L, hs with
    | [u0, u1, u2, u3, u4, u5], _ => exact ⟨u0, u1, u2, u3, u4, u5, rfl⟩
  have hw := fun d (hd : d ∈ tables_1) => atoms_spec (ws := Jvm.Cond.code x code maxLocals ret :: tables_1) hat d (List.mem_cons_of_mem _ hd)
  obtain ⟨i0, ei0⟩ := isL_v g2
  obtain rfl : u0 = (.long i0) := Option.some.inj ei0
  obtain ⟨i1, ei1⟩ := isL_v g3
  obtain rfl : u1 = (.long i1) := Option.some.inj ei1
  obtain ⟨i2, ei2⟩ := is_v g4
  obtain rfl : u2 = (.int i2) := Option.some.inj ei2
  obtain ⟨i3, ei3⟩ := is_v g5
  obtain rfl : u3 = (.int i3) := Option.some.inj ei3
  obtain ⟨i4, ei4⟩ := is_v g6
  obtain rfl : u4 = (.int i4) := Option.some.inj ei4
  obtain ⟨i5, ei5⟩ := is_v g6'
  obtain rfl : u5 = (.int i5) := Option.some.inj ei5
  obtain ⟨hsets, hown0⟩ := atoms_of _ (rest_1_c_eq ▸ (show rest_1_c.before _ s = true from hrest))
  obtain ⟨kc, evk⟩ := is_v (Cond.before_iff.mp (hsets _ (List.mem_of_getElem? (i := 1) rfl)))
  have S_cs := Sta.start evk (Or.inl (hsets _ (List.mem_of_getElem? (i := 0) rfl)))
  have hcw : Jvm.Lit.compactW.before _ s = true := (hsets _ (List.mem_of_getElem? (i := 2) rfl))
  have hkc : ¬ (kc = (0 : Int32)) := gotF (Cond.eq_ints evk (Term.int_eval _)) (not_v (Cond.before_iff.mp (hsets _ (List.mem_of_getElem? (i := 2) rfl))))
  have hCHv : CHv s own_EL s.vm s.heap := CHv.start (own_EW hw) (fun p hp => hcalls.1 p hp) hcw (ow hw 19 rfl) (ow hw 5 rfl)
  have hlaw := own_law i0 i1 i2 i3 i4 i5
  obtain ⟨n, o, h1, h2, h3, v, L, rfl, ⟨hv, N, -⟩, hq⟩ := rm_law l s _ hw tables_1 i0 i1 i2 i3 i4 i5 kc s.heap s.heap.size (Nat.le_refl _) S_cs hkc p e ha hc hk s m _ below hf ((Spec.applies_iff_loose hf).mp happ).1 ⟨rfl, State.Warmed39.refl s, rfl, hCHv, all0⟩ trivial
  rw [hlaw] at hv
  subst hv
  refine ⟨n, _, h1, h2, h3, hpost _ _ _ _ _ _ ⟨Cond.after_iff.mpr rfl, Cond.after_iff.mpr (eq_i res_at (Term.int_eval (1)) rfl), trivial⟩ ⟨hq.1, hq.2.1, hq.2.2.1, (hq.2.2.2.sift fun y hy => Or.inr (N y hy)).mono (by decide) (by decide)⟩⟩
theorem main_1_1 : Claimed_1_1 := own_comes fun _ _ _ _ _ _ h hF => ⟨h.1, hF⟩
theorem main_1_2 : Claimed_1_2 := own_comes fun _ _ _ _ _ _ h hF => ⟨h.2.1, hF⟩
end Jvm.Pilot.@@N@@
namespace Jvm.Pilot.@@N@@
open Jvm Jvm.ClassFile Sem Op Lib Jvm.Free Jvm.Stand Jvm.Pilot.@@N@@.Jvm.D
/-! MADE BY PROGRAM (witnessworld.py) out of the Statement's table words and the real class files: 20 classes; the members and pool entries that the words name. The judged class is class 1, her method 3. -/
namespace start1
open Jvm.ClassFile
def u (s : String) : CpInfo := .utf8 (stringToUtf16 s)
/-- a pool by its gaps: so many unusable entries, then the entry; so many at the end -/
def gap : Nat → List CpInfo → List CpInfo
  | 0, r => r
  | n + 1, r => .unusable :: gap n r
def poolList (es : List (Nat × CpInfo)) (last : Nat) : List CpInfo := es.foldr (fun e r => gap e.1 (e.2 :: r)) (gap last [])
def pool (es : List (Nat × CpInfo)) (last : Nat) : Array CpInfo := ⟨poolList es last⟩
def fileOf (pool : Array CpInfo) (this : Nat) (attrs : Array Attribute := #[]) (ms : Array MethodInfo := #[]) (fl : Nat := 33) (sup : Nat := 0) (ifs : Array Nat := #[]) (fds : Array FieldInfo := #[]) : ClassFile where
  minorVersion := 0
  majorVersion := 65
  constantPool := pool
  accessFlags := fl
  thisClass := this
  superClass := sup
  interfaces := ifs
  fields := fds
  methods := ms
  attributes := attrs
def plain (name : String) (sup : Option ClassId) : Class where
  name := name
  kind := .ordinary
  loader := none
  accessFlags := 33
  super := sup
  interfaces := #[]
  cf := none
  fields := #[]
  methods := #[]
  instanceTypes := #[]
  staticTypes := #[]
  resolved := #[]
  callSites := []
  init := .initialized
  statics := none
  mirror := none

def pool0 : Array CpInfo := pool [(5, u "<init>"), (0, u "()V"), (1, .class_ 10), (1, u "java/lang/Object")] 113

def k0c0 : Code := { maxStack := 0, maxLocals := 1, code := object_method_1_code, exceptionTable := #[], attributes := #[] }
def k0m0 : Method := { name := "<init>", desc := "()V", sig := { parameters := [], returnType := none }, accessFlags := 1, code := some k0c0 }
/-- java/lang/Object -/
def k0 : Class := { plain "java/lang/Object" none with
  accessFlags := 33
  interfaces := #[]
  cf := some (fileOf pool0 8 #[] #[{ accessFlags := 1, nameIndex := 5, descriptorIndex := 6, attributes := #[] }] 33 0 #[] #[])
  fields := #[]
  methods := #[k0m0]
  instanceTypes := #[]
  staticTypes := #[]
  resolved := Array.replicate 124 none
  statics := none }

def pool1 : Array CpInfo := pool [(2, .class_ 4), (1, u "java/lang/Object"), (0, u "<init>"), (0, u "()V"), (0, .class_ 8), (0, u "java/lang/String"), (0, .methodref 7 10), (0, .nameAndType 5 11), (0, u "([C)V"), (0, .methodref 13 14), (0, .class_ 15), (0, .nameAndType 16 17), (0, u "com/example/entry_to_apps/entrytoapps/GridProfileEqualsPinLaw"), (0, u "mkName"), (0, u "(I)Ljava/lang/String;"), (0, .methodref 13 19), (0, .nameAndType 20 21), (0, u "sameName"), (0, u "(II)Z"), (0, .class_ 23), (0, u "com/example/entry_to_apps/entrytoapps/GridProfile"), (0, .methodref 22 25), (0, .nameAndType 5 26), (0, u "(Ljava/lang/String;IIIIIZ)V"), (0, .methodref 22 28), (0, .nameAndType 29 30), (0, u "equals"), (0, u "(Ljava/lang/Object;)Z"), (3, u "law"), (0, u "(JJIIII)Z")] 2

def k1m0 : Method := { name := "<init>", desc := "()V", sig := { parameters := [], returnType := none }, accessFlags := 1, code := none }
def k1c1 : Code := { maxStack := 6, maxLocals := 5, code := method_2_code, exceptionTable := #[], attributes := #[] }
def k1m1 : Method := { name := "mkName", desc := "(I)Ljava/lang/String;", sig := { parameters := [.int], returnType := some (.object "java/lang/String") }, accessFlags := 10, code := some k1c1 }
def k1c2 : Code := { maxStack := 3, maxLocals := 4, code := method_3_code, exceptionTable := #[], attributes := #[] }
def k1m2 : Method := { name := "sameName", desc := "(II)Z", sig := { parameters := [.int, .int], returnType := some .boolean }, accessFlags := 10, code := some k1c2 }
def k1c3 : Code := { maxStack := 9, maxLocals := 26, code := code, exceptionTable := #[], attributes := #[] }
def k1m3 : Method := { name := "law", desc := "(JJIIII)Z", sig := { parameters := [.long, .long, .int, .int, .int, .int], returnType := some .boolean }, accessFlags := 9, code := some k1c3 }
/-- com/example/entry_to_apps/entrytoapps/GridProfileEqualsPinLaw -/
def k1 : Class := { plain "com/example/entry_to_apps/entrytoapps/GridProfileEqualsPinLaw" (some 0) with
  accessFlags := 49
  interfaces := #[]
  cf := some (fileOf pool1 13 #[] #[{ accessFlags := 1, nameIndex := 5, descriptorIndex := 6, attributes := #[] }, { accessFlags := 10, nameIndex := 16, descriptorIndex := 17, attributes := #[] }, { accessFlags := 10, nameIndex := 20, descriptorIndex := 21, attributes := #[] }, { accessFlags := 9, nameIndex := 34, descriptorIndex := 35, attributes := #[] }] 49 2 #[] #[])
  fields := #[]
  methods := #[k1m0, k1m1, k1m2, k1m3]
  instanceTypes := #[]
  staticTypes := #[]
  resolved := Array.replicate 38 none
  statics := none }

def pool2 : Array CpInfo := pool [(1, .class_ 2), (0, u "java/io/Serializable"), (0, .class_ 4), (0, u "java/lang/Object")] 2

/-- java/io/Serializable -/
def k2 : Class := { plain "java/io/Serializable" (some 0) with
  accessFlags := 1537
  interfaces := #[]
  cf := some (fileOf pool2 1 #[] #[] 1537 3 #[] #[])
  fields := #[]
  methods := #[]
  instanceTypes := #[]
  staticTypes := #[]
  resolved := Array.replicate 7 none
  statics := none }

def pool3 : Array CpInfo := pool [(1, .class_ 2), (0, u "java/lang/Comparable"), (0, .class_ 4), (0, u "java/lang/Object")] 7

/-- java/lang/Comparable -/
def k3 : Class := { plain "java/lang/Comparable" (some 0) with
  accessFlags := 1537
  interfaces := #[]
  cf := some (fileOf pool3 1 #[] #[] 1537 3 #[] #[])
  fields := #[]
  methods := #[]
  instanceTypes := #[]
  staticTypes := #[]
  resolved := Array.replicate 12 none
  statics := none }

def pool4 : Array CpInfo := pool [(2, .class_ 4), (1, u "java/lang/CharSequence"), (42, .class_ 48), (0, u "java/lang/CharSequence$1CodePointIterator"), (10, .class_ 60), (0, u "java/lang/CharSequence$1CharIterator"), (5, .class_ 67), (0, u "java/lang/Object")] 63

/-- java/lang/CharSequence -/
def k4 : Class := { plain "java/lang/CharSequence" (some 0) with
  accessFlags := 1537
  interfaces := #[]
  cf := some (fileOf pool4 2 #[.nestMembers #[47, 59]] #[] 1537 66 #[] #[])
  fields := #[]
  methods := #[]
  instanceTypes := #[]
  staticTypes := #[]
  resolved := Array.replicate 131 none
  statics := none }

def pool5 : Array CpInfo := pool [(1, .class_ 2), (0, u "java/lang/constant/Constable"), (0, .class_ 4), (0, u "java/lang/Object")] 6

/-- java/lang/constant/Constable -/
def k5 : Class := { plain "java/lang/constant/Constable" (some 0) with
  accessFlags := 1537
  interfaces := #[]
  cf := some (fileOf pool5 1 #[] #[] 1537 3 #[] #[])
  fields := #[]
  methods := #[]
  instanceTypes := #[]
  staticTypes := #[]
  resolved := Array.replicate 11 none
  statics := none }

def pool6 : Array CpInfo := pool [(1, .class_ 2), (0, u "java/lang/constant/ConstantDesc"), (0, .class_ 4), (0, u "java/lang/Object")] 32

/-- java/lang/constant/ConstantDesc -/
def k6 : Class := { plain "java/lang/constant/ConstantDesc" (some 0) with
  accessFlags := 1537
  interfaces := #[]
  cf := some (fileOf pool6 1 #[] #[] 1537 3 #[] #[])
  fields := #[]
  methods := #[]
  instanceTypes := #[]
  staticTypes := #[]
  resolved := Array.replicate 37 none
  statics := none }

def pool7 : Array CpInfo := pool [(1, .methodref 2 3), (0, .class_ 4), (0, .nameAndType 5 6), (0, u "java/lang/Object"), (0, u "<init>"), (0, u "()V"), (0, .string 8), (0, u ""), (0, .fieldref 10 11), (0, .class_ 12), (0, .nameAndType 13 14), (0, u "java/lang/String"), (0, u "value"), (0, u "[B"), (0, .fieldref 10 16), (0, .nameAndType 17 18), (0, u "coder"), (0, u "B"), (2, u "hash"), (0, u "I"), (2, u "hashIsZero"), (0, u "Z"), (0, .methodref 10 28), (0, .nameAndType 5 29), (0, u "([CIILjava/lang/Void;)V"), (8, .fieldref 10 39), (0, .nameAndType 40 26), (0, u "COMPACT_STRINGS"), (1, .class_ 44), (1, u "java/lang/StringUTF16"), (0, u "compress"), (1, .methodref 42 48), (0, .nameAndType 49 50), (0, u "coderFromArrayLen"), (0, u "([BI)B"), (56, .class_ 109), (1, u "java/lang/StringLatin1"), (67, .methodref 42 178), (0, .nameAndType 45 179), (0, u "([CII)[B"), (361, .methodref 107 542), (0, .nameAndType 543 544), (0, u "equals"), (0, u "([B[B)Z"), (28, u "(Ljava/lang/Object;)Z"), (1, .class_ 576), (0, u "java/lang/CharSequence"), (22, u "CASE_INSENSITIVE_ORDER"), (0, u "Ljava/util/Comparator;"), (409, u "([C)V"), (90, u "serialPersistentFields"), (0, u "[Ljava/io/ObjectStreamField;"), (0, .class_ 1104), (0, u "java/lang/String$CaseInsensitiveComparator"), (1, .class_ 1107), (0, u "java/io/Serializable"), (0, .class_ 1109), (0, u "java/lang/Comparable"), (0, .class_ 1111), (0, u "java/lang/constant/Constable"), (0, .class_ 1113), (0, u "java/lang/constant/ConstantDesc"), (2, u "serialVersionUID"), (0, u "J"), (3, u "REPL"), (0, u "C"), (2, u "LATIN1"), (1, u "UTF16")] 323

def k7m0 : Method := { name := "<init>", desc := "()V", sig := { parameters := [], returnType := none }, accessFlags := 1, code := none }
def k7c1 : Code := { maxStack := 5, maxLocals := 2, code := jdk_42_method_3_code, exceptionTable := #[], attributes := #[] }
def k7m1 : Method := { name := "<init>", desc := "([C)V", sig := { parameters := [(.array .char)], returnType := none }, accessFlags := 1, code := some k7c1 }
def k7c2 : Code := { maxStack := 2, maxLocals := 3, code := jdk_42_method_66_code, exceptionTable := #[], attributes := #[] }
def k7m2 : Method := { name := "equals", desc := "(Ljava/lang/Object;)Z", sig := { parameters := [(.object "java/lang/Object")], returnType := some .boolean }, accessFlags := 1, code := some k7c2 }
def k7c3 : Code := { maxStack := 4, maxLocals := 6, code := jdk_42_method_149_code, exceptionTable := #[], attributes := #[] }
def k7m3 : Method := { name := "<init>", desc := "([CIILjava/lang/Void;)V", sig := { parameters := [(.array .char), .int, .int, (.object "java/lang/Void")], returnType := none }, accessFlags := 2, code := some k7c3 }
/-- java/lang/String -/
def k7 : Class := { plain "java/lang/String" (some 0) with
  accessFlags := 49
  interfaces := #[2, 3, 4, 5, 6]
  cf := some (fileOf pool7 10 #[.nestMembers #[1103]] #[{ accessFlags := 1, nameIndex := 5, descriptorIndex := 6, attributes := #[] }, { accessFlags := 1, nameIndex := 5, descriptorIndex := 1010, attributes := #[] }, { accessFlags := 1, nameIndex := 543, descriptorIndex := 573, attributes := #[] }, { accessFlags := 2, nameIndex := 5, descriptorIndex := 29, attributes := #[] }] 49 2 #[1106, 1108, 575, 1110, 1112] #[{ accessFlags := 18, nameIndex := 13, descriptorIndex := 14, attributes := #[] }, { accessFlags := 18, nameIndex := 17, descriptorIndex := 18, attributes := #[] }, { accessFlags := 2, nameIndex := 21, descriptorIndex := 22, attributes := #[] }, { accessFlags := 2, nameIndex := 25, descriptorIndex := 26, attributes := #[] }, { accessFlags := 26, nameIndex := 1116, descriptorIndex := 1117, attributes := #[] }, { accessFlags := 24, nameIndex := 40, descriptorIndex := 26, attributes := #[] }, { accessFlags := 26, nameIndex := 1101, descriptorIndex := 1102, attributes := #[] }, { accessFlags := 26, nameIndex := 1121, descriptorIndex := 1122, attributes := #[] }, { accessFlags := 25, nameIndex := 599, descriptorIndex := 600, attributes := #[] }, { accessFlags := 24, nameIndex := 1125, descriptorIndex := 18, attributes := #[] }, { accessFlags := 24, nameIndex := 1127, descriptorIndex := 18, attributes := #[] }])
  fields := #[{ name := "value", type := (.array .byte), accessFlags := 18, slot := 0, constantValue := 0 }, { name := "coder", type := .byte, accessFlags := 18, slot := 1, constantValue := 0 }, { name := "hash", type := .int, accessFlags := 2, slot := 2, constantValue := 0 }, { name := "hashIsZero", type := .boolean, accessFlags := 2, slot := 3, constantValue := 0 }, { name := "serialVersionUID", type := .long, accessFlags := 26, slot := 0, constantValue := 0 }, { name := "COMPACT_STRINGS", type := .boolean, accessFlags := 24, slot := 1, constantValue := 0 }, { name := "serialPersistentFields", type := (.array (.object "java/io/ObjectStreamField")), accessFlags := 26, slot := 2, constantValue := 0 }, { name := "REPL", type := .char, accessFlags := 26, slot := 3, constantValue := 0 }, { name := "CASE_INSENSITIVE_ORDER", type := (.object "java/util/Comparator"), accessFlags := 25, slot := 4, constantValue := 0 }, { name := "LATIN1", type := .byte, accessFlags := 24, slot := 5, constantValue := 0 }, { name := "UTF16", type := .byte, accessFlags := 24, slot := 6, constantValue := 0 }]
  methods := #[k7m0, k7m1, k7m2, k7m3]
  instanceTypes := #[(.array .byte), .byte, .int, .boolean]
  staticTypes := #[.long, .boolean, (.array (.object "java/io/ObjectStreamField")), .char, (.object "java/util/Comparator"), .byte, .byte]
  resolved := Array.replicate 1451 none
  statics := some 0 }

def pool8 : Array CpInfo := pool [(1, .methodref 2 3), (0, .class_ 4), (0, .nameAndType 5 6), (0, u "java/lang/Object"), (0, u "<init>"), (0, u "()V"), (0, .fieldref 8 9), (0, .class_ 10), (0, .nameAndType 11 12), (0, u "com/example/entry_to_apps/entrytoapps/GridProfile"), (0, u "name"), (0, u "Ljava/lang/String;"), (0, .fieldref 8 14), (0, .nameAndType 15 16), (0, u "rows"), (0, u "I"), (0, .fieldref 8 18), (0, .nameAndType 19 16), (0, u "columns"), (0, .fieldref 8 21), (0, .nameAndType 22 16), (0, u "minWidth"), (0, .fieldref 8 24), (0, .nameAndType 25 16), (0, u "minHeight"), (0, .fieldref 8 27), (0, .nameAndType 28 16), (0, u "iconSize"), (0, .fieldref 8 30), (0, .nameAndType 31 32), (0, u "isDefault"), (0, u "Z"), (0, .methodref 34 35), (0, .class_ 36), (0, .nameAndType 37 38), (0, u "java/lang/String"), (0, u "equals"), (0, u "(Ljava/lang/Object;)Z"), (17, u "(Ljava/lang/String;IIIIIZ)V")] 11

def k8c0 : Code := { maxStack := 2, maxLocals := 8, code := prog_24_method_1_code, exceptionTable := #[], attributes := #[] }
def k8m0 : Method := { name := "<init>", desc := "(Ljava/lang/String;IIIIIZ)V", sig := { parameters := [(.object "java/lang/String"), .int, .int, .int, .int, .int, .boolean], returnType := none }, accessFlags := 0, code := some k8c0 }
def k8c1 : Code := { maxStack := 2, maxLocals := 3, code := prog_24_method_7_code, exceptionTable := #[], attributes := #[] }
def k8m1 : Method := { name := "equals", desc := "(Ljava/lang/Object;)Z", sig := { parameters := [(.object "java/lang/Object")], returnType := some .boolean }, accessFlags := 1, code := some k8c1 }
/-- com/example/entry_to_apps/entrytoapps/GridProfile -/
def k8 : Class := { plain "com/example/entry_to_apps/entrytoapps/GridProfile" (some 0) with
  accessFlags := 48
  interfaces := #[]
  cf := some (fileOf pool8 8 #[] #[{ accessFlags := 0, nameIndex := 5, descriptorIndex := 56, attributes := #[] }, { accessFlags := 1, nameIndex := 37, descriptorIndex := 38, attributes := #[] }] 48 2 #[] #[{ accessFlags := 18, nameIndex := 11, descriptorIndex := 12, attributes := #[] }, { accessFlags := 18, nameIndex := 15, descriptorIndex := 16, attributes := #[] }, { accessFlags := 18, nameIndex := 19, descriptorIndex := 16, attributes := #[] }, { accessFlags := 18, nameIndex := 22, descriptorIndex := 16, attributes := #[] }, { accessFlags := 18, nameIndex := 25, descriptorIndex := 16, attributes := #[] }, { accessFlags := 18, nameIndex := 28, descriptorIndex := 16, attributes := #[] }, { accessFlags := 18, nameIndex := 31, descriptorIndex := 32, attributes := #[] }])
  fields := #[{ name := "name", type := (.object "java/lang/String"), accessFlags := 18, slot := 0, constantValue := 0 }, { name := "rows", type := .int, accessFlags := 18, slot := 1, constantValue := 0 }, { name := "columns", type := .int, accessFlags := 18, slot := 2, constantValue := 0 }, { name := "minWidth", type := .int, accessFlags := 18, slot := 3, constantValue := 0 }, { name := "minHeight", type := .int, accessFlags := 18, slot := 4, constantValue := 0 }, { name := "iconSize", type := .int, accessFlags := 18, slot := 5, constantValue := 0 }, { name := "isDefault", type := .boolean, accessFlags := 18, slot := 6, constantValue := 0 }]
  methods := #[k8m0, k8m1]
  instanceTypes := #[(.object "java/lang/String"), .int, .int, .int, .int, .int, .boolean]
  staticTypes := #[]
  resolved := Array.replicate 68 none
  statics := none }

def pool9 : Array CpInfo := pool [(4, .class_ 6), (1, u "java/lang/Object"), (0, u "<init>"), (0, u "()V"), (5, .class_ 16), (1, u "java/lang/StringLatin1"), (104, u "$assertionsDisabled"), (0, u "Z"), (98, .class_ 223), (1, u "java/lang/StringLatin1$LinesSpliterator"), (57, u "equals"), (0, u "([B[B)Z"), (107, .class_ 391), (0, u "java/lang/StringLatin1$CharsSpliterator")] 3

def k9m0 : Method := { name := "<init>", desc := "()V", sig := { parameters := [], returnType := none }, accessFlags := 0, code := none }
def k9c1 : Code := { maxStack := 3, maxLocals := 3, code := jdk_43_method_13_code, exceptionTable := #[], attributes := #[] }
def k9m1 : Method := { name := "equals", desc := "([B[B)Z", sig := { parameters := [(.array .byte), (.array .byte)], returnType := some .boolean }, accessFlags := 9, code := some k9c1 }
/-- java/lang/StringLatin1 -/
def k9 : Class := { plain "java/lang/StringLatin1" (some 0) with
  accessFlags := 48
  interfaces := #[]
  cf := some (fileOf pool9 14 #[.nestMembers #[390, 221]] #[{ accessFlags := 0, nameIndex := 7, descriptorIndex := 8, attributes := #[] }, { accessFlags := 9, nameIndex := 281, descriptorIndex := 282, attributes := #[] }] 48 4 #[] #[{ accessFlags := 4120, nameIndex := 121, descriptorIndex := 122, attributes := #[] }])
  fields := #[{ name := "$assertionsDisabled", type := .boolean, accessFlags := 4120, slot := 0, constantValue := 0 }]
  methods := #[k9m0, k9m1]
  instanceTypes := #[]
  staticTypes := #[.boolean]
  resolved := Array.replicate 395 none
  statics := none }

def pool10 : Array CpInfo := pool [(6, .class_ 8), (1, u "java/lang/Object"), (0, u "<init>"), (0, u "()V"), (1, .class_ 14), (1, u "java/lang/StringUTF16"), (31, u "$assertionsDisabled"), (0, u "Z"), (13, u "HI_BYTE_SHIFT"), (0, u "I"), (2, u "LO_BYTE_SHIFT"), (49, .methodref 12 116), (0, .nameAndType 117 118), (0, u "compress"), (0, u "([CI[BII)I"), (3, u "([CII)[B"), (138, u "coderFromArrayLen"), (0, u "([BI)B"), (106, .class_ 371), (1, u "java/lang/StringUTF16$LinesSpliterator"), (58, u "MAX_LENGTH"), (196, .class_ 628), (0, u "java/lang/StringUTF16$CodePointsSpliterator"), (0, .class_ 630), (0, u "java/lang/StringUTF16$CharsSpliterator")] 4

def k10m0 : Method := { name := "<init>", desc := "()V", sig := { parameters := [], returnType := none }, accessFlags := 0, code := none }
def k10c1 : Code := { maxStack := 2, maxLocals := 2, code := jdk_52_method_15_code, exceptionTable := #[], attributes := #[] }
def k10m1 : Method := { name := "coderFromArrayLen", desc := "([BI)B", sig := { parameters := [(.array .byte), .int], returnType := some .byte }, accessFlags := 8, code := some k10c1 }
def k10c2 : Code := { maxStack := 5, maxLocals := 6, code := jdk_52_method_16_code, exceptionTable := #[], attributes := #[] }
def k10m2 : Method := { name := "compress", desc := "([CII)[B", sig := { parameters := [(.array .char), .int, .int], returnType := some (.array .byte) }, accessFlags := 9, code := some k10c2 }
def k10c3 : Code := { maxStack := 3, maxLocals := 7, code := jdk_52_method_21_code, exceptionTable := #[], attributes := #[] }
def k10m3 : Method := { name := "compress", desc := "([CI[BII)I", sig := { parameters := [(.array .char), .int, (.array .byte), .int, .int], returnType := some .int }, accessFlags := 9, code := some k10c3 }
/-- java/lang/StringUTF16 -/
def k10 : Class := { plain "java/lang/StringUTF16" (some 0) with
  accessFlags := 48
  interfaces := #[]
  cf := some (fileOf pool10 12 #[.nestMembers #[627, 629, 369]] #[{ accessFlags := 0, nameIndex := 9, descriptorIndex := 10, attributes := #[] }, { accessFlags := 8, nameIndex := 261, descriptorIndex := 262, attributes := #[] }, { accessFlags := 9, nameIndex := 117, descriptorIndex := 122, attributes := #[] }, { accessFlags := 9, nameIndex := 117, descriptorIndex := 118, attributes := #[] }] 48 6 #[] #[{ accessFlags := 26, nameIndex := 61, descriptorIndex := 62, attributes := #[] }, { accessFlags := 26, nameIndex := 65, descriptorIndex := 62, attributes := #[] }, { accessFlags := 24, nameIndex := 430, descriptorIndex := 62, attributes := #[] }, { accessFlags := 4120, nameIndex := 46, descriptorIndex := 47, attributes := #[] }])
  fields := #[{ name := "HI_BYTE_SHIFT", type := .int, accessFlags := 26, slot := 0, constantValue := 0 }, { name := "LO_BYTE_SHIFT", type := .int, accessFlags := 26, slot := 1, constantValue := 0 }, { name := "MAX_LENGTH", type := .int, accessFlags := 24, slot := 2, constantValue := 0 }, { name := "$assertionsDisabled", type := .boolean, accessFlags := 4120, slot := 3, constantValue := 0 }]
  methods := #[k10m0, k10m1, k10m2, k10m3]
  instanceTypes := #[]
  staticTypes := #[.int, .int, .int, .boolean]
  resolved := Array.replicate 635 none
  statics := none }

def pool11 : Array CpInfo := pool [(2, .class_ 4), (1, u "java/lang/Object"), (0, u "<init>"), (0, u "()V"), (17, .class_ 26), (1, u "jdk/internal/util/Preconditions"), (28, .class_ 56), (0, u "jdk/internal/util/Preconditions$4"), (57, .class_ 115), (0, u "jdk/internal/util/Preconditions$1"), (7, u "SIOOBE_FORMATTER"), (0, u "Ljava/util/function/BiFunction;"), (0, .class_ 126), (0, u "jdk/internal/util/Preconditions$2"), (3, u "AIOOBE_FORMATTER"), (0, .class_ 132), (0, u "jdk/internal/util/Preconditions$3"), (3, u "IOOBE_FORMATTER")] 57

def k11m0 : Method := { name := "<init>", desc := "()V", sig := { parameters := [], returnType := none }, accessFlags := 1, code := none }
/-- jdk/internal/util/Preconditions -/
def k11 : Class := { plain "jdk/internal/util/Preconditions" (some 0) with
  accessFlags := 33
  interfaces := #[]
  cf := some (fileOf pool11 24 #[.nestMembers #[55, 131, 125, 114]] #[{ accessFlags := 1, nameIndex := 5, descriptorIndex := 6, attributes := #[] }] 33 2 #[] #[{ accessFlags := 25, nameIndex := 123, descriptorIndex := 124, attributes := #[] }, { accessFlags := 25, nameIndex := 130, descriptorIndex := 124, attributes := #[] }, { accessFlags := 25, nameIndex := 136, descriptorIndex := 124, attributes := #[] }])
  fields := #[{ name := "SIOOBE_FORMATTER", type := (.object "java/util/function/BiFunction"), accessFlags := 25, slot := 0, constantValue := 0 }, { name := "AIOOBE_FORMATTER", type := (.object "java/util/function/BiFunction"), accessFlags := 25, slot := 1, constantValue := 0 }, { name := "IOOBE_FORMATTER", type := (.object "java/util/function/BiFunction"), accessFlags := 25, slot := 2, constantValue := 0 }]
  methods := #[k11m0]
  instanceTypes := #[]
  staticTypes := #[(.object "java/util/function/BiFunction"), (.object "java/util/function/BiFunction"), (.object "java/util/function/BiFunction")]
  resolved := Array.replicate 194 none
  statics := some 1 }

def pool12 : Array CpInfo := pool [(9, u "<init>"), (6, .class_ 18), (1, u "java/lang/Object"), (0, u "()V"), (1, .class_ 23), (1, u "jdk/internal/util/ArraysSupport"), (0, u "LOG2_ARRAY_LONG_INDEX_SCALE"), (0, u "I"), (2, u "U"), (0, u "Ljdk/internal/misc/Unsafe;"), (8, u "BIG_ENDIAN"), (0, u "Z"), (8, u "LOG2_BYTE_BIT_SIZE"), (4, u "LOG2_ARRAY_INT_INDEX_SCALE"), (54, u "JLA"), (0, u "Ljdk/internal/access/JavaLangAccess;"), (11, u "LOG2_ARRAY_BOOLEAN_INDEX_SCALE"), (9, u "LOG2_ARRAY_BYTE_INDEX_SCALE"), (5, u "LOG2_ARRAY_CHAR_INDEX_SCALE"), (5, u "LOG2_ARRAY_SHORT_INDEX_SCALE"), (18, u "LOG2_ARRAY_FLOAT_INDEX_SCALE"), (24, u "LOG2_ARRAY_DOUBLE_INDEX_SCALE"), (89, u "T_BOOLEAN"), (2, u "T_CHAR"), (1, u "T_FLOAT"), (1, u "T_DOUBLE"), (1, u "T_BYTE"), (1, u "T_SHORT"), (1, u "T_INT"), (1, u "T_LONG"), (1, u "SOFT_MAX_ARRAY_LENGTH")] 83

def k12m0 : Method := { name := "<init>", desc := "()V", sig := { parameters := [], returnType := none }, accessFlags := 2, code := none }
/-- jdk/internal/util/ArraysSupport -/
def k12 : Class := { plain "jdk/internal/util/ArraysSupport" (some 0) with
  accessFlags := 33
  interfaces := #[]
  cf := some (fileOf pool12 21 #[] #[{ accessFlags := 2, nameIndex := 9, descriptorIndex := 19, attributes := #[] }] 33 16 #[] #[{ accessFlags := 24, nameIndex := 28, descriptorIndex := 29, attributes := #[] }, { accessFlags := 26, nameIndex := 38, descriptorIndex := 39, attributes := #[] }, { accessFlags := 25, nameIndex := 121, descriptorIndex := 25, attributes := #[] }, { accessFlags := 25, nameIndex := 131, descriptorIndex := 25, attributes := #[] }, { accessFlags := 25, nameIndex := 137, descriptorIndex := 25, attributes := #[] }, { accessFlags := 25, nameIndex := 143, descriptorIndex := 25, attributes := #[] }, { accessFlags := 25, nameIndex := 53, descriptorIndex := 25, attributes := #[] }, { accessFlags := 25, nameIndex := 24, descriptorIndex := 25, attributes := #[] }, { accessFlags := 25, nameIndex := 162, descriptorIndex := 25, attributes := #[] }, { accessFlags := 25, nameIndex := 187, descriptorIndex := 25, attributes := #[] }, { accessFlags := 26, nameIndex := 48, descriptorIndex := 25, attributes := #[] }, { accessFlags := 25, nameIndex := 277, descriptorIndex := 25, attributes := #[] }, { accessFlags := 25, nameIndex := 280, descriptorIndex := 25, attributes := #[] }, { accessFlags := 25, nameIndex := 282, descriptorIndex := 25, attributes := #[] }, { accessFlags := 25, nameIndex := 284, descriptorIndex := 25, attributes := #[] }, { accessFlags := 25, nameIndex := 286, descriptorIndex := 25, attributes := #[] }, { accessFlags := 25, nameIndex := 288, descriptorIndex := 25, attributes := #[] }, { accessFlags := 25, nameIndex := 290, descriptorIndex := 25, attributes := #[] }, { accessFlags := 25, nameIndex := 292, descriptorIndex := 25, attributes := #[] }, { accessFlags := 26, nameIndex := 108, descriptorIndex := 109, attributes := #[] }, { accessFlags := 25, nameIndex := 294, descriptorIndex := 25, attributes := #[] }])
  fields := #[{ name := "U", type := (.object "jdk/internal/misc/Unsafe"), accessFlags := 24, slot := 0, constantValue := 0 }, { name := "BIG_ENDIAN", type := .boolean, accessFlags := 26, slot := 1, constantValue := 0 }, { name := "LOG2_ARRAY_BOOLEAN_INDEX_SCALE", type := .int, accessFlags := 25, slot := 2, constantValue := 0 }, { name := "LOG2_ARRAY_BYTE_INDEX_SCALE", type := .int, accessFlags := 25, slot := 3, constantValue := 0 }, { name := "LOG2_ARRAY_CHAR_INDEX_SCALE", type := .int, accessFlags := 25, slot := 4, constantValue := 0 }, { name := "LOG2_ARRAY_SHORT_INDEX_SCALE", type := .int, accessFlags := 25, slot := 5, constantValue := 0 }, { name := "LOG2_ARRAY_INT_INDEX_SCALE", type := .int, accessFlags := 25, slot := 6, constantValue := 0 }, { name := "LOG2_ARRAY_LONG_INDEX_SCALE", type := .int, accessFlags := 25, slot := 7, constantValue := 0 }, { name := "LOG2_ARRAY_FLOAT_INDEX_SCALE", type := .int, accessFlags := 25, slot := 8, constantValue := 0 }, { name := "LOG2_ARRAY_DOUBLE_INDEX_SCALE", type := .int, accessFlags := 25, slot := 9, constantValue := 0 }, { name := "LOG2_BYTE_BIT_SIZE", type := .int, accessFlags := 26, slot := 10, constantValue := 0 }, { name := "T_BOOLEAN", type := .int, accessFlags := 25, slot := 11, constantValue := 0 }, { name := "T_CHAR", type := .int, accessFlags := 25, slot := 12, constantValue := 0 }, { name := "T_FLOAT", type := .int, accessFlags := 25, slot := 13, constantValue := 0 }, { name := "T_DOUBLE", type := .int, accessFlags := 25, slot := 14, constantValue := 0 }, { name := "T_BYTE", type := .int, accessFlags := 25, slot := 15, constantValue := 0 }, { name := "T_SHORT", type := .int, accessFlags := 25, slot := 16, constantValue := 0 }, { name := "T_INT", type := .int, accessFlags := 25, slot := 17, constantValue := 0 }, { name := "T_LONG", type := .int, accessFlags := 25, slot := 18, constantValue := 0 }, { name := "JLA", type := (.object "jdk/internal/access/JavaLangAccess"), accessFlags := 26, slot := 19, constantValue := 0 }, { name := "SOFT_MAX_ARRAY_LENGTH", type := .int, accessFlags := 25, slot := 20, constantValue := 0 }]
  methods := #[k12m0]
  instanceTypes := #[]
  staticTypes := #[(.object "jdk/internal/misc/Unsafe"), .boolean, .int, .int, .int, .int, .int, .int, .int, .int, .int, .int, .int, .int, .int, .int, .int, .int, .int, (.object "jdk/internal/access/JavaLangAccess"), .int]
  resolved := Array.replicate 378 none
  statics := none }

def pool13 : Array CpInfo := pool [(1, u "java/lang/Cloneable"), (0, .class_ 1), (0, u "java/lang/Object"), (0, .class_ 3)] 3

/-- java/lang/Cloneable -/
def k13 : Class := { plain "java/lang/Cloneable" (some 0) with
  accessFlags := 1537
  interfaces := #[]
  cf := some (fileOf pool13 2 #[] #[] 1537 4 #[] #[])
  fields := #[]
  methods := #[]
  instanceTypes := #[]
  staticTypes := #[]
  resolved := Array.replicate 8 none
  statics := none }

/-- the primitive byte -/
def k14 : Class := { plain "byte" none with kind := .primitive 'B', accessFlags := 0x411 }
/-- [B -/
def k15 : Class := { plain "[B" (some 0) with kind := .array 14 .byte, interfaces := #[13, 2], accessFlags := 1041 }

/-- the primitive char -/
def k16 : Class := { plain "char" none with kind := .primitive 'C', accessFlags := 0x411 }
/-- [C -/
def k17 : Class := { plain "[C" (some 0) with kind := .array 16 .char, interfaces := #[13, 2], accessFlags := 1041 }

/-- the primitive int -/
def k18 : Class := { plain "int" none with kind := .primitive 'I', accessFlags := 0x411 }
/-- [I -/
def k19 : Class := { plain "[I" (some 0) with kind := .array 18 .int, interfaces := #[13, 2], accessFlags := 1041 }

def heap : Heap := #[{ cls := 7, slots := #[.long 0, .int 1, .null, .int 0, .null, .int 0, .int 0], vm := .statics 7 },
  { cls := 11, slots := #[.null, .null, .null], vm := .statics 11 }]
def classes : Array Class := #[k0, k1, k2, k3, k4, k5, k6, k7, k8, k9, k10, k11, k12, k13, k14, k15, k16, k17, k18, k19]
def interned : List (Array UInt16 × Addr) := []
def slotsUsed : Nat := 10
def theMethod : MethodId := ⟨1, 3⟩
def args0 : Array Value := #[.long 1, .long 2, .int 3, .int 4, .int 5, .int 6]
def aboutOver (below : List Frame) : State where
  vm := { classes := classes, interned := interned.toArray }
  heap := heap
  slotsUsed := slotsUsed
  threads := #[{ frames := .invoking theMethod args0 :: below }]
def below0 : List Frame := [.native { method := ⟨0, 0⟩, args := #[] }]
def about1 : State := aboutOver below0
def p0 : Program := .bare "" "" ""
def e0 : Env := launch0.env 0 0 0
theorem w_frames : about1.frames = Frame.invoking theMethod args0 :: below0 := rfl
set_option maxRecDepth 65536 in
theorem w_args : argsFit about1.vm theMethod args0 = true := by decide +kernel
set_option maxRecDepth 65536 in
theorem w_heap : heapFits about1 = true := by decide +kernel
set_option maxRecDepth 65536 in
theorem w_runnable : about1.curStatus? = some .runnable := by decide +kernel
set_option maxRecDepth 65536 in
theorem w_alone : about1.alone = true := by decide +kernel
set_option maxRecDepth 65536 in
theorem w_named : about1.methodNamed? x = some theMethod := by decide +kernel
set_option maxRecDepth 65536 in
theorem w_hears : about1.hears theMethod below0 = true := by decide +kernel
set_option maxRecDepth 65536 in
theorem w_ripe : about1.ripe theMethod args0 below0 = true := by decide +kernel
theorem w_running : about1.status = .running := rfl
set_option maxRecDepth 65536 in
theorem w_room : about1.hasRoom e0.platform room_1 = true :=
  launch0.hasRoom_least _ room_1 (by decide +kernel) (by decide +kernel) (by decide +kernel) (by decide +kernel) (by decide +kernel) (by decide +kernel)
theorem allAtoms_all (ts : List Jvm.Cond) (a : Array Jvm.Value) (st : Jvm.State) : (allAtoms ts).before a st = ts.all (fun c => c.before a st) := by
  induction ts with
  | nil => rfl
  | cons c t ih =>
    show (Jvm.Cond.and c (allAtoms t)).before a st = _
    rw [Jvm.Cond.before_and, ih, List.all_cons]
def words1 : List Jvm.Cond := Jvm.Cond.code x code maxLocals ret :: tables_1
/-- a 'code' word, met by the world's own term for the bytes: nothing is compared byte by byte -/
theorem code_word {y : MethodName} {bytes : ByteArray} {mx : Nat} {rt : Option FieldType} {a : Array Value} {s : State} {m : MethodId} {meth : Method} {c : Code} (h1 : s.methodNamed? y = some m) (h2 : s.vm.method? m = some meth) (h3 : meth.code = some c) (h4 : c.code = bytes)
    (h5 : (c.maxLocals == mx && c.exceptionTable.isEmpty && decide (c.maxStack ≤ mostOperands) && decide (meth.sig.returnType = rt) && !meth.locks && decide (parseMethodDescriptor y.desc = some meth.sig)) = true) : (Jvm.Cond.code y bytes mx rt).before a s = true := by
  simp only [Bool.and_eq_true, beq_iff_eq, Bool.not_eq_true', decide_eq_true_eq] at h5
  obtain ⟨⟨⟨⟨⟨g1, g2⟩, g3⟩, g4⟩, g5⟩, g6⟩ := h5
  simp [Cond.before, Cond.holds, Cond.value, h1, h2, h3, h4, g1, g2, g3, g4, g5, g6]
def isCode : Jvm.Cond → Bool
  | .code _ _ _ _ => true
  | _ => false
theorem all_split {L : List Jvm.Cond} {P : Jvm.Cond → Bool} (h1 : L.all (fun c => isCode c || P c) = true) (h2 : ∀ c ∈ L.filter isCode, P c = true) : L.all P = true := by
  refine List.all_eq_true.mpr fun c hc => ?_
  have h := List.all_eq_true.mp h1 c hc
  rcases Bool.eq_false_or_eq_true (isCode c) with hi | hi
  · exact h2 c (List.mem_filter.mpr ⟨hc, hi⟩)
  · simpa [hi] using h
set_option maxRecDepth 65536 in
theorem w_c0 : (Jvm.Cond.code x code maxLocals ret).before args0 about1 = true := code_word (m := ⟨1, 3⟩) (meth := k1m3) (c := k1c3) (by decide +kernel) rfl rfl rfl (by decide +kernel)
set_option maxRecDepth 65536 in
theorem w_c1 : (Jvm.Cond.code ({ cls := "com/example/entry_to_apps/entrytoapps/GridProfileEqualsPinLaw", name := "mkName", desc := "(I)Ljava/lang/String;" } : Jvm.MethodName) method_2_code (5 : Nat) (Option.some (Jvm.ClassFile.FieldType.object "java/lang/String"))).before args0 about1 = true := code_word (m := ⟨1, 1⟩) (meth := k1m1) (c := k1c1) (by decide +kernel) rfl rfl rfl (by decide +kernel)
set_option maxRecDepth 65536 in
theorem w_c2 : (Jvm.Cond.code ({ cls := "java/lang/String", name := "<init>", desc := "([C)V" } : Jvm.MethodName) jdk_42_method_3_code (2 : Nat) (Option.none : Option Jvm.ClassFile.FieldType)).before args0 about1 = true := code_word (m := ⟨7, 1⟩) (meth := k7m1) (c := k7c1) (by decide +kernel) rfl rfl rfl (by decide +kernel)
set_option maxRecDepth 65536 in
theorem w_c3 : (Jvm.Cond.code ({ cls := "java/lang/String", name := "<init>", desc := "([CIILjava/lang/Void;)V" } : Jvm.MethodName) jdk_42_method_149_code (6 : Nat) (Option.none : Option Jvm.ClassFile.FieldType)).before args0 about1 = true := code_word (m := ⟨7, 3⟩) (meth := k7m3) (c := k7c3) (by decide +kernel) rfl rfl rfl (by decide +kernel)
set_option maxRecDepth 65536 in
theorem w_c4 : (Jvm.Cond.code ({ cls := "java/lang/Object", name := "<init>", desc := "()V" } : Jvm.MethodName) object_method_1_code (1 : Nat) (Option.none : Option Jvm.ClassFile.FieldType)).before args0 about1 = true := code_word (m := ⟨0, 0⟩) (meth := k0m0) (c := k0c0) (by decide +kernel) rfl rfl rfl (by decide +kernel)
set_option maxRecDepth 65536 in
theorem w_c5 : (Jvm.Cond.code ({ cls := "com/example/entry_to_apps/entrytoapps/GridProfileEqualsPinLaw", name := "sameName", desc := "(II)Z" } : Jvm.MethodName) method_3_code (4 : Nat) (Option.some Jvm.ClassFile.FieldType.boolean)).before args0 about1 = true := code_word (m := ⟨1, 2⟩) (meth := k1m2) (c := k1c2) (by decide +kernel) rfl rfl rfl (by decide +kernel)
set_option maxRecDepth 65536 in
theorem w_c6 : (Jvm.Cond.code ({ cls := "com/example/entry_to_apps/entrytoapps/GridProfile", name := "<init>", desc := "(Ljava/lang/String;IIIIIZ)V" } : Jvm.MethodName) prog_24_method_1_code (8 : Nat) (Option.none : Option Jvm.ClassFile.FieldType)).before args0 about1 = true := code_word (m := ⟨8, 0⟩) (meth := k8m0) (c := k8c0) (by decide +kernel) rfl rfl rfl (by decide +kernel)
set_option maxRecDepth 65536 in
theorem w_c7 : (Jvm.Cond.code ({ cls := "com/example/entry_to_apps/entrytoapps/GridProfile", name := "equals", desc := "(Ljava/lang/Object;)Z" } : Jvm.MethodName) prog_24_method_7_code (3 : Nat) (Option.some Jvm.ClassFile.FieldType.boolean)).before args0 about1 = true := code_word (m := ⟨8, 1⟩) (meth := k8m1) (c := k8c1) (by decide +kernel) rfl rfl rfl (by decide +kernel)
set_option maxRecDepth 65536 in
theorem w_c8 : (Jvm.Cond.code ({ cls := "java/lang/String", name := "equals", desc := "(Ljava/lang/Object;)Z" } : Jvm.MethodName) jdk_42_method_66_code (3 : Nat) (Option.some Jvm.ClassFile.FieldType.boolean)).before args0 about1 = true := code_word (m := ⟨7, 2⟩) (meth := k7m2) (c := k7c2) (by decide +kernel) rfl rfl rfl (by decide +kernel)
set_option maxRecDepth 65536 in
theorem w_c9 : (Jvm.Cond.code ({ cls := "java/lang/StringLatin1", name := "equals", desc := "([B[B)Z" } : Jvm.MethodName) jdk_43_method_13_code (3 : Nat) (Option.some Jvm.ClassFile.FieldType.boolean)).before args0 about1 = true := code_word (m := ⟨9, 1⟩) (meth := k9m1) (c := k9c1) (by decide +kernel) rfl rfl rfl (by decide +kernel)
set_option maxRecDepth 65536 in
theorem w_c10 : (Jvm.Cond.code ({ cls := "java/lang/StringUTF16", name := "compress", desc := "([CII)[B" } : Jvm.MethodName) jdk_52_method_16_code (6 : Nat) (Option.some (Jvm.ClassFile.FieldType.array Jvm.ClassFile.FieldType.byte))).before args0 about1 = true := code_word (m := ⟨10, 2⟩) (meth := k10m2) (c := k10c2) (by decide +kernel) rfl rfl rfl (by decide +kernel)
set_option maxRecDepth 65536 in
theorem w_c11 : (Jvm.Cond.code ({ cls := "java/lang/StringUTF16", name := "compress", desc := "([CI[BII)I" } : Jvm.MethodName) jdk_52_method_21_code (7 : Nat) (Option.some Jvm.ClassFile.FieldType.int)).before args0 about1 = true := code_word (m := ⟨10, 3⟩) (meth := k10m3) (c := k10c3) (by decide +kernel) rfl rfl rfl (by decide +kernel)
set_option maxRecDepth 65536 in
theorem w_c12 : (Jvm.Cond.code ({ cls := "java/lang/StringUTF16", name := "coderFromArrayLen", desc := "([BI)B" } : Jvm.MethodName) jdk_52_method_15_code (2 : Nat) (Option.some Jvm.ClassFile.FieldType.byte)).before args0 about1 = true := code_word (m := ⟨10, 1⟩) (meth := k10m1) (c := k10c1) (by decide +kernel) rfl rfl rfl (by decide +kernel)
def codes1 : List Jvm.Cond := [Jvm.Cond.code x code maxLocals ret, Jvm.Cond.code ({ cls := "com/example/entry_to_apps/entrytoapps/GridProfileEqualsPinLaw", name := "mkName", desc := "(I)Ljava/lang/String;" } : Jvm.MethodName) method_2_code (5 : Nat) (Option.some (Jvm.ClassFile.FieldType.object "java/lang/String")), Jvm.Cond.code ({ cls := "java/lang/String", name := "<init>", desc := "([C)V" } : Jvm.MethodName) jdk_42_method_3_code (2 : Nat) (Option.none : Option Jvm.ClassFile.FieldType), Jvm.Cond.code ({ cls := "java/lang/String", name := "<init>", desc := "([CIILjava/lang/Void;)V" } : Jvm.MethodName) jdk_42_method_149_code (6 : Nat) (Option.none : Option Jvm.ClassFile.FieldType), Jvm.Cond.code ({ cls := "java/lang/Object", name := "<init>", desc := "()V" } : Jvm.MethodName) object_method_1_code (1 : Nat) (Option.none : Option Jvm.ClassFile.FieldType), Jvm.Cond.code ({ cls := "com/example/entry_to_apps/entrytoapps/GridProfileEqualsPinLaw", name := "sameName", desc := "(II)Z" } : Jvm.MethodName) method_3_code (4 : Nat) (Option.some Jvm.ClassFile.FieldType.boolean), Jvm.Cond.code ({ cls := "com/example/entry_to_apps/entrytoapps/GridProfile", name := "<init>", desc := "(Ljava/lang/String;IIIIIZ)V" } : Jvm.MethodName) prog_24_method_1_code (8 : Nat) (Option.none : Option Jvm.ClassFile.FieldType), Jvm.Cond.code ({ cls := "com/example/entry_to_apps/entrytoapps/GridProfile", name := "equals", desc := "(Ljava/lang/Object;)Z" } : Jvm.MethodName) prog_24_method_7_code (3 : Nat) (Option.some Jvm.ClassFile.FieldType.boolean), Jvm.Cond.code ({ cls := "java/lang/String", name := "equals", desc := "(Ljava/lang/Object;)Z" } : Jvm.MethodName) jdk_42_method_66_code (3 : Nat) (Option.some Jvm.ClassFile.FieldType.boolean), Jvm.Cond.code ({ cls := "java/lang/StringLatin1", name := "equals", desc := "([B[B)Z" } : Jvm.MethodName) jdk_43_method_13_code (3 : Nat) (Option.some Jvm.ClassFile.FieldType.boolean), Jvm.Cond.code ({ cls := "java/lang/StringUTF16", name := "compress", desc := "([CII)[B" } : Jvm.MethodName) jdk_52_method_16_code (6 : Nat) (Option.some (Jvm.ClassFile.FieldType.array Jvm.ClassFile.FieldType.byte)), Jvm.Cond.code ({ cls := "java/lang/StringUTF16", name := "compress", desc := "([CI[BII)I" } : Jvm.MethodName) jdk_52_method_21_code (7 : Nat) (Option.some Jvm.ClassFile.FieldType.int), Jvm.Cond.code ({ cls := "java/lang/StringUTF16", name := "coderFromArrayLen", desc := "([BI)B" } : Jvm.MethodName) jdk_52_method_15_code (2 : Nat) (Option.some Jvm.ClassFile.FieldType.byte)]
set_option maxRecDepth 65536 in
theorem codes_eq : words1.filter isCode = codes1 := rfl
theorem w_codes : ∀ c ∈ words1.filter isCode, c.before args0 about1 = true := by
  rw [codes_eq]
  intro c hc
  simp only [codes1, List.mem_cons, List.not_mem_nil, or_false] at hc
  rcases hc with rfl | rfl | rfl | rfl | rfl | rfl | rfl | rfl | rfl | rfl | rfl | rfl | rfl
  · exact w_c0
  · exact w_c1
  · exact w_c2
  · exact w_c3
  · exact w_c4
  · exact w_c5
  · exact w_c6
  · exact w_c7
  · exact w_c8
  · exact w_c9
  · exact w_c10
  · exact w_c11
  · exact w_c12
set_option maxRecDepth 65536 in
theorem w_t1 : (words1.take 24).all (fun c => isCode c || c.before args0 about1) = true := by decide +kernel
set_option maxRecDepth 65536 in
theorem w_t2 : ((words1.drop 24).take 24).all (fun c => isCode c || c.before args0 about1) = true := by decide +kernel
set_option maxRecDepth 65536 in
theorem w_t3 : (((words1.drop 24).drop 24).take 24).all (fun c => isCode c || c.before args0 about1) = true := by decide +kernel
set_option maxRecDepth 65536 in
theorem w_t4 : (((words1.drop 24).drop 24).drop 24).all (fun c => isCode c || c.before args0 about1) = true := by decide +kernel
theorem w_tables : (allAtoms (Jvm.Cond.code x code maxLocals ret :: tables_1)).before args0 about1 = true := by
  rw [allAtoms_all]
  show words1.all (fun c => c.before args0 about1) = true
  refine all_split ?_ w_codes
  rw [← List.take_append_drop 24 words1, List.all_append, w_t1, ← List.take_append_drop 24 (words1.drop 24), List.all_append, w_t2, ← List.take_append_drop 24 ((words1.drop 24).drop 24), List.all_append, w_t3, w_t4]
  rfl
set_option maxRecDepth 65536 in
theorem w_rest : rest_1_c.before args0 about1 = true := by decide +kernel
set_option maxRecDepth 65536 in
theorem w_case : (Jvm.Cond.and given_1 narrow_1).before args0 about1 = true := by decide +kernel
set_option maxRecDepth 65536 in
theorem w_consts : constsHeld consts_1 about1 := Jvm.Lit.constsHeldB_iff.mp (by decide +kernel)
theorem w_applies : (headSpec (Jvm.Cond.code x code maxLocals ret :: tables_1) room_1).applies x e0.platform about1 = true :=
  (Spec.applies_iff w_frames).mpr ⟨w_running, w_runnable, w_alone, w_named, w_hears, w_ripe, w_room, w_tables⟩
theorem atStart : AtStart classFile x code maxLocals ret World_1 tables_1 room_1 Calls_1 rest_1 Pre_1 launch0 p0 e0 about1 theMethod args0 below0 :=
  ⟨lists_1, trivial, launch0.admits_env _ _ _, launch0.least_env, fairChoices_fair.cas, fairChoices_fair.clock, w_frames, w_args, w_heap, w_applies, ⟨w_consts, trivial⟩, w_rest, w_case⟩
end start1
theorem witness_1 : WitnessClaimed_1 := ⟨start1.p0, start1.e0, start1.about1, start1.theMethod, start1.args0, start1.below0, start1.atStart⟩
end Jvm.Pilot.@@N@@
