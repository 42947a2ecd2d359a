import JvmDerived
import JvmDerived.Pilot.@@N@@Statement
import JvmDerived.Pilot.@@N@@Code
set_option linter.unusedVariables false
set_option linter.unusedSimpArgs false
@@BLOCK:NumsL.lean.txt@@
namespace Jvm.Pilot.@@N@@
open Jvm Jvm.ClassFile Sem Op Lib Jvm.Free Jvm.Stand Jvm.LawKit Jvm.RoadKit Bundle Jvm.Pilot.@@N@@.Jvm.D
theorem ow {Z : State} {a0' : Array Value} (hw : ∀ d ∈ tables_1, d.before a0' Z = true) {d : Jvm.Cond} (i : Nat) (h : tables_1[i]? = some d) : d.before a0' Z = true := hw _ (List.mem_of_getElem? h)
theorem own_retI {p : Program} {l : Launch} {e : Env} {R : Room} {s : State} {m : MethodId} {args : Array Value} {below : List Frame} {meth : Method} {c : Code} {T : State} {locs : List Loc} {cells slots : Nat} (X : Stand p l e R s m args below meth c T locs cells slots) (hx : p.tables.exec = Jvm.exec) {pc : Nat} {Ls : Array Slot} {z : Int32} {rest : List Value} (hret : meth.sig.returnType = some .int) (hd : decode c.code pc = .ok (.ireturn, 1)) {fs : List Frame}
    (hl : ∀ (f : JFrame) (acts : List Action), f.method = m → f.locked = none → f.entered = [] → (doReturn e (T.setTop f) acts (some (.int z))).1 = T.setFrames fs) : Steps p.tables e below (T.setTop (mkF m pc Ls (.int z :: rest))) (T.setFrames fs) :=
  retOut X hx hret rfl (Or.inl ⟨rfl, Or.inl rfl, z, rfl⟩) hd hl
theorem own_retA {p : Program} {l : Launch} {e : Env} {R : Room} {s : State} {m : MethodId} {args : Array Value} {below : List Frame} {meth : Method} {c : Code} {T : State} {locs : List Loc} {cells slots : Nat} (X : Stand p l e R s m args below meth c T locs cells slots) (hx : p.tables.exec = Jvm.exec) {pc : Nat} {Ls : Array Slot} {w : Value} {t : FieldType} {rest : List Value} (hret : meth.sig.returnType = some t) (ht : t.isReference = true) (hw : w.isRef = true) (hn : narrow t w = w) (hd : decode c.code pc = .ok (.areturn, 1)) {fs : List Frame}
    (hl : ∀ (f : JFrame) (acts : List Action), f.method = m → f.locked = none → f.entered = [] → (doReturn e (T.setTop f) acts (some w)).1 = T.setFrames fs) : Steps p.tables e below (T.setTop (mkF m pc Ls (w :: rest))) (T.setFrames fs) :=
  retOut X hx hret hn (Or.inr (Or.inr (Or.inr (Or.inr ⟨rfl, ht, hw⟩)))) hd hl
theorem own_retJ {p : Program} {l : Launch} {e : Env} {R : Room} {s : State} {m : MethodId} {args : Array Value} {below : List Frame} {meth : Method} {c : Code} {T : State} {locs : List Loc} {cells slots : Nat} (X : Stand p l e R s m args below meth c T locs cells slots) (hx : p.tables.exec = Jvm.exec) {pc : Nat} {Ls : Array Slot} {z : Int64} {rest : List Value} (hret : meth.sig.returnType = some .long) (hd : decode c.code pc = .ok (.lreturn, 1)) {fs : List Frame}
    (hl : ∀ (f : JFrame) (acts : List Action), f.method = m → f.locked = none → f.entered = [] → (doReturn e (T.setTop f) acts (some (.long z))).1 = T.setFrames fs) : Steps p.tables e below (T.setTop (mkF m pc Ls (.long z :: rest))) (T.setFrames fs) :=
  retOut X hx hret rfl (Or.inr (Or.inl ⟨rfl, rfl, z, rfl⟩)) hd hl
theorem own_exttr {h0 h h' : Heap} (E : Ext h0 h) (E' : Ext h h') : Ext h0 h' := ⟨Nat.le_trans E.1 E'.1, fun a c q => E'.2 _ _ (E.2 _ _ q)⟩
theorem own_extwr {h0 h h' : Heap} {a : Addr} {sl : Nat} {v : Value} (E : Ext h0 h) (W : Wr h h' a sl v) (q : h0.size ≤ a) : Ext h0 h' := by
  refine ⟨Nat.le_trans E.1 (Nat.le_of_eq W.size.symm), fun x c hc => ?_⟩
  obtain ⟨c', e1, -, -, -, e5, -⟩ := wr_at W (E.2 x c hc)
  have hx : x < h0.size := (Array.getElem?_eq_some_iff.mp hc).1
  rw [e5 (Nat.ne_of_lt (Nat.lt_of_lt_of_le hx q))] at e1
  exact e1
theorem own_wmono {s t : State} {o : Outcome} {L : List Loc} {k n k' n' : Nat} (h : ReturnedEndW s o t L k n) (hk : k ≤ k') (hn : n ≤ n') : ReturnedEndW s o t L k' n' := ⟨h.1, h.2.1, h.2.2.1, h.2.2.2.mono hk hn⟩
theorem own_strAtoms {Z : State} {a0 : Array Value} (w1 : (Jvm.Cond.initialized "java/lang/String").before a0 Z = true) (w2 : (Jvm.Cond.instantiable "java/lang/String" 4).before a0 Z = true) (w3 : (Jvm.Cond.arrayClass .byte).before a0 Z = true) (w4 : (Jvm.Cond.laysFinal "java/lang/String" "java/lang/String" "value" "[B").before a0 Z = true) (w5 : (Jvm.Cond.laysFinal "java/lang/String" "java/lang/String" "coder" "B").before a0 Z = true) (w6 : (Jvm.Cond.soleField "java/lang/String" "value").before a0 Z = true) (w7 : (Jvm.Cond.soleField "java/lang/String" "coder").before a0 Z = true) : ∀ a ∈ Bundle.stringAtoms, a.before a0 Z = true := by
  intro a ha
  simp only [Bundle.stringAtoms, List.mem_cons, List.not_mem_nil, or_false] at ha
  rcases ha with rfl | rfl | rfl | rfl | rfl | rfl | rfl <;> assumption
theorem own_extkeep {h0 h h' : Heap} {a : Addr} (E : Ext h0 h) (K : Keep h h' [a]) (q : h0.size ≤ a) : Ext h0 h' := ⟨Nat.le_trans E.1 K.1, fun x c hc => K.2.1 x c (E.2 x c hc) (fun hm => absurd (List.mem_singleton.mp hm) (Nat.ne_of_lt (Nat.lt_of_lt_of_le (Array.getElem?_eq_some_iff.mp hc).1 q)))⟩
theorem own_fld2 {Z : State} {h : Heap} {a : Addr} {C O n d O1 n1 d1 : String} {v1 : Value} {a0 : Array Value} {k : Nat} (E : Exa Z h a C) (F : Fld Z h a O1 n1 d1 v1) (L : Laid Z a0 C O n d) (wi : (Jvm.Cond.instantiable C k).before a0 Z = true) : ∃ v, Fld Z h a O n d v := by
  obtain ⟨cell, kc, h1, h2, h3, h4, h5⟩ := E
  obtain ⟨cell', cf', k', i', f', g1, -, -, g4, g5, -, -⟩ := F
  cases h1.symm.trans g1
  obtain ⟨c, k2, cf, kf, i, f, a1, a2, a3, a4, a5, a6, -⟩ := L.spec
  cases h2.symm.trans a1
  cases h3.symm.trans a2
  obtain ⟨c2, k3, i1, i2, i3, -⟩ := Cond.instantiable_spec wi
  cases h2.symm.trans i1
  cases h3.symm.trans i2
  have hs := h5 i3
  have hlt : f.slot < cell.slots.size := by rw [hs]; exact (Array.getElem?_eq_some_iff.mp a6).1
  exact ⟨cell.slots[f.slot], cell, cf, kf, i, f, h1, a3, a4, g4, g5, a5, Array.getElem?_eq_getElem hlt⟩
theorem own_retD {p : Program} {l : Launch} {e : Env} {R : Room} {s : State} {m : MethodId} {args : Array Value} {below : List Frame} {meth : Method} {c : Code} {T : State} {locs : List Loc} {cells slots : Nat} (X : Stand p l e R s m args below meth c T locs cells slots) (hx : p.tables.exec = Jvm.exec) {pc : Nat} {Ls : Array Slot} {z : UInt64} {rest : List Value} (hret : meth.sig.returnType = some .double) (hd : decode c.code pc = .ok (.dreturn, 1)) {fs : List Frame}
    (hl : ∀ (f : JFrame) (acts : List Action), f.method = m → f.locked = none → f.entered = [] → (doReturn e (T.setTop f) acts (some (.double z))).1 = T.setFrames fs) : Steps p.tables e below (T.setTop (mkF m pc Ls (.double z :: rest))) (T.setFrames fs) :=
  retOut X hx hret rfl (Or.inr (Or.inr (Or.inl ⟨rfl, rfl, z, rfl⟩))) hd hl
theorem own_eqk {args : Array Value} {first s : State} {o : Option Outcome} {idx : List Nat} {t : Term} {k : Int32} (h : (Jvm.Cond.eq t (.int k)).value args first o s idx = some true) : t.eval args first o idx s = some (.int k) := by
  have hk : (Term.int k).eval args first o idx s = some (.int k) := Term.int_eval k
  cases ht : t.eval args first o idx s with
  | none => simp [Cond.value, ht] at h
  | some x => cases x <;> simp [Cond.value, ht, hk] at h ⊢ <;> exact h
theorem own_safe {Z : State} {EL : List (String × Nat)} {vm : Vm} {h h' : Heap} {x : Addr} (C : CHv Z EL vm h) (E : Ext h h') (q : h.size ≤ x) : Safe Z EL vm h' x := fun B => by
  obtain ⟨cell, hc⟩ := ((C.step fun _ _ _ r => E.2 _ _ r).2 _ B).there
  exact absurd (Array.getElem?_eq_some_iff.mp hc).1 (Nat.not_lt.mpr q)
theorem own_backW {p : Program} {l : Launch} {e : Env} {R : Room} {s : State} {args : Array Value} {below : List Frame} {Z : State} {a0 : Array Value} {EL : List (String × Nat)} {h : Heap} {vm0 : Vm} {y : MethodName} {bytes : ByteArray} {maxL : Nat} {ret : Option FieldType} {rm : Room} {len W : Nat} {as' : Array Value} {Q : Option Value → Heap → List Loc → Prop} {xs : List Addr}
    (hM : MetFree l y (head1 [Jvm.Cond.code y bytes maxL ret] rm) (fun a U => a = as' ∧ Z.Warmed39 U.vm ∧ U.heap = h ∧ CHv Z EL U.vm h ∧ ∀ x ∈ xs, Safe Z EL U.vm h x) (fun _ _ _ _ _ => True) (fun _ U o U' => ∃ v L, o = .returned v ∧ Q v U'.heap L ∧ CHr Z EL U.vm U.heap U'.vm U'.heap ∧ ReturnedEndW U o U' L rm.cells rm.slots))
    (hZ : Z.Warmed39 vm0) (wc : (Jvm.Cond.code y bytes maxL ret).before a0 Z = true) (wz : (Jvm.Cond.initialized y.cls).before a0 Z = true) (hf : rm.frames + 1 ≤ R.frames) (hl : W + (maxL + 11) + rm.locals ≤ R.locals) (hEL : EW Z a0 EL) (H : CHv Z EL vm0 h) (hS : ∀ x ∈ xs, x < h.size ∧ Safe Z EL vm0 h x) :
    BackS l R p e below (s.setVm vm0) args y len W (fun A a => a = as' ∧ A.U.heap = h ∧ A.cells + rm.cells ≤ R.cells ∧ A.slots + rm.slots ≤ R.slots)
      (fun A _ v B => ∃ L, Q v B.U.heap L ∧ B.locs = A.locs ++ L ∧ B.cells = A.cells + rm.cells ∧ B.slots = A.slots + rm.slots ∧ CHr Z EL vm0 h B.U.vm B.U.heap) := by
  refine BackS.of_freeW (bytes := bytes) (maxL := maxL) (ret := ret) (E := fun _ first o t L k n => k = rm.cells ∧ n = rm.slots ∧ (∃ v, o = .returned v ∧ Q v t.heap L) ∧ CHr Z EL first.vm first.heap t.vm t.heap) hM hf hl ?_ ?_ (fun _ _ _ _ _ _ _ _ _ => trivial) ?_ ?_
  · intro m meth c A a Y hp
    have hU : Z.Warmed39 A.U.vm := wtrans (s := s.setVm vm0) hZ Y.warmed
    exact ⟨by show (Jvm.Cond.and _ .tt).before a A.U = true; rw [Cond.before_and, mv hU wc]; rfl, mv hU wc, mv hU wz, hp.2.2.1, hp.2.2.2⟩
  · intro m meth c A a g mk Y hp
    have A1 := CHv.at Y hZ hEL H
    exact ⟨hp.1, wtrans (s := s.setVm vm0) hZ Y.warmed, hp.2.1, A1.1, fun x hx => A1.safe (hS x hx).1 (hS x hx).2⟩
  · rintro _ _ _ _ ⟨v, L, h1, h2, h3, h4⟩
    exact ⟨L, _, _, h4, rfl, rfl, ⟨v, h1, h2⟩, h3⟩
  · rintro m meth c A a g mk v t L k n Y hp - - ⟨e1, e2, ⟨v', e3, e4⟩, e5⟩
    cases e3
    subst e1 e2
    refine ⟨L, e4, rfl, rfl, rfl, (CHv.at Y hZ hEL H).trans ?_⟩
    rw [← hp.2.1]
    exact e5
theorem own_mono {l : Launch} {y : MethodName} {S : Spec} {P : Array Value → State → Prop} {K : Program → Env → List Frame → State → Array Value → Prop} {Q Q' : Array Value → State → Outcome → State → Prop} (h : MetFree l y S P K Q) (hq : ∀ a U o U', Q a U o U' → Q' a U o U') : MetFree l y S P K Q' := by
  intro p e ha hc hk s m args below hf happ hP hK
  obtain ⟨n, o, h1, h2, h3, h4⟩ := h p e ha hc hk s m args below hf happ hP hK
  exact ⟨n, o, h1, h2, h3, hq _ _ _ _ h4⟩

abbrev MF (l : Launch) (y : MethodName) (cd : ByteArray) (ml : Nat) (rt : Option FieldType) (ws : List Jvm.Cond) (R : Room) (A : Array Value) (Z : State) (h0 : Heap) (Q : Option Value → Heap → List Loc → Prop) : Prop :=
  MetFree l y (head1 (Jvm.Cond.code y cd ml rt :: ws) R) (fun a U => a = A ∧ Z.Warmed39 U.vm ∧ U.heap = h0) (fun _ _ _ _ _ => True) (fun _ U o U' => ∃ v L, o = .returned v ∧ Q v U'.heap L ∧ FrameEnd U o U' L R.cells R.slots)
abbrev vi (x : Int32) : Slot := .val (.int x)
abbrev vr (x : Addr) : Slot := .val (.ref x)
abbrev PT (p : Program) (e : Env) (below : List Frame) (A B : State) : Prop := ∀ t, Steps p.tables e below A t → Steps p.tables e below B t
abbrev nm0 : MethodName := ⟨"jdk/internal/util/Preconditions", "checkIndex", "(IILjava/util/function/BiFunction;)I"⟩
abbrev nm1 : MethodName := ⟨"java/lang/String", "checkIndex", "(II)V"⟩
abbrev nm2 : MethodName := ⟨"java/lang/StringLatin1", "charAt", "([BI)C"⟩
abbrev nm3 : MethodName := ⟨"java/lang/StringUTF16", "length", "([B)I"⟩
abbrev nm4 : MethodName := ⟨"java/lang/StringUTF16", "checkIndex", "(I[B)V"⟩
abbrev nm5 : MethodName := ⟨"java/lang/StringUTF16", "getChar", "([BI)C"⟩
abbrev nm6 : MethodName := ⟨"java/lang/StringUTF16", "charAt", "([BI)C"⟩
abbrev nm7 : MethodName := ⟨"java/lang/String", "isLatin1", "()Z"⟩
abbrev nm8 : MethodName := ⟨"java/lang/String", "coder", "()B"⟩
abbrev nm9 : MethodName := ⟨"java/lang/String", "charAt", "(I)C"⟩
abbrev nm10 : MethodName := ⟨"java/lang/String", "length", "()I"⟩
abbrev nm11 : MethodName := ⟨"java/lang/String", "isEmpty", "()Z"⟩
abbrev nm12 : MethodName := ⟨"java/lang/StringUTF16", "newBytesLength", "(I)I"⟩
abbrev nm13 : MethodName := ⟨"java/lang/StringUTF16", "newBytesFor", "(I)[B"⟩
abbrev nm14 : MethodName := ⟨"java/lang/StringUTF16", "putChar", "([BII)V"⟩
abbrev nm15 : MethodName := ⟨"java/lang/StringUTF16", "toBytes", "([CII)[B"⟩
abbrev nm16 : MethodName := ⟨"java/lang/StringUTF16", "compress", "([CI[BII)I"⟩
abbrev nm17 : MethodName := ⟨"java/lang/StringUTF16", "compress", "([CII)[B"⟩
abbrev nm18 : MethodName := ⟨"java/lang/StringUTF16", "coderFromArrayLen", "([BI)B"⟩
abbrev nm19 : MethodName := ⟨"java/lang/String", "<init>", "([CIILjava/lang/Void;)V"⟩
abbrev nm20 : MethodName := ⟨"java/lang/String", "<init>", "([C)V"⟩
abbrev nm21 : MethodName := ⟨"com/example/lead_line/leadline/Terms", "isTermByte", "(B)Z"⟩
abbrev nm22 : MethodName := ⟨"com/example/lead_line/leadline/TermsIsTermPinLaw", "alnum", "(C)Z"⟩
abbrev nm23 : MethodName := ⟨"java/util/Objects", "requireNonNull", "(Ljava/lang/Object;Ljava/lang/String;)Ljava/lang/Object;"⟩
abbrev nm24 : MethodName := ⟨"com/example/lead_line/leadline/Terms", "isTerm", "(Ljava/lang/String;)Z"⟩
set_option maxRecDepth 65536
set_option maxHeartbeats 40000000
def own_EL : List (String × Nat) := [("com/example/lead_line/leadline/Terms", 7), ("java/lang/String", 7)]
theorem own_EW {Z : State} {a0' : Array Value} (hw : ∀ d ∈ tables_1, d.before a0' Z = true) : EW Z a0' own_EL := (EW.cons (ow hw 28 rfl) (by decide) (EW.cons (ow hw 16 rfl) (by decide) EW.nil))
theorem own_len {args : Array Value} {s : State} {t : Term} {a : Addr} {cl : Cell} {n : Int32} {ty : FieldType} (h : (Jvm.Cond.eq (.length t) (.int n)).value args s none s [] = some true) (ev : t.eval args s none [] s = some (.ref a)) (A : Arr s s.heap a cl ty) : cl.slots.size = n.toNatClampNeg ∧ ¬ n < 0 := by
  have q := own_eqk h
  have ha := A.fin (Vm.Alike.refl _)
  by_cases hl : cl.slots.size < 2 ^ 31
  · rw [len_f ev ha hl] at q
    have q2 : cl.slots.size.toInt32 = n := by simpa using q
    have q3 := len_toInt hl
    rw [q2] at q3
    refine ⟨?_, ?_⟩
    · simp only [Int32.toNatClampNeg]; omega
    · rw [Int32.lt_iff_toInt_lt]; simp only [Int32.reduceToInt]; omega
  · simp [Term.eval, ev, ha, hl] at q
theorem own_hin {cl : Cell} {z j : Int32} (hsz : cl.slots.size = z.toNatClampNeg) (hlo : ¬ j < (0 : Int32)) (hhi : j < z) : ¬ (j < 0 ∨ cl.slots.size ≤ j.toNatClampNeg) := by
  simp only [Int32.lt_iff_toInt_lt, Int32.reduceToInt, Int32.toNatClampNeg] at *
  omega
def own_lo (c : Int32) : Int32 := nar .byte ((c >>> ((0 : Int32) &&& 31)).toInt8.toInt32)
def own_hi (c : Int32) : Int32 := nar .byte ((c >>> ((8 : Int32) &&& 31)).toInt8.toInt32)
def own_la (c : Int32) : Int32 := nar .byte (c.toInt8.toInt32)
def own_u16 : List Int32 → List Value
  | [] => []
  | c :: cs => .int (own_lo c) :: .int (own_hi c) :: own_u16 cs
def CS (Z : State) (h : Heap) (a : Addr) (cs : List Int32) : Prop := Exa Z h a "java/lang/String" ∧ ∃ (b : Addr) (k : ClassId), Fld Z h a "java/lang/String" "value" "[B" (.ref b) ∧
  ((Fld Z h a "java/lang/String" "coder" "B" (.int 0) ∧ (∀ c ∈ cs, 0 ≤ c.toInt ∧ c.toInt ≤ 255) ∧ Arv Z h b k .byte (Int32.ofNat cs.length) (cs.map fun c => Value.int (own_la c)) (.int 0)) ∨
   (Fld Z h a "java/lang/String" "coder" "B" (.int 1) ∧ (∀ c ∈ cs, 0 ≤ c.toInt ∧ c.toInt ≤ 65535) ∧ cs ≠ [] ∧ Arv Z h b k .byte (Int32.ofNat (2 * cs.length)) (own_u16 cs) (.int 0)))
theorem CS.ext {Z : State} {h h' : Heap} {a : Addr} {cs : List Int32} (F : CS Z h a cs) (E : Ext h h') : CS Z h' a cs := by
  obtain ⟨e, b, k, v, d⟩ := F
  refine ⟨e.ext E, b, k, v.ext E, ?_⟩
  rcases d with ⟨c, x, y⟩ | ⟨c, x, n, y⟩
  · exact Or.inl ⟨c.ext E, x, y.ext E⟩
  · exact Or.inr ⟨c.ext E, x, n, y.ext E⟩
theorem CS.lt {Z : State} {h : Heap} {a : Addr} {cs : List Int32} (F : CS Z h a cs) : a < h.size := F.1.lt
theorem own_u16len (cs : List Int32) : (own_u16 cs).length = 2 * cs.length := by
  induction cs with
  | nil => rfl
  | cons c t ih => simp [own_u16, ih]; omega
theorem own_u16get (cs : List Int32) (i : Nat) (h : i < cs.length) (d : Value) : (own_u16 cs).getD (2 * i) d = .int (own_lo cs[i]) ∧ (own_u16 cs).getD (2 * i + 1) d = .int (own_hi cs[i]) := by
  induction cs generalizing i with
  | nil => simp at h
  | cons c t ih =>
    cases i with
    | zero => exact ⟨rfl, rfl⟩
    | succ j =>
      have h' : j < t.length := by simpa using h
      have q := ih j h'
      have e1 : 2 * (j + 1) = 2 * j + 2 := by omega
      rw [e1]
      exact q
theorem own_nat (y : Int32) (h0 : 0 ≤ y.toInt) : (y.toBitVec.toNat : Int) = y.toInt := by
  have e : y.toInt = y.toBitVec.toInt := rfl
  have hb := y.toBitVec.isLt
  rw [BitVec.toInt_eq_toNat_cond] at e
  split at e <;> omega
theorem own_i2c (y : Int32) (h0 : 0 ≤ y.toInt) (h1 : y.toInt < 65536) : y.toUInt32.toUInt16.toUInt32.toInt32 = y := by
  have hy := own_nat y h0
  rw [← Int32.toBitVec_inj]
  apply BitVec.eq_of_toNat_eq
  have e2 : (y.toUInt32.toUInt16.toUInt32.toInt32).toBitVec.toNat = y.toUInt32.toUInt16.toNat := UInt16.toNat_toUInt32 _
  have e3 : y.toUInt32.toUInt16.toNat = y.toUInt32.toNat % 2 ^ 16 := UInt32.toNat_toUInt16 _
  have e4 : y.toUInt32.toNat = y.toBitVec.toNat := rfl
  rw [e2, e3, e4]
  omega
theorem own_chb (x : Int32) : 0 ≤ (nar .char x).toInt ∧ (nar .char x).toInt ≤ 65535 := by
  have h := x.toUInt32.toUInt16.toNat_lt
  have e : (nar .char x).toInt = (x.toUInt32.toUInt16.toNat : Int) := by
    have e1 : (nar .char x).toInt = x.toUInt32.toUInt16.toUInt32.toBitVec.toInt := rfl
    have e2 : x.toUInt32.toUInt16.toUInt32.toBitVec.toNat = x.toUInt32.toUInt16.toNat := UInt16.toNat_toUInt32 _
    rw [e1, BitVec.toInt_eq_toNat_cond, e2, if_pos (by omega)]
  omega
theorem own_b255 (y : Int32) : ((y.toInt8.toInt32).toInt8.toInt32 &&& (255 : Int32)).toInt = y.toInt % 256 := by
  have e1 : ((y.toInt8.toInt32).toInt8.toInt32 &&& (255 : Int32)).toInt = ((y.toInt8.toInt32).toInt8.toInt32).toInt % 2 ^ 8 := Jvm.Kit.i32_mask _ 255 (k := 8) (by decide) (by decide)
  rw [e1]
  simp only [Int8.toInt_toInt32, Int32.toInt_toInt8, Int.bmod_def]
  omega
theorem own_or8 (a b : Int32) (ha : 0 ≤ a.toInt ∧ a.toInt < 256) (hb : 0 ≤ b.toInt ∧ b.toInt < 256) : ((a <<< ((0 : Int32) &&& 31)) ||| (b <<< ((8 : Int32) &&& 31))).toInt = a.toInt + 256 * b.toInt := by
  have na := own_nat a ha.1
  have nb := own_nat b hb.1
  have e0 : (a <<< ((0 : Int32) &&& 31)).toBitVec.toNat = a.toBitVec.toNat := by
    have q : (a <<< ((0 : Int32) &&& 31)).toBitVec = a.toBitVec <<< (0 : Nat) := rfl
    rw [q]; simp
  have e8 : (b <<< ((8 : Int32) &&& 31)).toBitVec.toNat = b.toBitVec.toNat <<< 8 % 2 ^ 32 := by
    have q : (b <<< ((8 : Int32) &&& 31)).toBitVec = b.toBitVec <<< (8 : Nat) := rfl
    rw [q, BitVec.toNat_shiftLeft]
  have e : ((a <<< ((0 : Int32) &&& 31)) ||| (b <<< ((8 : Int32) &&& 31))).toBitVec.toNat = b.toBitVec.toNat * 256 + a.toBitVec.toNat := by
    rw [Int32.toBitVec_or, BitVec.toNat_or, e0, e8, Nat.shiftLeft_eq]
    have h1 : b.toBitVec.toNat * 2 ^ 8 % 2 ^ 32 = b.toBitVec.toNat * 2 ^ 8 := Nat.mod_eq_of_lt (by omega)
    rw [h1, Nat.or_comm, Nat.mul_comm]
    have h2 : a.toBitVec.toNat < 2 ^ 8 := by omega
    rw [← Nat.two_pow_add_eq_or_of_lt h2]
  have hi : ((a <<< ((0 : Int32) &&& 31)) ||| (b <<< ((8 : Int32) &&& 31))).toInt = ((a <<< ((0 : Int32) &&& 31)) ||| (b <<< ((8 : Int32) &&& 31))).toBitVec.toInt := rfl
  rw [hi, BitVec.toInt_eq_toNat_cond, e, if_pos (by omega)]
  omega
theorem own_getc (c : Int32) (h : 0 ≤ c.toInt ∧ c.toInt ≤ 65535) : nar .char ((((own_lo c) &&& (255 : Int32)) <<< ((0 : Int32) &&& 31)) ||| (((own_hi c) &&& (255 : Int32)) <<< ((8 : Int32) &&& 31))).toUInt32.toUInt16.toUInt32.toInt32 = c := by
  have l : ((own_lo c) &&& (255 : Int32)).toInt = c.toInt % 256 := by
    have q : (c >>> ((0 : Int32) &&& 31)).toInt = c.toInt / 2 ^ 0 := Jvm.Kit.i32_shr c _ (k := 0) (by decide)
    show (((c >>> ((0 : Int32) &&& 31)).toInt8.toInt32).toInt8.toInt32 &&& (255 : Int32)).toInt = _
    rw [own_b255, q]; omega
  have u : ((own_hi c) &&& (255 : Int32)).toInt = c.toInt / 256 % 256 := by
    have q : (c >>> ((8 : Int32) &&& 31)).toInt = c.toInt / 2 ^ 8 := Jvm.Kit.i32_shr c _ (k := 8) (by decide)
    show (((c >>> ((8 : Int32) &&& 31)).toInt8.toInt32).toInt8.toInt32 &&& (255 : Int32)).toInt = _
    rw [own_b255, q]; omega
  have o := own_or8 ((own_lo c) &&& (255 : Int32)) ((own_hi c) &&& (255 : Int32)) (by omega) (by omega)
  have o2 : ((((own_lo c) &&& (255 : Int32)) <<< ((0 : Int32) &&& 31)) ||| (((own_hi c) &&& (255 : Int32)) <<< ((8 : Int32) &&& 31))) = c := by
    rw [← Int32.toInt_inj, o, l, u]; omega
  rw [o2, own_i2c c h.1 (by omega)]
  exact own_i2c c h.1 (by omega)
theorem own_getl (c : Int32) (h : 0 ≤ c.toInt ∧ c.toInt ≤ 255) : nar .char ((own_la c) &&& (255 : Int32)).toUInt32.toUInt16.toUInt32.toInt32 = c := by
  have l : ((own_la c) &&& (255 : Int32)) = c := by
    rw [← Int32.toInt_inj]
    show ((c.toInt8.toInt32).toInt8.toInt32 &&& (255 : Int32)).toInt = _
    rw [own_b255]; omega
  rw [l, own_i2c c h.1 (by omega)]
  exact own_i2c c h.1 (by omega)
theorem own_len4 (n : Nat) (h : n ≤ 8) : (Int32.ofNat n).toNatClampNeg = n ∧ ¬ (Int32.ofNat n) < 0 := by
  match n, h with
  | 0, _ => decide
  | 1, _ => decide
  | 2, _ => decide
  | 3, _ => decide
  | 4, _ => decide
  | 5, _ => decide
  | 6, _ => decide
  | 7, _ => decide
  | 8, _ => decide
theorem own_shr0 (z : Int32) : z >>> ((0 : Int32) &&& 31) = z := by
  have q : (z >>> ((0 : Int32) &&& 31)).toInt = z.toInt / 2 ^ 0 := Jvm.Kit.i32_shr z _ (k := 0) (by decide)
  rw [← Int32.toInt_inj, q]; omega
theorem own_shr1 (n : Nat) (h : n ≤ 4) : (Int32.ofNat (2 * n)) >>> ((1 : Int32) &&& 31) = Int32.ofNat n := by
  match n, h with
  | 0, _ => decide
  | 1, _ => decide
  | 2, _ => decide
  | 3, _ => decide
  | 4, _ => decide
theorem own_lt4 (i n : Nat) (hi : i < n) (h : n ≤ 4) : Int32.ofNat i < Int32.ofNat n := by
  match i, n, hi, h with
  | 0, 1, _, _ => decide
  | 0, 2, _, _ => decide
  | 0, 3, _, _ => decide
  | 0, 4, _, _ => decide
  | 1, 2, _, _ => decide
  | 1, 3, _, _ => decide
  | 1, 4, _, _ => decide
  | 2, 3, _, _ => decide
  | 2, 4, _, _ => decide
  | 3, 4, _, _ => decide
  | k + 4, n, hi, h => exact absurd hi (by omega)
theorem own_idx2 (i : Nat) (h : i < 4) : ((Int32.ofNat i) <<< ((1 : Int32) &&& 31)).toNatClampNeg = 2 * i ∧ ¬ ((Int32.ofNat i) <<< ((1 : Int32) &&& 31)) < 0 ∧ (((Int32.ofNat i) <<< ((1 : Int32) &&& 31)) + (1 : Int32)).toNatClampNeg = 2 * i + 1 ∧ ¬ (((Int32.ofNat i) <<< ((1 : Int32) &&& 31)) + (1 : Int32)) < 0 := by
  match i, h with
  | 0, _ => decide
  | 1, _ => decide
  | 2, _ => decide
  | 3, _ => decide
theorem own_pn0 : plainName "jdk/internal/util/Preconditions" = true := by first | (simp [plainName, overriddenIn]; done) | decide +kernel
theorem od0 : decode jdk_41_method_11_code 0 = .ok (.iload_n 0, 1) := by decide +kernel
theorem od1 : decode jdk_41_method_11_code 1 = .ok (.ifCond .lt 8, 3) := by decide +kernel
theorem od2 : decode jdk_41_method_11_code 4 = .ok (.iload_n 0, 1) := by decide +kernel
theorem od3 : decode jdk_41_method_11_code 5 = .ok (.iload_n 1, 1) := by decide +kernel
theorem od4 : decode jdk_41_method_11_code 6 = .ok (.if_icmp .lt 10, 3) := by decide +kernel
theorem od5 : decode jdk_41_method_11_code 16 = .ok (.iload_n 0, 1) := by decide +kernel
theorem od6 : decode jdk_41_method_11_code 17 = .ok (.ireturn, 1) := by decide +kernel
def F_pcheck (p0 : Int32) : Int32 := p0
theorem own_ef_pcheck (m : MethodId) (p0 : Int32) (p1 : Int32) (a2 : Value) (ha2 : a2.isRef = true) : entryFrame m #[(.int p0), (.int p1), a2] 3 = mkF m 0 #[vi p0, vi p1, .val a2] [] := by
  rcases ref_cases ha2 with rfl | ⟨_, rfl⟩ <;> first | (simp [entryFrame, mkF, argsToLocals, Value.category]; done) | rfl
def Q_pcheck (Z : State) (p0 : Int32) (p1 : Int32) (a2 : Value) (h0 : Heap) (n0 : Nat) (v : Option Value) (h : Heap) (L : List Loc) : Prop := v = some (.int (F_pcheck p0)) ∧ Fr n0 L ∧ h = h0
theorem rm_pcheck (l : Launch) (Z : State) (a0' : Array Value) (hw : ∀ d ∈ tables_1, d.before a0' Z = true) (ws : List Jvm.Cond) (p0 : Int32) (p1 : Int32) (a2 : Value) (h0 : Heap) (n0 : Nat) (Z0 : n0 ≤ h0.size) (ha2 : a2.isRef = true) (hlo : ¬ (p0 < (0 : Int32))) (hhi : p0 < p1) :
    MF l nm0 jdk_41_method_11_code 3 (some .int) ws (⟨0, 0, 0, 0⟩ : Room) #[(.int p0), (.int p1), a2] Z h0 (Q_pcheck Z p0 p1 a2 h0 n0) := by
  refine MetFree.of_bodySF (plainFor_of_name own_pn0) hisR ?_
  intro p e s m args below meth c s₁ Bd hml0 hP hK
  obtain ⟨rfl, hZ, hh⟩ := hP
  have hx := Bd.exec
  have hby := Bd.bytes
  have hml : c.maxLocals = 3 := hml0
  have hown : s.vm.findClass "jdk/internal/util/Preconditions" = some m.cls := findClass_of_methodNamed Bd.named
  have hnm := (name_of_methodNamed Bd.named Bd.method).1
  have X0 : Stand p l e (⟨0, 0, 0, 0⟩ : Room) s m #[(.int p0), (.int p1), a2] below meth c s₁ [] 0 0 := Stand.of_body Bd
  have e0 : s₁.heap = h0 := by rw [← hh, Bd.state]; rfl
  have N0 := Fr.nil n0
  have pre0 : PT p e below (s₁.setTop (mkF m 0 #[vi p0, vi p1, .val a2] [])) (s₁.setTop (entryFrame m #[(.int p0), (.int p1), a2] 3)) := fun t k => castTop (own_ef_pcheck m p0 p1 a2 ha2) k
  obtain ⟨fs, hr, hrun, hended, hW, hsame⟩ := X0.leave (v := some (.int p0)) (fun h => by rw [Bd.returns] at h; cases h)
  refine ⟨_, _, pre0 _ ?_, hrun, hended, _, _, rfl, ?_, ⟨_, rfl⟩, hW, hsame.mono (by decide) (by decide)⟩
  · show Steps p.tables e below (s₁.setTop (mkF m 0 #[vi p0, vi p1, .val a2] [])) _
    refine XS.iloadN X0.here hx rfl (hb hby od0) rfl ?_
    refine XS.ifNo X0.here hx rfl (hb hby od1) rfl ((if0 _ _).trans (flt hlo).1) ?_
    refine XS.iloadN X0.here hx rfl (hb hby od2) rfl ?_
    refine XS.iloadN X0.here hx rfl (hb hby od3) rfl ?_
    refine XS.icmpYes X0.here hx rfl (pc0 := 6) (pc' := 16) rfl (hb hby od4) rfl (tlt hhi).1 (by decide) (by decide) ?_
    refine XS.iloadN X0.here hx rfl (hb hby od5) rfl ?_
    exact own_retI X0 hx Bd.returns (hb hby od6) hr
  · show Q_pcheck Z p0 p1 a2 h0 n0 _ s₁.heap _
    refine ⟨?_, N0, e0⟩
    rw [F_pcheck]
theorem own_pn1 : plainName "java/lang/String" = true := by first | (simp [plainName, overriddenIn]; done) | decide +kernel
theorem od7 : decode jdk_42_method_155_code 0 = .ok (.iload_n 0, 1) := by decide +kernel
theorem od8 : decode jdk_42_method_155_code 1 = .ok (.iload_n 1, 1) := by decide +kernel
theorem od9 : decode jdk_42_method_155_code 2 = .ok (.getstatic 1053, 3) := by decide +kernel
theorem od10 : decode jdk_42_method_155_code 5 = .ok (.invokestatic 1059, 3) := by decide +kernel
theorem own_pd0 : parseMethodDescriptor "(IILjava/util/function/BiFunction;)I" = some ⟨[.int, .int, (.object "java/util/function/BiFunction")], some .int⟩ := by decide +kernel
theorem od11 : decode jdk_42_method_155_code 8 = .ok (.pop, 1) := by decide +kernel
theorem od12 : decode jdk_42_method_155_code 9 = .ok (.return_, 1) := by decide +kernel
theorem own_ef_scheck (m : MethodId) (p0 : Int32) (p1 : Int32) : entryFrame m #[(.int p0), (.int p1)] 2 = mkF m 0 #[vi p0, vi p1] [] := by first | (simp [entryFrame, mkF, argsToLocals, Value.category]; done) | rfl
def Q_scheck (Z : State) (p0 : Int32) (p1 : Int32) (fm : Value) (h0 : Heap) (n0 : Nat) (v : Option Value) (h : Heap) (L : List Loc) : Prop := v = none ∧ Fr n0 L ∧ h = h0
theorem rm_scheck (l : Launch) (Z : State) (a0' : Array Value) (hw : ∀ d ∈ tables_1, d.before a0' Z = true) (ws : List Jvm.Cond) (p0 : Int32) (p1 : Int32) (fm : Value) (h0 : Heap) (n0 : Nat) (Z0 : n0 ≤ h0.size) (hlo : ¬ (p0 < (0 : Int32))) (hhi : p0 < p1) (S_fm : Sta Z h0 "jdk/internal/util/Preconditions" "SIOOBE_FORMATTER" "Ljava/util/function/BiFunction;" fm) (hfm : fm.isRef = true) :
    MF l nm1 jdk_42_method_155_code 2 none ws (⟨1, 0, 0, 14⟩ : Room) #[(.int p0), (.int p1)] Z h0 (Q_scheck Z p0 p1 fm h0 n0) := by
  refine MetFree.of_bodySF (plainFor_of_name own_pn1) hisR ?_
  intro p e s m args below meth c s₁ Bd hml0 hP hK
  obtain ⟨rfl, hZ, hh⟩ := hP
  have hx := Bd.exec
  have hby := Bd.bytes
  have hml : c.maxLocals = 2 := hml0
  have hown : s.vm.findClass "java/lang/String" = some m.cls := findClass_of_methodNamed Bd.named
  have hnm := (name_of_methodNamed Bd.named Bd.method).1
  have X0 : Stand p l e (⟨1, 0, 0, 14⟩ : Room) s m #[(.int p0), (.int p1)] below meth c s₁ [] 0 0 := Stand.of_body Bd
  have e0 : s₁.heap = h0 := by rw [← hh, Bd.state]; rfl
  have N0 := Fr.nil n0
  have pre0 : PT p e below (s₁.setTop (mkF m 0 #[vi p0, vi p1] [])) (s₁.setTop (entryFrame m #[(.int p0), (.int p1)] 2)) := fun t k => castTop (own_ef_scheck m p0 p1) k
  obtain ⟨T1, X1, e1, st1⟩ := getS2 X0 hx hZ hown (host := "") (Or.inl (ow hw 80 rfl)) Via.refl e0 S_fm (g := (mkF m 2 #[vi p0, vi p1] [(.int p1), (.int p0)])) rfl (hb hby od9)
  obtain ⟨_, _, ⟨T2, L2, k2, n2⟩, -, X2, ⟨Lc2, hQ2, l2, y2, z2⟩, st2⟩ := Jvm.LawKit.callS X1 hx (y := nm0) hown (mvT hZ (ow hw 82 rfl)) (mvT hZ (ow hw 83 rfl)) (mvT hZ (ow hw 81 rfl)) (mvT hZ (ow hw 84 rfl)) (by decide) (backOf (W := 0) (rm_pcheck l Z a0' hw [] p0 p1 fm h0 n0 Z0 hfm hlo hhi) hZ (ow hw 84 rfl) (ow hw 81 rfl) (by decide) (by decide)) (g := (mkF m 5 #[vi p0, vi p1] [fm, (.int p1), (.int p0)])) rfl (by rw [hml]; rfl) (argsL := [(.int p0), (.int p1), fm]) (rest := []) (lenOf own_pd0 rfl) rfl (by show 2 * 0 + _ ≤ _; exact Nat.le_of_eq rfl) (hb hby od10) (fun _ _ => ⟨rfl, e1, (by decide : 0 + 0 ≤ _), (by decide : 0 + 0 ≤ _)⟩)
  dsimp only [Pt.U, Pt.locs, Pt.cells, Pt.slots] at X2 l2 y2 z2 st2 hQ2
  subst l2 y2 z2
  obtain ⟨rfl, N2q, e2⟩ := hQ2
  have N2 := Fr.app N0 N2q
  obtain ⟨fs, hr, hrun, hended, hW, hsame⟩ := X2.leave (v := none) (fun _ => rfl)
  refine ⟨_, _, pre0 _ ?_, hrun, hended, _, _, rfl, ?_, ⟨_, rfl⟩, hW, hsame.mono (by decide) (by decide)⟩
  · show Steps p.tables e below (s₁.setTop (mkF m 0 #[vi p0, vi p1] [])) _
    refine XS.iloadN X0.here hx rfl (hb hby od7) rfl ?_
    refine XS.iloadN X0.here hx rfl (hb hby od8) rfl ?_
    refine st1 _ ?_
    refine st2 _ ?_
    refine XS.pop X2.here hx rfl (hb hby od11) rfl rfl ?_
    exact X2.returnOut hx Bd.returns (hb hby od12) hr
  · show Q_scheck Z p0 p1 fm h0 n0 _ T2.heap _
    refine ⟨?_, N2, e2⟩
    rfl
theorem own_pn2 : plainName "java/lang/StringLatin1" = true := by first | (simp [plainName, overriddenIn]; done) | decide +kernel
theorem od13 : decode jdk_43_method_2_code 0 = .ok (.iload_n 1, 1) := by decide +kernel
theorem od14 : decode jdk_43_method_2_code 1 = .ok (.aload_n 0, 1) := by decide +kernel
theorem od15 : decode jdk_43_method_2_code 2 = .ok (.arraylength, 1) := by decide +kernel
theorem od16 : decode jdk_43_method_2_code 3 = .ok (.invokestatic 9, 3) := by decide +kernel
theorem own_pd1 : parseMethodDescriptor "(II)V" = some ⟨[.int, .int], none⟩ := by decide +kernel
theorem od17 : decode jdk_43_method_2_code 6 = .ok (.aload_n 0, 1) := by decide +kernel
theorem od18 : decode jdk_43_method_2_code 7 = .ok (.iload_n 1, 1) := by decide +kernel
theorem od19 : decode jdk_43_method_2_code 8 = .ok (.baload, 1) := by decide +kernel
theorem od20 : decode jdk_43_method_2_code 9 = .ok (.sipush 255, 3) := by decide +kernel
theorem od21 : decode jdk_43_method_2_code 12 = .ok (.iand, 1) := by decide +kernel
theorem od22 : decode jdk_43_method_2_code 13 = .ok (.i2c, 1) := by decide +kernel
theorem od23 : decode jdk_43_method_2_code 14 = .ok (.ireturn, 1) := by decide +kernel
def F_lchar (b : Int32) : Int32 := (nar .char ((b &&& (255 : Int32)).toUInt32.toUInt16.toUInt32.toInt32))
theorem own_ef_lchar (m : MethodId) (a0 : Addr) (p1 : Int32) : entryFrame m #[(.ref a0), (.int p1)] 2 = mkF m 0 #[vr a0, vi p1] [] := by first | (simp [entryFrame, mkF, argsToLocals, Value.category]; done) | rfl
def Q_lchar (Z : State) (a0 : Addr) (p1 : Int32) (cl : Cell) (z : Int32) (b : Int32) (fm : Value) (h0 : Heap) (n0 : Nat) (v : Option Value) (h : Heap) (L : List Loc) : Prop := v = some (.int (F_lchar b)) ∧ Fr n0 L ∧ h = h0
theorem rm_lchar (l : Launch) (Z : State) (a0' : Array Value) (hw : ∀ d ∈ tables_1, d.before a0' Z = true) (ws : List Jvm.Cond) (a0 : Addr) (p1 : Int32) (cl : Cell) (z : Int32) (b : Int32) (fm : Value) (h0 : Heap) (n0 : Nat) (Z0 : n0 ≤ h0.size) (Ar : Arr Z h0 a0 cl .byte) (hsz : cl.slots.size = z.toNatClampNeg) (hnn : ¬ z < 0) (hlo : ¬ (p1 < (0 : Int32))) (hhi : p1 < z) (hat : cl.slots[p1.toNatClampNeg]? = some (.int b)) (S_fm : Sta Z h0 "jdk/internal/util/Preconditions" "SIOOBE_FORMATTER" "Ljava/util/function/BiFunction;" fm) (hfm : fm.isRef = true) :
    MF l nm2 jdk_43_method_2_code 2 (some .char) ws (⟨2, 0, 0, 27⟩ : Room) #[(.ref a0), (.int p1)] Z h0 (Q_lchar Z a0 p1 cl z b fm h0 n0) := by
  refine MetFree.of_bodySF (plainFor_of_name own_pn2) hisR ?_
  intro p e s m args below meth c s₁ Bd hml0 hP hK
  obtain ⟨rfl, hZ, hh⟩ := hP
  have hx := Bd.exec
  have hby := Bd.bytes
  have hml : c.maxLocals = 2 := hml0
  have hown : s.vm.findClass "java/lang/StringLatin1" = some m.cls := findClass_of_methodNamed Bd.named
  have hnm := (name_of_methodNamed Bd.named Bd.method).1
  have X0 : Stand p l e (⟨2, 0, 0, 27⟩ : Room) s m #[(.ref a0), (.int p1)] below meth c s₁ [] 0 0 := Stand.of_body Bd
  have e0 : s₁.heap = h0 := by rw [← hh, Bd.state]; rfl
  have N0 := Fr.nil n0
  have pre0 : PT p e below (s₁.setTop (mkF m 0 #[vr a0, vi p1] [])) (s₁.setTop (entryFrame m #[(.ref a0), (.int p1)] 2)) := fun t k => castTop (own_ef_lchar m a0 p1) k
  obtain ⟨_, _, ⟨T3, L3, k3, n3⟩, -, X3, ⟨Lc3, hQ3, l3, y3, z3⟩, st3⟩ := Jvm.LawKit.callS X0 hx (y := nm1) hown (mvT hZ (ow hw 77 rfl)) (mvT hZ (ow hw 78 rfl)) (mvT hZ (ow hw 5 rfl)) (mvT hZ (ow hw 79 rfl)) (by decide) (backOf (W := 0) (rm_scheck l Z a0' hw [] p1 z fm h0 n0 Z0 hlo hhi S_fm hfm) hZ (ow hw 79 rfl) (ow hw 5 rfl) (by decide) (by decide)) (g := (mkF m 3 #[vr a0, vi p1] [(.int z), (.int p1)])) rfl (by rw [hml]; rfl) (argsL := [(.int p1), (.int z)]) (rest := []) (lenOf own_pd1 rfl) rfl (by show 2 * 0 + _ ≤ _; exact Nat.le_of_eq rfl) (hb hby od16) (fun _ _ => ⟨rfl, e0, (by decide : 0 + 0 ≤ _), (by decide : 0 + 0 ≤ _)⟩)
  dsimp only [Pt.U, Pt.locs, Pt.cells, Pt.slots] at X3 l3 y3 z3 st3 hQ3
  subst l3 y3 z3
  obtain ⟨rfl, N3q, e3⟩ := hQ3
  have N3 := Fr.app N0 N3q
  obtain ⟨fs, hr, hrun, hended, hW, hsame⟩ := X3.leave (v := some (.int (nar .char ((b &&& (255 : Int32)).toUInt32.toUInt16.toUInt32.toInt32)))) (fun h => by rw [Bd.returns] at h; cases h)
  refine ⟨_, _, pre0 _ ?_, hrun, hended, _, _, rfl, ?_, ⟨_, rfl⟩, hW, hsame.mono (by decide) (by decide)⟩
  · show Steps p.tables e below (s₁.setTop (mkF m 0 #[vr a0, vi p1] [])) _
    refine XS.iloadN X0.here hx rfl (hb hby od13) rfl ?_
    refine XS.aloadN X0.here hx rfl (hb hby od14) rfl rfl ?_
    refine X0.arraylength hx (by rw [e0]; exact Ar.1) (State.isArrayOf_alike hZ.alike Ar.2.1) (g := (mkF m 2 #[vr a0, vi p1] [(.ref a0), (.int p1)])) rfl rfl (hb hby od15) _ ?_
    rw [len_of hsz hnn]
    refine st3 _ ?_
    refine XS.aloadN X3.here hx rfl (hb hby od17) rfl rfl ?_
    refine XS.iloadN X3.here hx rfl (hb hby od18) rfl ?_
    refine X3.baloadBytes hx (j := p1) (v := (.int b)) (by rw [e3]; exact Ar.1) (State.isArrayOf_alike hZ.alike Ar.2.1) Ar.2.2 (own_hin hsz hlo hhi) hat (g := (mkF m 8 #[vr a0, vi p1] [(.int p1), (.ref a0)])) rfl rfl (hb hby od19) _ ?_
    refine XS.sipush X3.here hx rfl (hb hby od20) ?_
    refine XS.iand X3.here hx rfl (hb hby od21) rfl ?_
    refine XS.i2c X3.here hx rfl (hb hby od22) rfl ?_
    exact retN X3 hx (t := .char) Bd.returns (by simp) (hb hby od23) hr
  · show Q_lchar Z a0 p1 cl z b fm h0 n0 _ T3.heap _
    refine ⟨?_, N3, e3⟩
    rw [F_lchar]
theorem own_pn3 : plainName "java/lang/StringUTF16" = true := by first | (simp [plainName, overriddenIn]; done) | decide +kernel
theorem od24 : decode jdk_52_method_6_code 0 = .ok (.aload_n 0, 1) := by decide +kernel
theorem od25 : decode jdk_52_method_6_code 1 = .ok (.arraylength, 1) := by decide +kernel
theorem od26 : decode jdk_52_method_6_code 2 = .ok (.iconst 1, 1) := by decide +kernel
theorem od27 : decode jdk_52_method_6_code 3 = .ok (.ishr, 1) := by decide +kernel
theorem od28 : decode jdk_52_method_6_code 4 = .ok (.ireturn, 1) := by decide +kernel
def F_ulen (z : Int32) : Int32 := (z >>> ((1 : Int32) &&& 31))
theorem own_ef_ulen (m : MethodId) (a0 : Addr) : entryFrame m #[(.ref a0)] 1 = mkF m 0 #[vr a0] [] := by first | (simp [entryFrame, mkF, argsToLocals, Value.category]; done) | rfl
def Q_ulen (Z : State) (a0 : Addr) (cl : Cell) (z : Int32) (h0 : Heap) (n0 : Nat) (v : Option Value) (h : Heap) (L : List Loc) : Prop := v = some (.int (F_ulen z)) ∧ Fr n0 L ∧ h = h0
theorem rm_ulen (l : Launch) (Z : State) (a0' : Array Value) (hw : ∀ d ∈ tables_1, d.before a0' Z = true) (ws : List Jvm.Cond) (a0 : Addr) (cl : Cell) (z : Int32) (h0 : Heap) (n0 : Nat) (Z0 : n0 ≤ h0.size) (Ar : Arr Z h0 a0 cl .byte) (hsz : cl.slots.size = z.toNatClampNeg) (hnn : ¬ z < 0) :
    MF l nm3 jdk_52_method_6_code 1 (some .int) ws (⟨0, 0, 0, 0⟩ : Room) #[(.ref a0)] Z h0 (Q_ulen Z a0 cl z h0 n0) := by
  refine MetFree.of_bodySF (plainFor_of_name own_pn3) hisR ?_
  intro p e s m args below meth c s₁ Bd hml0 hP hK
  obtain ⟨rfl, hZ, hh⟩ := hP
  have hx := Bd.exec
  have hby := Bd.bytes
  have hml : c.maxLocals = 1 := hml0
  have hown : s.vm.findClass "java/lang/StringUTF16" = some m.cls := findClass_of_methodNamed Bd.named
  have hnm := (name_of_methodNamed Bd.named Bd.method).1
  have X0 : Stand p l e (⟨0, 0, 0, 0⟩ : Room) s m #[(.ref a0)] below meth c s₁ [] 0 0 := Stand.of_body Bd
  have e0 : s₁.heap = h0 := by rw [← hh, Bd.state]; rfl
  have N0 := Fr.nil n0
  have pre0 : PT p e below (s₁.setTop (mkF m 0 #[vr a0] [])) (s₁.setTop (entryFrame m #[(.ref a0)] 1)) := fun t k => castTop (own_ef_ulen m a0) k
  obtain ⟨fs, hr, hrun, hended, hW, hsame⟩ := X0.leave (v := some (.int (z >>> ((1 : Int32) &&& 31)))) (fun h => by rw [Bd.returns] at h; cases h)
  refine ⟨_, _, pre0 _ ?_, hrun, hended, _, _, rfl, ?_, ⟨_, rfl⟩, hW, hsame.mono (by decide) (by decide)⟩
  · show Steps p.tables e below (s₁.setTop (mkF m 0 #[vr a0] [])) _
    refine XS.aloadN X0.here hx rfl (hb hby od24) rfl rfl ?_
    refine X0.arraylength hx (by rw [e0]; exact Ar.1) (State.isArrayOf_alike hZ.alike Ar.2.1) (g := (mkF m 1 #[vr a0] [(.ref a0)])) rfl rfl (hb hby od25) _ ?_
    rw [len_of hsz hnn]
    refine XS.iconst X0.here hx rfl (hb hby od26) ?_
    refine XS.ishr X0.here hx rfl (hb hby od27) rfl ?_
    exact own_retI X0 hx Bd.returns (hb hby od28) hr
  · show Q_ulen Z a0 cl z h0 n0 _ s₁.heap _
    refine ⟨?_, N0, e0⟩
    rw [F_ulen]
theorem od29 : decode jdk_52_method_91_code 0 = .ok (.iload_n 0, 1) := by decide +kernel
theorem od30 : decode jdk_52_method_91_code 1 = .ok (.aload_n 1, 1) := by decide +kernel
theorem od31 : decode jdk_52_method_91_code 2 = .ok (.invokestatic 48, 3) := by decide +kernel
theorem own_pd2 : parseMethodDescriptor "([B)I" = some ⟨[(.array .byte)], some .int⟩ := by decide +kernel
theorem od32 : decode jdk_52_method_91_code 5 = .ok (.invokestatic 414, 3) := by decide +kernel
theorem od33 : decode jdk_52_method_91_code 8 = .ok (.return_, 1) := by decide +kernel
theorem own_ef_uchk (m : MethodId) (p0 : Int32) (a1 : Addr) : entryFrame m #[(.int p0), (.ref a1)] 2 = mkF m 0 #[vi p0, vr a1] [] := by first | (simp [entryFrame, mkF, argsToLocals, Value.category]; done) | rfl
def Q_uchk (Z : State) (p0 : Int32) (a1 : Addr) (cl : Cell) (z : Int32) (fm : Value) (h0 : Heap) (n0 : Nat) (v : Option Value) (h : Heap) (L : List Loc) : Prop := v = none ∧ Fr n0 L ∧ h = h0
theorem rm_uchk (l : Launch) (Z : State) (a0' : Array Value) (hw : ∀ d ∈ tables_1, d.before a0' Z = true) (ws : List Jvm.Cond) (p0 : Int32) (a1 : Addr) (cl : Cell) (z : Int32) (fm : Value) (h0 : Heap) (n0 : Nat) (Z0 : n0 ≤ h0.size) (Ar : Arr Z h0 a1 cl .byte) (hsz : cl.slots.size = z.toNatClampNeg) (hnn : ¬ z < 0) (hlo : ¬ (p0 < (0 : Int32))) (hhi : p0 < (F_ulen z)) (S_fm : Sta Z h0 "jdk/internal/util/Preconditions" "SIOOBE_FORMATTER" "Ljava/util/function/BiFunction;" fm) (hfm : fm.isRef = true) :
    MF l nm4 jdk_52_method_91_code 2 none ws (⟨2, 0, 0, 27⟩ : Room) #[(.int p0), (.ref a1)] Z h0 (Q_uchk Z p0 a1 cl z fm h0 n0) := by
  refine MetFree.of_bodySF (plainFor_of_name own_pn3) hisR ?_
  intro p e s m args below meth c s₁ Bd hml0 hP hK
  obtain ⟨rfl, hZ, hh⟩ := hP
  have hx := Bd.exec
  have hby := Bd.bytes
  have hml : c.maxLocals = 2 := hml0
  have hown : s.vm.findClass "java/lang/StringUTF16" = some m.cls := findClass_of_methodNamed Bd.named
  have hnm := (name_of_methodNamed Bd.named Bd.method).1
  have X0 : Stand p l e (⟨2, 0, 0, 27⟩ : Room) s m #[(.int p0), (.ref a1)] below meth c s₁ [] 0 0 := Stand.of_body Bd
  have e0 : s₁.heap = h0 := by rw [← hh, Bd.state]; rfl
  have N0 := Fr.nil n0
  have pre0 : PT p e below (s₁.setTop (mkF m 0 #[vi p0, vr a1] [])) (s₁.setTop (entryFrame m #[(.int p0), (.ref a1)] 2)) := fun t k => castTop (own_ef_uchk m p0 a1) k
  obtain ⟨_, _, ⟨T4, L4, k4, n4⟩, -, X4, ⟨Lc4, hQ4, l4, y4, z4⟩, st4⟩ := Jvm.LawKit.callS X0 hx (y := nm3) hown (mvT hZ (ow hw 113 rfl)) (mvT hZ (ow hw 114 rfl)) (mvT hZ (ow hw 41 rfl)) (mvT hZ (ow hw 115 rfl)) (by decide) (backOf (W := 1) (rm_ulen l Z a0' hw [] a1 cl z h0 n0 Z0 Ar hsz hnn) hZ (ow hw 115 rfl) (ow hw 41 rfl) (by decide) (by decide)) (g := (mkF m 2 #[vi p0, vr a1] [(.ref a1), (.int p0)])) rfl (by rw [hml]; rfl) (argsL := [(.ref a1)]) (rest := [(.int p0)]) (lenOf own_pd2 rfl) rfl (by show 2 * 0 + _ ≤ _; exact Nat.le_of_eq rfl) (hb hby od31) (fun _ _ => ⟨rfl, e0, (by decide : 0 + 0 ≤ _), (by decide : 0 + 0 ≤ _)⟩)
  dsimp only [Pt.U, Pt.locs, Pt.cells, Pt.slots] at X4 l4 y4 z4 st4 hQ4
  subst l4 y4 z4
  obtain ⟨rfl, N4q, e4⟩ := hQ4
  have N4 := Fr.app N0 N4q
  obtain ⟨_, _, ⟨T5, L5, k5, n5⟩, -, X5, ⟨Lc5, hQ5, l5, y5, z5⟩, st5⟩ := Jvm.LawKit.callS X4 hx (y := nm1) hown (mvT hZ (ow hw 116 rfl)) (mvT hZ (ow hw 78 rfl)) (mvT hZ (ow hw 5 rfl)) (mvT hZ (ow hw 79 rfl)) (by decide) (backOf (W := 0) (rm_scheck l Z a0' hw [] p0 (F_ulen z) fm h0 n0 Z0 hlo hhi S_fm hfm) hZ (ow hw 79 rfl) (ow hw 5 rfl) (by decide) (by decide)) (g := (mkF m 5 #[vi p0, vr a1] [(.int (F_ulen z)), (.int p0)])) rfl (by rw [hml]; rfl) (argsL := [(.int p0), (.int (F_ulen z))]) (rest := []) (lenOf own_pd1 rfl) rfl (by show 2 * 0 + _ ≤ _; exact Nat.le_of_eq rfl) (hb hby od32) (fun _ _ => ⟨rfl, e4, (by decide : 0 + 0 ≤ _), (by decide : 0 + 0 ≤ _)⟩)
  dsimp only [Pt.U, Pt.locs, Pt.cells, Pt.slots] at X5 l5 y5 z5 st5 hQ5
  subst l5 y5 z5
  obtain ⟨rfl, N5q, e5⟩ := hQ5
  have N5 := Fr.app N4 N5q
  obtain ⟨fs, hr, hrun, hended, hW, hsame⟩ := X5.leave (v := none) (fun _ => rfl)
  refine ⟨_, _, pre0 _ ?_, hrun, hended, _, _, rfl, ?_, ⟨_, rfl⟩, hW, hsame.mono (by decide) (by decide)⟩
  · show Steps p.tables e below (s₁.setTop (mkF m 0 #[vi p0, vr a1] [])) _
    refine XS.iloadN X0.here hx rfl (hb hby od29) rfl ?_
    refine XS.aloadN X0.here hx rfl (hb hby od30) rfl rfl ?_
    refine st4 _ ?_
    refine st5 _ ?_
    exact X5.returnOut hx Bd.returns (hb hby od33) hr
  · show Q_uchk Z p0 a1 cl z fm h0 n0 _ T5.heap _
    refine ⟨?_, N5, e5⟩
    rfl
theorem od34 : decode jdk_52_method_5_code 0 = .ok (.getstatic 44, 3) := by decide +kernel
theorem od35 : decode jdk_52_method_5_code 3 = .ok (.ifCond .ne 25, 3) := by decide +kernel
theorem od36 : decode jdk_52_method_5_code 28 = .ok (.iload_n 1, 1) := by decide +kernel
theorem od37 : decode jdk_52_method_5_code 29 = .ok (.iconst 1, 1) := by decide +kernel
theorem od38 : decode jdk_52_method_5_code 30 = .ok (.ishl, 1) := by decide +kernel
theorem od39 : decode jdk_52_method_5_code 31 = .ok (.istore_n 1, 1) := by decide +kernel
theorem od40 : decode jdk_52_method_5_code 32 = .ok (.aload_n 0, 1) := by decide +kernel
theorem od41 : decode jdk_52_method_5_code 33 = .ok (.iload_n 1, 1) := by decide +kernel
theorem od42 : decode jdk_52_method_5_code 34 = .ok (.iinc 1 1, 3) := by decide +kernel
theorem od43 : decode jdk_52_method_5_code 37 = .ok (.baload, 1) := by decide +kernel
theorem od44 : decode jdk_52_method_5_code 38 = .ok (.sipush 255, 3) := by decide +kernel
theorem od45 : decode jdk_52_method_5_code 41 = .ok (.iand, 1) := by decide +kernel
theorem od46 : decode jdk_52_method_5_code 42 = .ok (.getstatic 59, 3) := by decide +kernel
theorem od47 : decode jdk_52_method_5_code 45 = .ok (.ishl, 1) := by decide +kernel
theorem od48 : decode jdk_52_method_5_code 46 = .ok (.aload_n 0, 1) := by decide +kernel
theorem od49 : decode jdk_52_method_5_code 47 = .ok (.iload_n 1, 1) := by decide +kernel
theorem od50 : decode jdk_52_method_5_code 48 = .ok (.baload, 1) := by decide +kernel
theorem od51 : decode jdk_52_method_5_code 49 = .ok (.sipush 255, 3) := by decide +kernel
theorem od52 : decode jdk_52_method_5_code 52 = .ok (.iand, 1) := by decide +kernel
theorem od53 : decode jdk_52_method_5_code 53 = .ok (.getstatic 63, 3) := by decide +kernel
theorem od54 : decode jdk_52_method_5_code 56 = .ok (.ishl, 1) := by decide +kernel
theorem od55 : decode jdk_52_method_5_code 57 = .ok (.ior, 1) := by decide +kernel
theorem od56 : decode jdk_52_method_5_code 58 = .ok (.i2c, 1) := by decide +kernel
theorem od57 : decode jdk_52_method_5_code 59 = .ok (.ireturn, 1) := by decide +kernel
def F_getC (b0 : Int32) (b1 : Int32) : Int32 := (nar .char ((((b0 &&& (255 : Int32)) <<< ((0 : Int32) &&& 31)) ||| ((b1 &&& (255 : Int32)) <<< ((8 : Int32) &&& 31))).toUInt32.toUInt16.toUInt32.toInt32))
theorem own_ef_getC (m : MethodId) (a0 : Addr) (p1 : Int32) : entryFrame m #[(.ref a0), (.int p1)] 2 = mkF m 0 #[vr a0, vi p1] [] := by first | (simp [entryFrame, mkF, argsToLocals, Value.category]; done) | rfl
def Q_getC (Z : State) (a0 : Addr) (p1 : Int32) (cl : Cell) (b0 : Int32) (b1 : Int32) (h0 : Heap) (n0 : Nat) (v : Option Value) (h : Heap) (L : List Loc) : Prop := v = some (.int (F_getC b0 b1)) ∧ Fr n0 L ∧ h = h0
theorem rm_getC (l : Launch) (Z : State) (a0' : Array Value) (hw : ∀ d ∈ tables_1, d.before a0' Z = true) (ws : List Jvm.Cond) (a0 : Addr) (p1 : Int32) (cl : Cell) (b0 : Int32) (b1 : Int32) (h0 : Heap) (n0 : Nat) (Z0 : n0 ≤ h0.size) (Ar : Arr Z h0 a0 cl .byte) (hin0 : ¬ ((p1 <<< ((1 : Int32) &&& 31)) < 0 ∨ cl.slots.size ≤ ((p1 <<< ((1 : Int32) &&& 31))).toNatClampNeg)) (hat0 : cl.slots[((p1 <<< ((1 : Int32) &&& 31))).toNatClampNeg]? = some (.int b0)) (hin1 : ¬ (((p1 <<< ((1 : Int32) &&& 31)) + (1 : Int32)) < 0 ∨ cl.slots.size ≤ (((p1 <<< ((1 : Int32) &&& 31)) + (1 : Int32))).toNatClampNeg)) (hat1 : cl.slots[(((p1 <<< ((1 : Int32) &&& 31)) + (1 : Int32))).toNatClampNeg]? = some (.int b1)) (S_ad : Sta Z h0 "java/lang/StringUTF16" "$assertionsDisabled" "Z" (.int 1)) (S_hi : Sta Z h0 "java/lang/StringUTF16" "HI_BYTE_SHIFT" "I" (.int 0)) (S_lo : Sta Z h0 "java/lang/StringUTF16" "LO_BYTE_SHIFT" "I" (.int 8)) :
    MF l nm5 jdk_52_method_5_code 2 (some .char) ws (⟨0, 0, 0, 0⟩ : Room) #[(.ref a0), (.int p1)] Z h0 (Q_getC Z a0 p1 cl b0 b1 h0 n0) := by
  refine MetFree.of_bodySF (plainFor_of_name own_pn3) hisR ?_
  intro p e s m args below meth c s₁ Bd hml0 hP hK
  obtain ⟨rfl, hZ, hh⟩ := hP
  have hx := Bd.exec
  have hby := Bd.bytes
  have hml : c.maxLocals = 2 := hml0
  have hown : s.vm.findClass "java/lang/StringUTF16" = some m.cls := findClass_of_methodNamed Bd.named
  have hnm := (name_of_methodNamed Bd.named Bd.method).1
  have X0 : Stand p l e (⟨0, 0, 0, 0⟩ : Room) s m #[(.ref a0), (.int p1)] below meth c s₁ [] 0 0 := Stand.of_body Bd
  have e0 : s₁.heap = h0 := by rw [← hh, Bd.state]; rfl
  have N0 := Fr.nil n0
  have pre0 : PT p e below (s₁.setTop (mkF m 0 #[vr a0, vi p1] [])) (s₁.setTop (entryFrame m #[(.ref a0), (.int p1)] 2)) := fun t k => castTop (own_ef_getC m a0 p1) k
  obtain ⟨T6, X6, e6, st6⟩ := getS2 X0 hx hZ hown (host := "") (Or.inl (ow hw 101 rfl)) Via.refl e0 S_ad (g := (mkF m 0 #[vr a0, vi p1] [])) rfl (hb hby od34)
  obtain ⟨T7, X7, e7, st7⟩ := getS2 X6 hx hZ hown (host := "") (Or.inl (ow hw 102 rfl)) Via.refl e6 S_hi (g := (mkF m 42 #[vr a0, vi ((p1 <<< ((1 : Int32) &&& 31)) + (1 : Int32))] [(.int (b0 &&& (255 : Int32)))])) rfl (hb hby od46)
  obtain ⟨T8, X8, e8, st8⟩ := getS2 X7 hx hZ hown (host := "") (Or.inl (ow hw 103 rfl)) Via.refl e7 S_lo (g := (mkF m 53 #[vr a0, vi ((p1 <<< ((1 : Int32) &&& 31)) + (1 : Int32))] [(.int (b1 &&& (255 : Int32))), (.int ((b0 &&& (255 : Int32)) <<< ((0 : Int32) &&& 31)))])) rfl (hb hby od53)
  obtain ⟨fs, hr, hrun, hended, hW, hsame⟩ := X8.leave (v := some (.int (nar .char ((((b0 &&& (255 : Int32)) <<< ((0 : Int32) &&& 31)) ||| ((b1 &&& (255 : Int32)) <<< ((8 : Int32) &&& 31))).toUInt32.toUInt16.toUInt32.toInt32)))) (fun h => by rw [Bd.returns] at h; cases h)
  refine ⟨_, _, pre0 _ ?_, hrun, hended, _, _, rfl, ?_, ⟨_, rfl⟩, hW, hsame.mono (by decide) (by decide)⟩
  · show Steps p.tables e below (s₁.setTop (mkF m 0 #[vr a0, vi p1] [])) _
    refine st6 _ ?_
    refine XS.ifYes X6.here hx rfl (pc0 := 3) (pc' := 28) rfl (hb hby od35) rfl ((if0 _ _).trans (feq (by decide : ¬ ((1 : Int32) = (0 : Int32)))).2) (by decide) (by decide) ?_
    refine XS.iloadN X6.here hx rfl (hb hby od36) rfl ?_
    refine XS.iconst X6.here hx rfl (hb hby od37) ?_
    refine XS.ishl X6.here hx rfl (hb hby od38) rfl ?_
    refine XS.istoreN X6.here hx rfl (hb hby od39) rfl (l' := #[vr a0, vi (p1 <<< ((1 : Int32) &&& 31))]) rfl ?_
    refine XS.aloadN X6.here hx rfl (hb hby od40) rfl rfl ?_
    refine XS.iloadN X6.here hx rfl (hb hby od41) rfl ?_
    refine XS.iinc X6.here hx rfl (hb hby od42) rfl (l' := #[vr a0, vi ((p1 <<< ((1 : Int32) &&& 31)) + (1 : Int32))]) rfl ?_
    refine X6.baloadBytes hx (j := (p1 <<< ((1 : Int32) &&& 31))) (v := (.int b0)) (by rw [e6]; exact Ar.1) (State.isArrayOf_alike hZ.alike Ar.2.1) Ar.2.2 hin0 hat0 (g := (mkF m 37 #[vr a0, vi ((p1 <<< ((1 : Int32) &&& 31)) + (1 : Int32))] [(.int (p1 <<< ((1 : Int32) &&& 31))), (.ref a0)])) rfl rfl (hb hby od43) _ ?_
    refine XS.sipush X6.here hx rfl (hb hby od44) ?_
    refine XS.iand X6.here hx rfl (hb hby od45) rfl ?_
    refine st7 _ ?_
    refine XS.ishl X7.here hx rfl (hb hby od47) rfl ?_
    refine XS.aloadN X7.here hx rfl (hb hby od48) rfl rfl ?_
    refine XS.iloadN X7.here hx rfl (hb hby od49) rfl ?_
    refine X7.baloadBytes hx (j := ((p1 <<< ((1 : Int32) &&& 31)) + (1 : Int32))) (v := (.int b1)) (by rw [e7]; exact Ar.1) (State.isArrayOf_alike hZ.alike Ar.2.1) Ar.2.2 hin1 hat1 (g := (mkF m 48 #[vr a0, vi ((p1 <<< ((1 : Int32) &&& 31)) + (1 : Int32))] [(.int ((p1 <<< ((1 : Int32) &&& 31)) + (1 : Int32))), (.ref a0), (.int ((b0 &&& (255 : Int32)) <<< ((0 : Int32) &&& 31)))])) rfl rfl (hb hby od50) _ ?_
    refine XS.sipush X7.here hx rfl (hb hby od51) ?_
    refine XS.iand X7.here hx rfl (hb hby od52) rfl ?_
    refine st8 _ ?_
    refine XS.ishl X8.here hx rfl (hb hby od54) rfl ?_
    refine XS.ior X8.here hx rfl (hb hby od55) rfl ?_
    refine XS.i2c X8.here hx rfl (hb hby od56) rfl ?_
    exact retN X8 hx (t := .char) Bd.returns (by simp) (hb hby od57) hr
  · show Q_getC Z a0 p1 cl b0 b1 h0 n0 _ T8.heap _
    refine ⟨?_, N0, e8⟩
    rw [F_getC]
theorem od58 : decode jdk_52_method_83_code 0 = .ok (.iload_n 1, 1) := by decide +kernel
theorem od59 : decode jdk_52_method_83_code 1 = .ok (.aload_n 0, 1) := by decide +kernel
theorem od60 : decode jdk_52_method_83_code 2 = .ok (.invokestatic 67, 3) := by decide +kernel
theorem own_pd3 : parseMethodDescriptor "(I[B)V" = some ⟨[.int, (.array .byte)], none⟩ := by decide +kernel
theorem od61 : decode jdk_52_method_83_code 5 = .ok (.aload_n 0, 1) := by decide +kernel
theorem od62 : decode jdk_52_method_83_code 6 = .ok (.iload_n 1, 1) := by decide +kernel
theorem od63 : decode jdk_52_method_83_code 7 = .ok (.invokestatic 71, 3) := by decide +kernel
theorem own_pd4 : parseMethodDescriptor "([BI)C" = some ⟨[(.array .byte), .int], some .char⟩ := by decide +kernel
theorem od64 : decode jdk_52_method_83_code 10 = .ok (.ireturn, 1) := by decide +kernel
def F_uchr (b0 : Int32) (b1 : Int32) : Int32 := (nar .char (F_getC b0 b1))
theorem own_ef_uchr (m : MethodId) (a0 : Addr) (p1 : Int32) : entryFrame m #[(.ref a0), (.int p1)] 2 = mkF m 0 #[vr a0, vi p1] [] := by first | (simp [entryFrame, mkF, argsToLocals, Value.category]; done) | rfl
def Q_uchr (Z : State) (a0 : Addr) (p1 : Int32) (cl : Cell) (z : Int32) (b0 : Int32) (b1 : Int32) (fm : Value) (h0 : Heap) (n0 : Nat) (v : Option Value) (h : Heap) (L : List Loc) : Prop := v = some (.int (F_uchr b0 b1)) ∧ Fr n0 L ∧ h = h0
theorem rm_uchr (l : Launch) (Z : State) (a0' : Array Value) (hw : ∀ d ∈ tables_1, d.before a0' Z = true) (ws : List Jvm.Cond) (a0 : Addr) (p1 : Int32) (cl : Cell) (z : Int32) (b0 : Int32) (b1 : Int32) (fm : Value) (h0 : Heap) (n0 : Nat) (Z0 : n0 ≤ h0.size) (Ar : Arr Z h0 a0 cl .byte) (hin0 : ¬ ((p1 <<< ((1 : Int32) &&& 31)) < 0 ∨ cl.slots.size ≤ ((p1 <<< ((1 : Int32) &&& 31))).toNatClampNeg)) (hat0 : cl.slots[((p1 <<< ((1 : Int32) &&& 31))).toNatClampNeg]? = some (.int b0)) (hin1 : ¬ (((p1 <<< ((1 : Int32) &&& 31)) + (1 : Int32)) < 0 ∨ cl.slots.size ≤ (((p1 <<< ((1 : Int32) &&& 31)) + (1 : Int32))).toNatClampNeg)) (hat1 : cl.slots[(((p1 <<< ((1 : Int32) &&& 31)) + (1 : Int32))).toNatClampNeg]? = some (.int b1)) (hsz : cl.slots.size = z.toNatClampNeg) (hnn : ¬ z < 0) (hlo : ¬ (p1 < (0 : Int32))) (hhi : p1 < (F_ulen z)) (S_fm : Sta Z h0 "jdk/internal/util/Preconditions" "SIOOBE_FORMATTER" "Ljava/util/function/BiFunction;" fm) (hfm : fm.isRef = true) (S_ad : Sta Z h0 "java/lang/StringUTF16" "$assertionsDisabled" "Z" (.int 1)) (S_hi : Sta Z h0 "java/lang/StringUTF16" "HI_BYTE_SHIFT" "I" (.int 0)) (S_lo : Sta Z h0 "java/lang/StringUTF16" "LO_BYTE_SHIFT" "I" (.int 8)) :
    MF l nm6 jdk_52_method_83_code 2 (some .char) ws (⟨3, 0, 0, 40⟩ : Room) #[(.ref a0), (.int p1)] Z h0 (Q_uchr Z a0 p1 cl z b0 b1 fm h0 n0) := by
  refine MetFree.of_bodySF (plainFor_of_name own_pn3) hisR ?_
  intro p e s m args below meth c s₁ Bd hml0 hP hK
  obtain ⟨rfl, hZ, hh⟩ := hP
  have hx := Bd.exec
  have hby := Bd.bytes
  have hml : c.maxLocals = 2 := hml0
  have hown : s.vm.findClass "java/lang/StringUTF16" = some m.cls := findClass_of_methodNamed Bd.named
  have hnm := (name_of_methodNamed Bd.named Bd.method).1
  have X0 : Stand p l e (⟨3, 0, 0, 40⟩ : Room) s m #[(.ref a0), (.int p1)] below meth c s₁ [] 0 0 := Stand.of_body Bd
  have e0 : s₁.heap = h0 := by rw [← hh, Bd.state]; rfl
  have N0 := Fr.nil n0
  have pre0 : PT p e below (s₁.setTop (mkF m 0 #[vr a0, vi p1] [])) (s₁.setTop (entryFrame m #[(.ref a0), (.int p1)] 2)) := fun t k => castTop (own_ef_uchr m a0 p1) k
  obtain ⟨_, _, ⟨T9, L9, k9, n9⟩, -, X9, ⟨Lc9, hQ9, l9, y9, z9⟩, st9⟩ := Jvm.LawKit.callS X0 hx (y := nm4) hown (mvT hZ (ow hw 110 rfl)) (mvT hZ (ow hw 111 rfl)) (mvT hZ (ow hw 41 rfl)) (mvT hZ (ow hw 112 rfl)) (by decide) (backOf (W := 0) (rm_uchk l Z a0' hw [] p1 a0 cl z fm h0 n0 Z0 Ar hsz hnn hlo hhi S_fm hfm) hZ (ow hw 112 rfl) (ow hw 41 rfl) (by decide) (by decide)) (g := (mkF m 2 #[vr a0, vi p1] [(.ref a0), (.int p1)])) rfl (by rw [hml]; rfl) (argsL := [(.int p1), (.ref a0)]) (rest := []) (lenOf own_pd3 rfl) rfl (by show 2 * 0 + _ ≤ _; exact Nat.le_of_eq rfl) (hb hby od60) (fun _ _ => ⟨rfl, e0, (by decide : 0 + 0 ≤ _), (by decide : 0 + 0 ≤ _)⟩)
  dsimp only [Pt.U, Pt.locs, Pt.cells, Pt.slots] at X9 l9 y9 z9 st9 hQ9
  subst l9 y9 z9
  obtain ⟨rfl, N9q, e9⟩ := hQ9
  have N9 := Fr.app N0 N9q
  obtain ⟨_, _, ⟨T10, L10, k10, n10⟩, -, X10, ⟨Lc10, hQ10, l10, y10, z10⟩, st10⟩ := Jvm.LawKit.callS X9 hx (y := nm5) hown (mvT hZ (ow hw 104 rfl)) (mvT hZ (ow hw 105 rfl)) (mvT hZ (ow hw 41 rfl)) (mvT hZ (ow hw 106 rfl)) (by decide) (backOf (W := 0) (rm_getC l Z a0' hw [] a0 p1 cl b0 b1 h0 n0 Z0 Ar hin0 hat0 hin1 hat1 S_ad S_hi S_lo) hZ (ow hw 106 rfl) (ow hw 41 rfl) (by decide) (by decide)) (g := (mkF m 7 #[vr a0, vi p1] [(.int p1), (.ref a0)])) rfl (by rw [hml]; rfl) (argsL := [(.ref a0), (.int p1)]) (rest := []) (lenOf own_pd4 rfl) rfl (by show 2 * 0 + _ ≤ _; exact Nat.le_of_eq rfl) (hb hby od63) (fun _ _ => ⟨rfl, e9, (by decide : 0 + 0 ≤ _), (by decide : 0 + 0 ≤ _)⟩)
  dsimp only [Pt.U, Pt.locs, Pt.cells, Pt.slots] at X10 l10 y10 z10 st10 hQ10
  subst l10 y10 z10
  obtain ⟨rfl, N10q, e10⟩ := hQ10
  have N10 := Fr.app N9 N10q
  obtain ⟨fs, hr, hrun, hended, hW, hsame⟩ := X10.leave (v := some (.int (nar .char (F_getC b0 b1)))) (fun h => by rw [Bd.returns] at h; cases h)
  refine ⟨_, _, pre0 _ ?_, hrun, hended, _, _, rfl, ?_, ⟨_, rfl⟩, hW, hsame.mono (by decide) (by decide)⟩
  · show Steps p.tables e below (s₁.setTop (mkF m 0 #[vr a0, vi p1] [])) _
    refine XS.iloadN X0.here hx rfl (hb hby od58) rfl ?_
    refine XS.aloadN X0.here hx rfl (hb hby od59) rfl rfl ?_
    refine st9 _ ?_
    refine XS.aloadN X9.here hx rfl (hb hby od61) rfl rfl ?_
    refine XS.iloadN X9.here hx rfl (hb hby od62) rfl ?_
    refine st10 _ ?_
    exact retN X10 hx (t := .char) Bd.returns (by simp) (hb hby od64) hr
  · show Q_uchr Z a0 p1 cl z b0 b1 fm h0 n0 _ T10.heap _
    refine ⟨?_, N10, e10⟩
    rw [F_uchr]
theorem od65 : decode jdk_42_method_154_code 0 = .ok (.getstatic 38, 3) := by decide +kernel
theorem od66 : decode jdk_42_method_154_code 3 = .ok (.ifCond .eq 14, 3) := by decide +kernel
theorem od67 : decode jdk_42_method_154_code 6 = .ok (.aload_n 0, 1) := by decide +kernel
theorem od68 : decode jdk_42_method_154_code 7 = .ok (.getfield 15, 3) := by decide +kernel
theorem od69 : decode jdk_42_method_154_code 10 = .ok (.ifCond .ne 7, 3) := by decide +kernel
theorem od70 : decode jdk_42_method_154_code 13 = .ok (.iconst 1, 1) := by decide +kernel
theorem od71 : decode jdk_42_method_154_code 14 = .ok (.goto 4, 3) := by decide +kernel
theorem od72 : decode jdk_42_method_154_code 18 = .ok (.ireturn, 1) := by decide +kernel
def F_latL  : Int32 := (1 : Int32)
theorem own_ef_latL (m : MethodId) (a0 : Addr) : entryFrame m #[(.ref a0)] 1 = mkF m 0 #[vr a0] [] := by first | (simp [entryFrame, mkF, argsToLocals, Value.category]; done) | rfl
def Q_latL (Z : State) (a0 : Addr) (kc : Int32) (h0 : Heap) (n0 : Nat) (v : Option Value) (h : Heap) (L : List Loc) : Prop := v = some (.int F_latL) ∧ Fr n0 L ∧ h = h0
theorem rm_latL (l : Launch) (Z : State) (a0' : Array Value) (hw : ∀ d ∈ tables_1, d.before a0' Z = true) (ws : List Jvm.Cond) (a0 : Addr) (kc : Int32) (h0 : Heap) (n0 : Nat) (Z0 : n0 ≤ h0.size) (HC : Fld Z h0 a0 "java/lang/String" "coder" "B" (.int 0)) (S_cs : Sta Z h0 "java/lang/String" "COMPACT_STRINGS" "Z" (.int kc)) (hkc : ¬ (kc = (0 : Int32))) :
    MF l nm7 jdk_42_method_154_code 1 (some .boolean) ws (⟨0, 0, 0, 0⟩ : Room) #[(.ref a0)] Z h0 (Q_latL Z a0 kc h0 n0) := by
  refine MetFree.of_bodySF (plainFor_of_name own_pn1) hisR ?_
  intro p e s m args below meth c s₁ Bd hml0 hP hK
  obtain ⟨rfl, hZ, hh⟩ := hP
  have hx := Bd.exec
  have hby := Bd.bytes
  have hml : c.maxLocals = 1 := hml0
  have hown : s.vm.findClass "java/lang/String" = some m.cls := findClass_of_methodNamed Bd.named
  have hnm := (name_of_methodNamed Bd.named Bd.method).1
  have X0 : Stand p l e (⟨0, 0, 0, 0⟩ : Room) s m #[(.ref a0)] below meth c s₁ [] 0 0 := Stand.of_body Bd
  have e0 : s₁.heap = h0 := by rw [← hh, Bd.state]; rfl
  have N0 := Fr.nil n0
  have pre0 : PT p e below (s₁.setTop (mkF m 0 #[vr a0] [])) (s₁.setTop (entryFrame m #[(.ref a0)] 1)) := fun t k => castTop (own_ef_latL m a0) k
  obtain ⟨T11, X11, e11, st11⟩ := getS2 X0 hx hZ hown (host := "") (Or.inl (ow hw 38 rfl)) Via.refl e0 S_cs (g := (mkF m 0 #[vr a0] [])) rfl (hb hby od65)
  obtain ⟨T12, X12, e12, st12⟩ := getF X11 hx hZ hown (host := "") (Or.inl (ow hw 23 rfl)) Via.refl e11 HC (g := (mkF m 7 #[vr a0] [(.ref a0)])) rfl rfl (hb hby od68)
  obtain ⟨fs, hr, hrun, hended, hW, hsame⟩ := X12.leave (v := some (.int 1)) (fun h => by rw [Bd.returns] at h; cases h)
  refine ⟨_, _, pre0 _ ?_, hrun, hended, _, _, rfl, ?_, ⟨_, rfl⟩, hW, hsame.mono (by decide) (by decide)⟩
  · show Steps p.tables e below (s₁.setTop (mkF m 0 #[vr a0] [])) _
    refine st11 _ ?_
    refine XS.ifNo X11.here hx rfl (hb hby od66) rfl ((if0 _ _).trans (feq hkc).1) ?_
    refine XS.aloadN X11.here hx rfl (hb hby od67) rfl rfl ?_
    refine st12 _ ?_
    refine XS.ifNo X12.here hx rfl (hb hby od69) rfl ((if0 _ _).trans (teq (by decide : (0 : Int32) = (0 : Int32))).2) ?_
    refine XS.iconst X12.here hx rfl (hb hby od70) ?_
    refine XS.goto X12.here hx rfl (pc0 := 14) (pc' := 18) rfl (hb hby od71) (by decide) (by decide) ?_
    exact retN X12 hx (t := .boolean) Bd.returns (by simp) (hb hby od72) hr
  · show Q_latL Z a0 kc h0 n0 _ T12.heap _
    refine ⟨?_, N0, e12⟩
    rw [F_latL]
theorem od73 : decode jdk_42_method_152_code 0 = .ok (.getstatic 38, 3) := by decide +kernel
theorem od74 : decode jdk_42_method_152_code 3 = .ok (.ifCond .eq 10, 3) := by decide +kernel
theorem od75 : decode jdk_42_method_152_code 6 = .ok (.aload_n 0, 1) := by decide +kernel
theorem od76 : decode jdk_42_method_152_code 7 = .ok (.getfield 15, 3) := by decide +kernel
theorem od77 : decode jdk_42_method_152_code 10 = .ok (.goto 4, 3) := by decide +kernel
theorem od78 : decode jdk_42_method_152_code 14 = .ok (.ireturn, 1) := by decide +kernel
def F_codL  : Int32 := (0 : Int32)
theorem own_ef_codL (m : MethodId) (a0 : Addr) : entryFrame m #[(.ref a0)] 1 = mkF m 0 #[vr a0] [] := by first | (simp [entryFrame, mkF, argsToLocals, Value.category]; done) | rfl
def Q_codL (Z : State) (a0 : Addr) (kc : Int32) (h0 : Heap) (n0 : Nat) (v : Option Value) (h : Heap) (L : List Loc) : Prop := v = some (.int F_codL) ∧ Fr n0 L ∧ h = h0
theorem rm_codL (l : Launch) (Z : State) (a0' : Array Value) (hw : ∀ d ∈ tables_1, d.before a0' Z = true) (ws : List Jvm.Cond) (a0 : Addr) (kc : Int32) (h0 : Heap) (n0 : Nat) (Z0 : n0 ≤ h0.size) (HC : Fld Z h0 a0 "java/lang/String" "coder" "B" (.int 0)) (S_cs : Sta Z h0 "java/lang/String" "COMPACT_STRINGS" "Z" (.int kc)) (hkc : ¬ (kc = (0 : Int32))) :
    MF l nm8 jdk_42_method_152_code 1 (some .byte) ws (⟨0, 0, 0, 0⟩ : Room) #[(.ref a0)] Z h0 (Q_codL Z a0 kc h0 n0) := by
  refine MetFree.of_bodySF (plainFor_of_name own_pn1) hisR ?_
  intro p e s m args below meth c s₁ Bd hml0 hP hK
  obtain ⟨rfl, hZ, hh⟩ := hP
  have hx := Bd.exec
  have hby := Bd.bytes
  have hml : c.maxLocals = 1 := hml0
  have hown : s.vm.findClass "java/lang/String" = some m.cls := findClass_of_methodNamed Bd.named
  have hnm := (name_of_methodNamed Bd.named Bd.method).1
  have X0 : Stand p l e (⟨0, 0, 0, 0⟩ : Room) s m #[(.ref a0)] below meth c s₁ [] 0 0 := Stand.of_body Bd
  have e0 : s₁.heap = h0 := by rw [← hh, Bd.state]; rfl
  have N0 := Fr.nil n0
  have pre0 : PT p e below (s₁.setTop (mkF m 0 #[vr a0] [])) (s₁.setTop (entryFrame m #[(.ref a0)] 1)) := fun t k => castTop (own_ef_codL m a0) k
  obtain ⟨T13, X13, e13, st13⟩ := getS2 X0 hx hZ hown (host := "") (Or.inl (ow hw 38 rfl)) Via.refl e0 S_cs (g := (mkF m 0 #[vr a0] [])) rfl (hb hby od73)
  obtain ⟨T14, X14, e14, st14⟩ := getF X13 hx hZ hown (host := "") (Or.inl (ow hw 23 rfl)) Via.refl e13 HC (g := (mkF m 7 #[vr a0] [(.ref a0)])) rfl rfl (hb hby od76)
  obtain ⟨fs, hr, hrun, hended, hW, hsame⟩ := X14.leave (v := some (.int 0)) (fun h => by rw [Bd.returns] at h; cases h)
  refine ⟨_, _, pre0 _ ?_, hrun, hended, _, _, rfl, ?_, ⟨_, rfl⟩, hW, hsame.mono (by decide) (by decide)⟩
  · show Steps p.tables e below (s₁.setTop (mkF m 0 #[vr a0] [])) _
    refine st13 _ ?_
    refine XS.ifNo X13.here hx rfl (hb hby od74) rfl ((if0 _ _).trans (feq hkc).1) ?_
    refine XS.aloadN X13.here hx rfl (hb hby od75) rfl rfl ?_
    refine st14 _ ?_
    refine XS.goto X14.here hx rfl (pc0 := 10) (pc' := 14) rfl (hb hby od77) (by decide) (by decide) ?_
    exact retN X14 hx (t := .byte) Bd.returns (by simp) (hb hby od78) hr
  · show Q_codL Z a0 kc h0 n0 _ T14.heap _
    refine ⟨?_, N0, e14⟩
    rw [F_codL]
theorem od79 : decode jdk_42_method_154_code 17 = .ok (.iconst 0, 1) := by decide +kernel
def F_latU  : Int32 := (0 : Int32)
theorem own_ef_latU (m : MethodId) (a0 : Addr) : entryFrame m #[(.ref a0)] 1 = mkF m 0 #[vr a0] [] := by first | (simp [entryFrame, mkF, argsToLocals, Value.category]; done) | rfl
def Q_latU (Z : State) (a0 : Addr) (kc : Int32) (h0 : Heap) (n0 : Nat) (v : Option Value) (h : Heap) (L : List Loc) : Prop := v = some (.int F_latU) ∧ Fr n0 L ∧ h = h0
theorem rm_latU (l : Launch) (Z : State) (a0' : Array Value) (hw : ∀ d ∈ tables_1, d.before a0' Z = true) (ws : List Jvm.Cond) (a0 : Addr) (kc : Int32) (h0 : Heap) (n0 : Nat) (Z0 : n0 ≤ h0.size) (HC : Fld Z h0 a0 "java/lang/String" "coder" "B" (.int 1)) (S_cs : Sta Z h0 "java/lang/String" "COMPACT_STRINGS" "Z" (.int kc)) (hkc : ¬ (kc = (0 : Int32))) :
    MF l nm7 jdk_42_method_154_code 1 (some .boolean) ws (⟨0, 0, 0, 0⟩ : Room) #[(.ref a0)] Z h0 (Q_latU Z a0 kc h0 n0) := by
  refine MetFree.of_bodySF (plainFor_of_name own_pn1) hisR ?_
  intro p e s m args below meth c s₁ Bd hml0 hP hK
  obtain ⟨rfl, hZ, hh⟩ := hP
  have hx := Bd.exec
  have hby := Bd.bytes
  have hml : c.maxLocals = 1 := hml0
  have hown : s.vm.findClass "java/lang/String" = some m.cls := findClass_of_methodNamed Bd.named
  have hnm := (name_of_methodNamed Bd.named Bd.method).1
  have X0 : Stand p l e (⟨0, 0, 0, 0⟩ : Room) s m #[(.ref a0)] below meth c s₁ [] 0 0 := Stand.of_body Bd
  have e0 : s₁.heap = h0 := by rw [← hh, Bd.state]; rfl
  have N0 := Fr.nil n0
  have pre0 : PT p e below (s₁.setTop (mkF m 0 #[vr a0] [])) (s₁.setTop (entryFrame m #[(.ref a0)] 1)) := fun t k => castTop (own_ef_latU m a0) k
  obtain ⟨T15, X15, e15, st15⟩ := getS2 X0 hx hZ hown (host := "") (Or.inl (ow hw 38 rfl)) Via.refl e0 S_cs (g := (mkF m 0 #[vr a0] [])) rfl (hb hby od65)
  obtain ⟨T16, X16, e16, st16⟩ := getF X15 hx hZ hown (host := "") (Or.inl (ow hw 23 rfl)) Via.refl e15 HC (g := (mkF m 7 #[vr a0] [(.ref a0)])) rfl rfl (hb hby od68)
  obtain ⟨fs, hr, hrun, hended, hW, hsame⟩ := X16.leave (v := some (.int 0)) (fun h => by rw [Bd.returns] at h; cases h)
  refine ⟨_, _, pre0 _ ?_, hrun, hended, _, _, rfl, ?_, ⟨_, rfl⟩, hW, hsame.mono (by decide) (by decide)⟩
  · show Steps p.tables e below (s₁.setTop (mkF m 0 #[vr a0] [])) _
    refine st15 _ ?_
    refine XS.ifNo X15.here hx rfl (hb hby od66) rfl ((if0 _ _).trans (feq hkc).1) ?_
    refine XS.aloadN X15.here hx rfl (hb hby od67) rfl rfl ?_
    refine st16 _ ?_
    refine XS.ifYes X16.here hx rfl (pc0 := 10) (pc' := 17) rfl (hb hby od69) rfl ((if0 _ _).trans (feq (by decide : ¬ ((1 : Int32) = (0 : Int32)))).2) (by decide) (by decide) ?_
    refine XS.iconst X16.here hx rfl (hb hby od79) ?_
    exact retN X16 hx (t := .boolean) Bd.returns (by simp) (hb hby od72) hr
  · show Q_latU Z a0 kc h0 n0 _ T16.heap _
    refine ⟨?_, N0, e16⟩
    rw [F_latU]
def F_codU  : Int32 := (1 : Int32)
theorem own_ef_codU (m : MethodId) (a0 : Addr) : entryFrame m #[(.ref a0)] 1 = mkF m 0 #[vr a0] [] := by first | (simp [entryFrame, mkF, argsToLocals, Value.category]; done) | rfl
def Q_codU (Z : State) (a0 : Addr) (kc : Int32) (h0 : Heap) (n0 : Nat) (v : Option Value) (h : Heap) (L : List Loc) : Prop := v = some (.int F_codU) ∧ Fr n0 L ∧ h = h0
theorem rm_codU (l : Launch) (Z : State) (a0' : Array Value) (hw : ∀ d ∈ tables_1, d.before a0' Z = true) (ws : List Jvm.Cond) (a0 : Addr) (kc : Int32) (h0 : Heap) (n0 : Nat) (Z0 : n0 ≤ h0.size) (HC : Fld Z h0 a0 "java/lang/String" "coder" "B" (.int 1)) (S_cs : Sta Z h0 "java/lang/String" "COMPACT_STRINGS" "Z" (.int kc)) (hkc : ¬ (kc = (0 : Int32))) :
    MF l nm8 jdk_42_method_152_code 1 (some .byte) ws (⟨0, 0, 0, 0⟩ : Room) #[(.ref a0)] Z h0 (Q_codU Z a0 kc h0 n0) := by
  refine MetFree.of_bodySF (plainFor_of_name own_pn1) hisR ?_
  intro p e s m args below meth c s₁ Bd hml0 hP hK
  obtain ⟨rfl, hZ, hh⟩ := hP
  have hx := Bd.exec
  have hby := Bd.bytes
  have hml : c.maxLocals = 1 := hml0
  have hown : s.vm.findClass "java/lang/String" = some m.cls := findClass_of_methodNamed Bd.named
  have hnm := (name_of_methodNamed Bd.named Bd.method).1
  have X0 : Stand p l e (⟨0, 0, 0, 0⟩ : Room) s m #[(.ref a0)] below meth c s₁ [] 0 0 := Stand.of_body Bd
  have e0 : s₁.heap = h0 := by rw [← hh, Bd.state]; rfl
  have N0 := Fr.nil n0
  have pre0 : PT p e below (s₁.setTop (mkF m 0 #[vr a0] [])) (s₁.setTop (entryFrame m #[(.ref a0)] 1)) := fun t k => castTop (own_ef_codU m a0) k
  obtain ⟨T17, X17, e17, st17⟩ := getS2 X0 hx hZ hown (host := "") (Or.inl (ow hw 38 rfl)) Via.refl e0 S_cs (g := (mkF m 0 #[vr a0] [])) rfl (hb hby od73)
  obtain ⟨T18, X18, e18, st18⟩ := getF X17 hx hZ hown (host := "") (Or.inl (ow hw 23 rfl)) Via.refl e17 HC (g := (mkF m 7 #[vr a0] [(.ref a0)])) rfl rfl (hb hby od76)
  obtain ⟨fs, hr, hrun, hended, hW, hsame⟩ := X18.leave (v := some (.int 1)) (fun h => by rw [Bd.returns] at h; cases h)
  refine ⟨_, _, pre0 _ ?_, hrun, hended, _, _, rfl, ?_, ⟨_, rfl⟩, hW, hsame.mono (by decide) (by decide)⟩
  · show Steps p.tables e below (s₁.setTop (mkF m 0 #[vr a0] [])) _
    refine st17 _ ?_
    refine XS.ifNo X17.here hx rfl (hb hby od74) rfl ((if0 _ _).trans (feq hkc).1) ?_
    refine XS.aloadN X17.here hx rfl (hb hby od75) rfl rfl ?_
    refine st18 _ ?_
    refine XS.goto X18.here hx rfl (pc0 := 10) (pc' := 14) rfl (hb hby od77) (by decide) (by decide) ?_
    exact retN X18 hx (t := .byte) Bd.returns (by simp) (hb hby od78) hr
  · show Q_codU Z a0 kc h0 n0 _ T18.heap _
    refine ⟨?_, N0, e18⟩
    rw [F_codU]
theorem od80 : decode jdk_42_method_56_code 0 = .ok (.aload_n 0, 1) := by decide +kernel
theorem od81 : decode jdk_42_method_56_code 1 = .ok (.invokevirtual 492, 3) := by decide +kernel
theorem own_pd5 : parseMethodDescriptor "()Z" = some ⟨[], some .boolean⟩ := by decide +kernel
theorem od82 : decode jdk_42_method_56_code 4 = .ok (.ifCond .eq 12, 3) := by decide +kernel
theorem od83 : decode jdk_42_method_56_code 16 = .ok (.aload_n 0, 1) := by decide +kernel
theorem od84 : decode jdk_42_method_56_code 17 = .ok (.getfield 9, 3) := by decide +kernel
theorem od85 : decode jdk_42_method_56_code 20 = .ok (.iload_n 1, 1) := by decide +kernel
theorem od86 : decode jdk_42_method_56_code 21 = .ok (.invokestatic 498, 3) := by decide +kernel
theorem od87 : decode jdk_42_method_56_code 24 = .ok (.ireturn, 1) := by decide +kernel
def F_chrU (b0 : Int32) (b1 : Int32) : Int32 := (nar .char (F_uchr b0 b1))
theorem own_ef_chrU (m : MethodId) (a0 : Addr) (p1 : Int32) : entryFrame m #[(.ref a0), (.int p1)] 2 = mkF m 0 #[vr a0, vi p1] [] := by first | (simp [entryFrame, mkF, argsToLocals, Value.category]; done) | rfl
def Q_chrU (Z : State) (a0 : Addr) (p1 : Int32) (va : Addr) (cl : Cell) (z : Int32) (b0 : Int32) (b1 : Int32) (kc : Int32) (fm : Value) (h0 : Heap) (n0 : Nat) (v : Option Value) (h : Heap) (L : List Loc) : Prop := v = some (.int (F_chrU b0 b1)) ∧ Fr n0 L ∧ h = h0
theorem rm_chrU (l : Launch) (Z : State) (a0' : Array Value) (hw : ∀ d ∈ tables_1, d.before a0' Z = true) (ws : List Jvm.Cond) (a0 : Addr) (p1 : Int32) (va : Addr) (cl : Cell) (z : Int32) (b0 : Int32) (b1 : Int32) (kc : Int32) (fm : Value) (h0 : Heap) (n0 : Nat) (Z0 : n0 ≤ h0.size) (HE : Exa Z h0 a0 "java/lang/String") (HC : Fld Z h0 a0 "java/lang/String" "coder" "B" (.int 1)) (HV : Fld Z h0 a0 "java/lang/String" "value" "[B" (.ref va)) (Ar : Arr Z h0 va cl .byte) (hin0 : ¬ ((p1 <<< ((1 : Int32) &&& 31)) < 0 ∨ cl.slots.size ≤ ((p1 <<< ((1 : Int32) &&& 31))).toNatClampNeg)) (hat0 : cl.slots[((p1 <<< ((1 : Int32) &&& 31))).toNatClampNeg]? = some (.int b0)) (hin1 : ¬ (((p1 <<< ((1 : Int32) &&& 31)) + (1 : Int32)) < 0 ∨ cl.slots.size ≤ (((p1 <<< ((1 : Int32) &&& 31)) + (1 : Int32))).toNatClampNeg)) (hat1 : cl.slots[(((p1 <<< ((1 : Int32) &&& 31)) + (1 : Int32))).toNatClampNeg]? = some (.int b1)) (hsz : cl.slots.size = z.toNatClampNeg) (hnn : ¬ z < 0) (hlo : ¬ (p1 < (0 : Int32))) (hhi : p1 < (F_ulen z)) (S_cs : Sta Z h0 "java/lang/String" "COMPACT_STRINGS" "Z" (.int kc)) (hkc : ¬ (kc = (0 : Int32))) (S_fm : Sta Z h0 "jdk/internal/util/Preconditions" "SIOOBE_FORMATTER" "Ljava/util/function/BiFunction;" fm) (hfm : fm.isRef = true) (S_ad : Sta Z h0 "java/lang/StringUTF16" "$assertionsDisabled" "Z" (.int 1)) (S_hi : Sta Z h0 "java/lang/StringUTF16" "HI_BYTE_SHIFT" "I" (.int 0)) (S_lo : Sta Z h0 "java/lang/StringUTF16" "LO_BYTE_SHIFT" "I" (.int 8)) :
    MF l nm9 jdk_42_method_56_code 2 (some .char) ws (⟨4, 0, 0, 53⟩ : Room) #[(.ref a0), (.int p1)] Z h0 (Q_chrU Z a0 p1 va cl z b0 b1 kc fm h0 n0) := by
  refine MetFree.of_bodySF (plainFor_of_name own_pn1) hisR ?_
  intro p e s m args below meth c s₁ Bd hml0 hP hK
  obtain ⟨rfl, hZ, hh⟩ := hP
  have hx := Bd.exec
  have hby := Bd.bytes
  have hml : c.maxLocals = 2 := hml0
  have hown : s.vm.findClass "java/lang/String" = some m.cls := findClass_of_methodNamed Bd.named
  have hnm := (name_of_methodNamed Bd.named Bd.method).1
  have X0 : Stand p l e (⟨4, 0, 0, 53⟩ : Room) s m #[(.ref a0), (.int p1)] below meth c s₁ [] 0 0 := Stand.of_body Bd
  have e0 : s₁.heap = h0 := by rw [← hh, Bd.state]; rfl
  have N0 := Fr.nil n0
  have pre0 : PT p e below (s₁.setTop (mkF m 0 #[vr a0, vi p1] [])) (s₁.setTop (entryFrame m #[(.ref a0), (.int p1)] 2)) := fun t k => castTop (own_ef_chrU m a0 p1) k
  obtain ⟨cq19, kq19, q19a, q19b, q19c⟩ := isOf hZ e0 HE
  obtain ⟨_, _, ⟨T19, L19, k19, n19⟩, -, X19, ⟨Lc19, hQ19, l19, y19, z19⟩, st19⟩ := X0.virtualBack hx (y := nm7) (z := nm7) hown (mvT hZ (ow hw 68 rfl)) (mvT hZ (ow hw 69 rfl)) (notFace_of_selects (args := #[]) (mvT hZ (ow hw 71 rfl))) (mvT hZ (ow hw 71 rfl)) (mvT hZ (ow hw 70 rfl)) (by decide) (backOf (W := 0) (rm_latU l Z a0' hw [] a0 kc h0 n0 Z0 HC S_cs hkc) hZ (ow hw 72 rfl) (ow hw 5 rfl) (by decide) (by decide)) q19a q19c (g := (mkF m 1 #[vr a0, vi p1] [(.ref a0)])) rfl (by rw [hml]; rfl) (Steps.refl _) (argsL := []) (rest := []) (lenOf own_pd5 rfl) rfl (by show 2 * 0 + _ ≤ _; exact Nat.le_of_eq rfl) (hb hby od81) (fun _ _ => ⟨rfl, e0, (by decide : 0 + 0 ≤ _), (by decide : 0 + 0 ≤ _)⟩)
  dsimp only [Pt.U, Pt.locs, Pt.cells, Pt.slots] at X19 l19 y19 z19 st19 hQ19
  subst l19 y19 z19
  obtain ⟨rfl, N19q, e19⟩ := hQ19
  have N19 := Fr.app N0 N19q
  obtain ⟨T20, X20, e20, st20⟩ := getF X19 hx hZ hown (host := "") (Or.inl (ow hw 22 rfl)) Via.refl e19 HV (g := (mkF m 17 #[vr a0, vi p1] [(.ref a0)])) rfl rfl (hb hby od84)
  obtain ⟨_, _, ⟨T21, L21, k21, n21⟩, -, X21, ⟨Lc21, hQ21, l21, y21, z21⟩, st21⟩ := Jvm.LawKit.callS X20 hx (y := nm6) hown (mvT hZ (ow hw 107 rfl)) (mvT hZ (ow hw 108 rfl)) (mvT hZ (ow hw 41 rfl)) (mvT hZ (ow hw 109 rfl)) (by decide) (backOf (W := 0) (rm_uchr l Z a0' hw [] va p1 cl z b0 b1 fm h0 n0 Z0 Ar hin0 hat0 hin1 hat1 hsz hnn hlo hhi S_fm hfm S_ad S_hi S_lo) hZ (ow hw 109 rfl) (ow hw 41 rfl) (by decide) (by decide)) (g := (mkF m 21 #[vr a0, vi p1] [(.int p1), (.ref va)])) rfl (by rw [hml]; rfl) (argsL := [(.ref va), (.int p1)]) (rest := []) (lenOf own_pd4 rfl) rfl (by show 2 * 0 + _ ≤ _; exact Nat.le_of_eq rfl) (hb hby od86) (fun _ _ => ⟨rfl, e20, (by decide : 0 + 0 ≤ _), (by decide : 0 + 0 ≤ _)⟩)
  dsimp only [Pt.U, Pt.locs, Pt.cells, Pt.slots] at X21 l21 y21 z21 st21 hQ21
  subst l21 y21 z21
  obtain ⟨rfl, N21q, e21⟩ := hQ21
  have N21 := Fr.app N19 N21q
  obtain ⟨fs, hr, hrun, hended, hW, hsame⟩ := X21.leave (v := some (.int (nar .char (F_uchr b0 b1)))) (fun h => by rw [Bd.returns] at h; cases h)
  refine ⟨_, _, pre0 _ ?_, hrun, hended, _, _, rfl, ?_, ⟨_, rfl⟩, hW, hsame.mono (by decide) (by decide)⟩
  · show Steps p.tables e below (s₁.setTop (mkF m 0 #[vr a0, vi p1] [])) _
    refine XS.aloadN X0.here hx rfl (hb hby od80) rfl rfl ?_
    refine st19.trans ?_
    refine XS.ifYes X19.here hx rfl (pc0 := 4) (pc' := 16) rfl (hb hby od82) rfl ((if0 _ _).trans (teq (by decide : (0 : Int32) = (0 : Int32))).1) (by decide) (by decide) ?_
    refine XS.aloadN X19.here hx rfl (hb hby od83) rfl rfl ?_
    refine st20 _ ?_
    refine XS.iloadN X20.here hx rfl (hb hby od85) rfl ?_
    refine st21 _ ?_
    exact retN X21 hx (t := .char) Bd.returns (by simp) (hb hby od87) hr
  · show Q_chrU Z a0 p1 va cl z b0 b1 kc fm h0 n0 _ T21.heap _
    refine ⟨?_, N21, e21⟩
    rw [F_chrU]
theorem od88 : decode jdk_42_method_54_code 0 = .ok (.aload_n 0, 1) := by decide +kernel
theorem od89 : decode jdk_42_method_54_code 1 = .ok (.getfield 9, 3) := by decide +kernel
theorem od90 : decode jdk_42_method_54_code 4 = .ok (.arraylength, 1) := by decide +kernel
theorem od91 : decode jdk_42_method_54_code 5 = .ok (.aload_n 0, 1) := by decide +kernel
theorem od92 : decode jdk_42_method_54_code 6 = .ok (.invokevirtual 335, 3) := by decide +kernel
theorem own_pd6 : parseMethodDescriptor "()B" = some ⟨[], some .byte⟩ := by decide +kernel
theorem od93 : decode jdk_42_method_54_code 9 = .ok (.ishr, 1) := by decide +kernel
theorem od94 : decode jdk_42_method_54_code 10 = .ok (.ireturn, 1) := by decide +kernel
def F_lenU (z : Int32) : Int32 := (z >>> ((1 : Int32) &&& 31))
theorem own_ef_lenU (m : MethodId) (a0 : Addr) : entryFrame m #[(.ref a0)] 1 = mkF m 0 #[vr a0] [] := by first | (simp [entryFrame, mkF, argsToLocals, Value.category]; done) | rfl
def Q_lenU (Z : State) (a0 : Addr) (va : Addr) (cl : Cell) (z : Int32) (kc : Int32) (h0 : Heap) (n0 : Nat) (v : Option Value) (h : Heap) (L : List Loc) : Prop := v = some (.int (F_lenU z)) ∧ Fr n0 L ∧ h = h0
theorem rm_lenU (l : Launch) (Z : State) (a0' : Array Value) (hw : ∀ d ∈ tables_1, d.before a0' Z = true) (ws : List Jvm.Cond) (a0 : Addr) (va : Addr) (cl : Cell) (z : Int32) (kc : Int32) (h0 : Heap) (n0 : Nat) (Z0 : n0 ≤ h0.size) (HE : Exa Z h0 a0 "java/lang/String") (HC : Fld Z h0 a0 "java/lang/String" "coder" "B" (.int 1)) (HV : Fld Z h0 a0 "java/lang/String" "value" "[B" (.ref va)) (Ar : Arr Z h0 va cl .byte) (hsz : cl.slots.size = z.toNatClampNeg) (hnn : ¬ z < 0) (S_cs : Sta Z h0 "java/lang/String" "COMPACT_STRINGS" "Z" (.int kc)) (hkc : ¬ (kc = (0 : Int32))) :
    MF l nm10 jdk_42_method_54_code 1 (some .int) ws (⟨1, 0, 0, 13⟩ : Room) #[(.ref a0)] Z h0 (Q_lenU Z a0 va cl z kc h0 n0) := by
  refine MetFree.of_bodySF (plainFor_of_name own_pn1) hisR ?_
  intro p e s m args below meth c s₁ Bd hml0 hP hK
  obtain ⟨rfl, hZ, hh⟩ := hP
  have hx := Bd.exec
  have hby := Bd.bytes
  have hml : c.maxLocals = 1 := hml0
  have hown : s.vm.findClass "java/lang/String" = some m.cls := findClass_of_methodNamed Bd.named
  have hnm := (name_of_methodNamed Bd.named Bd.method).1
  have X0 : Stand p l e (⟨1, 0, 0, 13⟩ : Room) s m #[(.ref a0)] below meth c s₁ [] 0 0 := Stand.of_body Bd
  have e0 : s₁.heap = h0 := by rw [← hh, Bd.state]; rfl
  have N0 := Fr.nil n0
  have pre0 : PT p e below (s₁.setTop (mkF m 0 #[vr a0] [])) (s₁.setTop (entryFrame m #[(.ref a0)] 1)) := fun t k => castTop (own_ef_lenU m a0) k
  obtain ⟨T22, X22, e22, st22⟩ := getF X0 hx hZ hown (host := "") (Or.inl (ow hw 22 rfl)) Via.refl e0 HV (g := (mkF m 1 #[vr a0] [(.ref a0)])) rfl rfl (hb hby od89)
  obtain ⟨cq23, kq23, q23a, q23b, q23c⟩ := isOf hZ e22 HE
  obtain ⟨_, _, ⟨T23, L23, k23, n23⟩, -, X23, ⟨Lc23, hQ23, l23, y23, z23⟩, st23⟩ := X22.virtualBack hx (y := nm8) (z := nm8) hown (mvT hZ (ow hw 58 rfl)) (mvT hZ (ow hw 59 rfl)) (notFace_of_selects (args := #[]) (mvT hZ (ow hw 61 rfl))) (mvT hZ (ow hw 61 rfl)) (mvT hZ (ow hw 60 rfl)) (by decide) (backOf (W := 1) (rm_codU l Z a0' hw [] a0 kc h0 n0 Z0 HC S_cs hkc) hZ (ow hw 62 rfl) (ow hw 5 rfl) (by decide) (by decide)) q23a q23c (g := (mkF m 6 #[vr a0] [(.ref a0), (.int z)])) rfl (by rw [hml]; rfl) (Steps.refl _) (argsL := []) (rest := [(.int z)]) (lenOf own_pd6 rfl) rfl (by show 2 * 0 + _ ≤ _; exact Nat.le_of_eq rfl) (hb hby od92) (fun _ _ => ⟨rfl, e22, (by decide : 0 + 0 ≤ _), (by decide : 0 + 0 ≤ _)⟩)
  dsimp only [Pt.U, Pt.locs, Pt.cells, Pt.slots] at X23 l23 y23 z23 st23 hQ23
  subst l23 y23 z23
  obtain ⟨rfl, N23q, e23⟩ := hQ23
  have N23 := Fr.app N0 N23q
  obtain ⟨fs, hr, hrun, hended, hW, hsame⟩ := X23.leave (v := some (.int (z >>> ((1 : Int32) &&& 31)))) (fun h => by rw [Bd.returns] at h; cases h)
  refine ⟨_, _, pre0 _ ?_, hrun, hended, _, _, rfl, ?_, ⟨_, rfl⟩, hW, hsame.mono (by decide) (by decide)⟩
  · show Steps p.tables e below (s₁.setTop (mkF m 0 #[vr a0] [])) _
    refine XS.aloadN X0.here hx rfl (hb hby od88) rfl rfl ?_
    refine st22 _ ?_
    refine X22.arraylength hx (by rw [e22]; exact Ar.1) (State.isArrayOf_alike hZ.alike Ar.2.1) (g := (mkF m 4 #[vr a0] [(.ref va)])) rfl rfl (hb hby od90) _ ?_
    rw [len_of hsz hnn]
    refine XS.aloadN X22.here hx rfl (hb hby od91) rfl rfl ?_
    refine st23.trans ?_
    refine XS.ishr X23.here hx rfl (hb hby od93) rfl ?_
    exact own_retI X23 hx Bd.returns (hb hby od94) hr
  · show Q_lenU Z a0 va cl z kc h0 n0 _ T23.heap _
    refine ⟨?_, N23, e23⟩
    rw [F_lenU]
theorem od95 : decode jdk_42_method_56_code 7 = .ok (.aload_n 0, 1) := by decide +kernel
theorem od96 : decode jdk_42_method_56_code 8 = .ok (.getfield 9, 3) := by decide +kernel
theorem od97 : decode jdk_42_method_56_code 11 = .ok (.iload_n 1, 1) := by decide +kernel
theorem od98 : decode jdk_42_method_56_code 12 = .ok (.invokestatic 495, 3) := by decide +kernel
theorem od99 : decode jdk_42_method_56_code 15 = .ok (.ireturn, 1) := by decide +kernel
def F_chrL (b : Int32) : Int32 := (nar .char (F_lchar b))
theorem own_ef_chrL (m : MethodId) (a0 : Addr) (p1 : Int32) : entryFrame m #[(.ref a0), (.int p1)] 2 = mkF m 0 #[vr a0, vi p1] [] := by first | (simp [entryFrame, mkF, argsToLocals, Value.category]; done) | rfl
def Q_chrL (Z : State) (a0 : Addr) (p1 : Int32) (va : Addr) (cl : Cell) (z : Int32) (b : Int32) (kc : Int32) (fm : Value) (h0 : Heap) (n0 : Nat) (v : Option Value) (h : Heap) (L : List Loc) : Prop := v = some (.int (F_chrL b)) ∧ Fr n0 L ∧ h = h0
theorem rm_chrL (l : Launch) (Z : State) (a0' : Array Value) (hw : ∀ d ∈ tables_1, d.before a0' Z = true) (ws : List Jvm.Cond) (a0 : Addr) (p1 : Int32) (va : Addr) (cl : Cell) (z : Int32) (b : Int32) (kc : Int32) (fm : Value) (h0 : Heap) (n0 : Nat) (Z0 : n0 ≤ h0.size) (HE : Exa Z h0 a0 "java/lang/String") (HC : Fld Z h0 a0 "java/lang/String" "coder" "B" (.int 0)) (HV : Fld Z h0 a0 "java/lang/String" "value" "[B" (.ref va)) (Ar : Arr Z h0 va cl .byte) (hsz : cl.slots.size = z.toNatClampNeg) (hnn : ¬ z < 0) (hlo : ¬ (p1 < (0 : Int32))) (hhi : p1 < z) (hat : cl.slots[p1.toNatClampNeg]? = some (.int b)) (S_cs : Sta Z h0 "java/lang/String" "COMPACT_STRINGS" "Z" (.int kc)) (hkc : ¬ (kc = (0 : Int32))) (S_fm : Sta Z h0 "jdk/internal/util/Preconditions" "SIOOBE_FORMATTER" "Ljava/util/function/BiFunction;" fm) (hfm : fm.isRef = true) :
    MF l nm9 jdk_42_method_56_code 2 (some .char) ws (⟨4, 0, 0, 53⟩ : Room) #[(.ref a0), (.int p1)] Z h0 (Q_chrL Z a0 p1 va cl z b kc fm h0 n0) := by
  refine MetFree.of_bodySF (plainFor_of_name own_pn1) hisR ?_
  intro p e s m args below meth c s₁ Bd hml0 hP hK
  obtain ⟨rfl, hZ, hh⟩ := hP
  have hx := Bd.exec
  have hby := Bd.bytes
  have hml : c.maxLocals = 2 := hml0
  have hown : s.vm.findClass "java/lang/String" = some m.cls := findClass_of_methodNamed Bd.named
  have hnm := (name_of_methodNamed Bd.named Bd.method).1
  have X0 : Stand p l e (⟨4, 0, 0, 53⟩ : Room) s m #[(.ref a0), (.int p1)] below meth c s₁ [] 0 0 := Stand.of_body Bd
  have e0 : s₁.heap = h0 := by rw [← hh, Bd.state]; rfl
  have N0 := Fr.nil n0
  have pre0 : PT p e below (s₁.setTop (mkF m 0 #[vr a0, vi p1] [])) (s₁.setTop (entryFrame m #[(.ref a0), (.int p1)] 2)) := fun t k => castTop (own_ef_chrL m a0 p1) k
  obtain ⟨cq24, kq24, q24a, q24b, q24c⟩ := isOf hZ e0 HE
  obtain ⟨_, _, ⟨T24, L24, k24, n24⟩, -, X24, ⟨Lc24, hQ24, l24, y24, z24⟩, st24⟩ := X0.virtualBack hx (y := nm7) (z := nm7) hown (mvT hZ (ow hw 68 rfl)) (mvT hZ (ow hw 69 rfl)) (notFace_of_selects (args := #[]) (mvT hZ (ow hw 71 rfl))) (mvT hZ (ow hw 71 rfl)) (mvT hZ (ow hw 70 rfl)) (by decide) (backOf (W := 0) (rm_latL l Z a0' hw [] a0 kc h0 n0 Z0 HC S_cs hkc) hZ (ow hw 72 rfl) (ow hw 5 rfl) (by decide) (by decide)) q24a q24c (g := (mkF m 1 #[vr a0, vi p1] [(.ref a0)])) rfl (by rw [hml]; rfl) (Steps.refl _) (argsL := []) (rest := []) (lenOf own_pd5 rfl) rfl (by show 2 * 0 + _ ≤ _; exact Nat.le_of_eq rfl) (hb hby od81) (fun _ _ => ⟨rfl, e0, (by decide : 0 + 0 ≤ _), (by decide : 0 + 0 ≤ _)⟩)
  dsimp only [Pt.U, Pt.locs, Pt.cells, Pt.slots] at X24 l24 y24 z24 st24 hQ24
  subst l24 y24 z24
  obtain ⟨rfl, N24q, e24⟩ := hQ24
  have N24 := Fr.app N0 N24q
  obtain ⟨T25, X25, e25, st25⟩ := getF X24 hx hZ hown (host := "") (Or.inl (ow hw 22 rfl)) Via.refl e24 HV (g := (mkF m 8 #[vr a0, vi p1] [(.ref a0)])) rfl rfl (hb hby od96)
  obtain ⟨_, _, ⟨T26, L26, k26, n26⟩, -, X26, ⟨Lc26, hQ26, l26, y26, z26⟩, st26⟩ := Jvm.LawKit.callS X25 hx (y := nm2) hown (mvT hZ (ow hw 73 rfl)) (mvT hZ (ow hw 74 rfl)) (mvT hZ (ow hw 75 rfl)) (mvT hZ (ow hw 76 rfl)) (by decide) (backOf (W := 0) (rm_lchar l Z a0' hw [] va p1 cl z b fm h0 n0 Z0 Ar hsz hnn hlo hhi hat S_fm hfm) hZ (ow hw 76 rfl) (ow hw 75 rfl) (by decide) (by decide)) (g := (mkF m 12 #[vr a0, vi p1] [(.int p1), (.ref va)])) rfl (by rw [hml]; rfl) (argsL := [(.ref va), (.int p1)]) (rest := []) (lenOf own_pd4 rfl) rfl (by show 2 * 0 + _ ≤ _; exact Nat.le_of_eq rfl) (hb hby od98) (fun _ _ => ⟨rfl, e25, (by decide : 0 + 0 ≤ _), (by decide : 0 + 0 ≤ _)⟩)
  dsimp only [Pt.U, Pt.locs, Pt.cells, Pt.slots] at X26 l26 y26 z26 st26 hQ26
  subst l26 y26 z26
  obtain ⟨rfl, N26q, e26⟩ := hQ26
  have N26 := Fr.app N24 N26q
  obtain ⟨fs, hr, hrun, hended, hW, hsame⟩ := X26.leave (v := some (.int (nar .char (F_lchar b)))) (fun h => by rw [Bd.returns] at h; cases h)
  refine ⟨_, _, pre0 _ ?_, hrun, hended, _, _, rfl, ?_, ⟨_, rfl⟩, hW, hsame.mono (by decide) (by decide)⟩
  · show Steps p.tables e below (s₁.setTop (mkF m 0 #[vr a0, vi p1] [])) _
    refine XS.aloadN X0.here hx rfl (hb hby od80) rfl rfl ?_
    refine st24.trans ?_
    refine XS.ifNo X24.here hx rfl (hb hby od82) rfl ((if0 _ _).trans (feq (by decide : ¬ ((1 : Int32) = (0 : Int32)))).1) ?_
    refine XS.aloadN X24.here hx rfl (hb hby od95) rfl rfl ?_
    refine st25 _ ?_
    refine XS.iloadN X25.here hx rfl (hb hby od97) rfl ?_
    refine st26 _ ?_
    exact retN X26 hx (t := .char) Bd.returns (by simp) (hb hby od99) hr
  · show Q_chrL Z a0 p1 va cl z b kc fm h0 n0 _ T26.heap _
    refine ⟨?_, N26, e26⟩
    rw [F_chrL]
def F_lenL (z : Int32) : Int32 := (z >>> ((0 : Int32) &&& 31))
theorem own_ef_lenL (m : MethodId) (a0 : Addr) : entryFrame m #[(.ref a0)] 1 = mkF m 0 #[vr a0] [] := by first | (simp [entryFrame, mkF, argsToLocals, Value.category]; done) | rfl
def Q_lenL (Z : State) (a0 : Addr) (va : Addr) (cl : Cell) (z : Int32) (kc : Int32) (h0 : Heap) (n0 : Nat) (v : Option Value) (h : Heap) (L : List Loc) : Prop := v = some (.int (F_lenL z)) ∧ Fr n0 L ∧ h = h0
theorem rm_lenL (l : Launch) (Z : State) (a0' : Array Value) (hw : ∀ d ∈ tables_1, d.before a0' Z = true) (ws : List Jvm.Cond) (a0 : Addr) (va : Addr) (cl : Cell) (z : Int32) (kc : Int32) (h0 : Heap) (n0 : Nat) (Z0 : n0 ≤ h0.size) (HE : Exa Z h0 a0 "java/lang/String") (HC : Fld Z h0 a0 "java/lang/String" "coder" "B" (.int 0)) (HV : Fld Z h0 a0 "java/lang/String" "value" "[B" (.ref va)) (Ar : Arr Z h0 va cl .byte) (hsz : cl.slots.size = z.toNatClampNeg) (hnn : ¬ z < 0) (S_cs : Sta Z h0 "java/lang/String" "COMPACT_STRINGS" "Z" (.int kc)) (hkc : ¬ (kc = (0 : Int32))) :
    MF l nm10 jdk_42_method_54_code 1 (some .int) ws (⟨1, 0, 0, 13⟩ : Room) #[(.ref a0)] Z h0 (Q_lenL Z a0 va cl z kc h0 n0) := by
  refine MetFree.of_bodySF (plainFor_of_name own_pn1) hisR ?_
  intro p e s m args below meth c s₁ Bd hml0 hP hK
  obtain ⟨rfl, hZ, hh⟩ := hP
  have hx := Bd.exec
  have hby := Bd.bytes
  have hml : c.maxLocals = 1 := hml0
  have hown : s.vm.findClass "java/lang/String" = some m.cls := findClass_of_methodNamed Bd.named
  have hnm := (name_of_methodNamed Bd.named Bd.method).1
  have X0 : Stand p l e (⟨1, 0, 0, 13⟩ : Room) s m #[(.ref a0)] below meth c s₁ [] 0 0 := Stand.of_body Bd
  have e0 : s₁.heap = h0 := by rw [← hh, Bd.state]; rfl
  have N0 := Fr.nil n0
  have pre0 : PT p e below (s₁.setTop (mkF m 0 #[vr a0] [])) (s₁.setTop (entryFrame m #[(.ref a0)] 1)) := fun t k => castTop (own_ef_lenL m a0) k
  obtain ⟨T27, X27, e27, st27⟩ := getF X0 hx hZ hown (host := "") (Or.inl (ow hw 22 rfl)) Via.refl e0 HV (g := (mkF m 1 #[vr a0] [(.ref a0)])) rfl rfl (hb hby od89)
  obtain ⟨cq28, kq28, q28a, q28b, q28c⟩ := isOf hZ e27 HE
  obtain ⟨_, _, ⟨T28, L28, k28, n28⟩, -, X28, ⟨Lc28, hQ28, l28, y28, z28⟩, st28⟩ := X27.virtualBack hx (y := nm8) (z := nm8) hown (mvT hZ (ow hw 58 rfl)) (mvT hZ (ow hw 59 rfl)) (notFace_of_selects (args := #[]) (mvT hZ (ow hw 61 rfl))) (mvT hZ (ow hw 61 rfl)) (mvT hZ (ow hw 60 rfl)) (by decide) (backOf (W := 1) (rm_codL l Z a0' hw [] a0 kc h0 n0 Z0 HC S_cs hkc) hZ (ow hw 62 rfl) (ow hw 5 rfl) (by decide) (by decide)) q28a q28c (g := (mkF m 6 #[vr a0] [(.ref a0), (.int z)])) rfl (by rw [hml]; rfl) (Steps.refl _) (argsL := []) (rest := [(.int z)]) (lenOf own_pd6 rfl) rfl (by show 2 * 0 + _ ≤ _; exact Nat.le_of_eq rfl) (hb hby od92) (fun _ _ => ⟨rfl, e27, (by decide : 0 + 0 ≤ _), (by decide : 0 + 0 ≤ _)⟩)
  dsimp only [Pt.U, Pt.locs, Pt.cells, Pt.slots] at X28 l28 y28 z28 st28 hQ28
  subst l28 y28 z28
  obtain ⟨rfl, N28q, e28⟩ := hQ28
  have N28 := Fr.app N0 N28q
  obtain ⟨fs, hr, hrun, hended, hW, hsame⟩ := X28.leave (v := some (.int (z >>> ((0 : Int32) &&& 31)))) (fun h => by rw [Bd.returns] at h; cases h)
  refine ⟨_, _, pre0 _ ?_, hrun, hended, _, _, rfl, ?_, ⟨_, rfl⟩, hW, hsame.mono (by decide) (by decide)⟩
  · show Steps p.tables e below (s₁.setTop (mkF m 0 #[vr a0] [])) _
    refine XS.aloadN X0.here hx rfl (hb hby od88) rfl rfl ?_
    refine st27 _ ?_
    refine X27.arraylength hx (by rw [e27]; exact Ar.1) (State.isArrayOf_alike hZ.alike Ar.2.1) (g := (mkF m 4 #[vr a0] [(.ref va)])) rfl rfl (hb hby od90) _ ?_
    rw [len_of hsz hnn]
    refine XS.aloadN X27.here hx rfl (hb hby od91) rfl rfl ?_
    refine st28.trans ?_
    refine XS.ishr X28.here hx rfl (hb hby od93) rfl ?_
    exact own_retI X28 hx Bd.returns (hb hby od94) hr
  · show Q_lenL Z a0 va cl z kc h0 n0 _ T28.heap _
    refine ⟨?_, N28, e28⟩
    rw [F_lenL]
theorem od100 : decode jdk_42_method_55_code 0 = .ok (.aload_n 0, 1) := by decide +kernel
theorem od101 : decode jdk_42_method_55_code 1 = .ok (.getfield 9, 3) := by decide +kernel
theorem od102 : decode jdk_42_method_55_code 4 = .ok (.arraylength, 1) := by decide +kernel
theorem od103 : decode jdk_42_method_55_code 5 = .ok (.ifCond .ne 7, 3) := by decide +kernel
theorem od104 : decode jdk_42_method_55_code 8 = .ok (.iconst 1, 1) := by decide +kernel
theorem od105 : decode jdk_42_method_55_code 9 = .ok (.goto 4, 3) := by decide +kernel
theorem od106 : decode jdk_42_method_55_code 13 = .ok (.ireturn, 1) := by decide +kernel
theorem od107 : decode jdk_42_method_55_code 12 = .ok (.iconst 0, 1) := by decide +kernel
def F_emp (z : Int32) : Int32 := (if z = (0 : Int32) then (1 : Int32) else (0 : Int32))
theorem own_ef_emp (m : MethodId) (a0 : Addr) : entryFrame m #[(.ref a0)] 1 = mkF m 0 #[vr a0] [] := by first | (simp [entryFrame, mkF, argsToLocals, Value.category]; done) | rfl
def Q_emp (Z : State) (a0 : Addr) (va : Addr) (cl : Cell) (z : Int32) (h0 : Heap) (n0 : Nat) (v : Option Value) (h : Heap) (L : List Loc) : Prop := v = some (.int (F_emp z)) ∧ Fr n0 L ∧ h = h0
theorem rm_emp (l : Launch) (Z : State) (a0' : Array Value) (hw : ∀ d ∈ tables_1, d.before a0' Z = true) (ws : List Jvm.Cond) (a0 : Addr) (va : Addr) (cl : Cell) (z : Int32) (h0 : Heap) (n0 : Nat) (Z0 : n0 ≤ h0.size) (HV : Fld Z h0 a0 "java/lang/String" "value" "[B" (.ref va)) (Ar : Arr Z h0 va cl .byte) (hsz : cl.slots.size = z.toNatClampNeg) (hnn : ¬ z < 0) :
    MF l nm11 jdk_42_method_55_code 1 (some .boolean) ws (⟨0, 0, 0, 0⟩ : Room) #[(.ref a0)] Z h0 (Q_emp Z a0 va cl z h0 n0) := by
  refine MetFree.of_bodySF (plainFor_of_name own_pn1) hisR ?_
  intro p e s m args below meth c s₁ Bd hml0 hP hK
  obtain ⟨rfl, hZ, hh⟩ := hP
  have hx := Bd.exec
  have hby := Bd.bytes
  have hml : c.maxLocals = 1 := hml0
  have hown : s.vm.findClass "java/lang/String" = some m.cls := findClass_of_methodNamed Bd.named
  have hnm := (name_of_methodNamed Bd.named Bd.method).1
  have X0 : Stand p l e (⟨0, 0, 0, 0⟩ : Room) s m #[(.ref a0)] below meth c s₁ [] 0 0 := Stand.of_body Bd
  have e0 : s₁.heap = h0 := by rw [← hh, Bd.state]; rfl
  have N0 := Fr.nil n0
  have pre0 : PT p e below (s₁.setTop (mkF m 0 #[vr a0] [])) (s₁.setTop (entryFrame m #[(.ref a0)] 1)) := fun t k => castTop (own_ef_emp m a0) k
  obtain ⟨T29, X29, e29, st29⟩ := getF X0 hx hZ hown (host := "") (Or.inl (ow hw 22 rfl)) Via.refl e0 HV (g := (mkF m 1 #[vr a0] [(.ref a0)])) rfl rfl (hb hby od101)
  have pre31 : PT p e below (T29.setTop (mkF m 5 #[vr a0] [(.int z)])) (s₁.setTop (entryFrame m #[(.ref a0)] 1)) := fun t k => pre0 t (by
    refine XS.aloadN X0.here hx rfl (hb hby od100) rfl rfl ?_
    refine st29 _ ?_
    refine X29.arraylength hx (by rw [e29]; exact Ar.1) (State.isArrayOf_alike hZ.alike Ar.2.1) (g := (mkF m 4 #[vr a0] [(.ref va)])) rfl rfl (hb hby od102) _ ?_
    rw [len_of hsz hnn]
    exact k)
  by_cases hc5_30 : z = (0 : Int32)
  · obtain ⟨fs, hr, hrun, hended, hW, hsame⟩ := X29.leave (v := some (.int 1)) (fun h => by rw [Bd.returns] at h; cases h)
    refine ⟨_, _, pre31 _ ?_, hrun, hended, _, _, rfl, ?_, ⟨_, rfl⟩, hW, hsame.mono (by decide) (by decide)⟩
    · show Steps p.tables e below (T29.setTop (mkF m 5 #[vr a0] [(.int z)])) _
      refine XS.ifNo X29.here hx rfl (hb hby od103) rfl ((if0 _ _).trans (teq hc5_30).2) ?_
      refine XS.iconst X29.here hx rfl (hb hby od104) ?_
      refine XS.goto X29.here hx rfl (pc0 := 9) (pc' := 13) rfl (hb hby od105) (by decide) (by decide) ?_
      exact retN X29 hx (t := .boolean) Bd.returns (by simp) (hb hby od106) hr
    · show Q_emp Z a0 va cl z h0 n0 _ T29.heap _
      refine ⟨?_, N0, e29⟩
      rw [F_emp, if_pos hc5_30]
  · obtain ⟨fs, hr, hrun, hended, hW, hsame⟩ := X29.leave (v := some (.int 0)) (fun h => by rw [Bd.returns] at h; cases h)
    refine ⟨_, _, pre31 _ ?_, hrun, hended, _, _, rfl, ?_, ⟨_, rfl⟩, hW, hsame.mono (by decide) (by decide)⟩
    · show Steps p.tables e below (T29.setTop (mkF m 5 #[vr a0] [(.int z)])) _
      refine XS.ifYes X29.here hx rfl (pc0 := 5) (pc' := 12) rfl (hb hby od103) rfl ((if0 _ _).trans (feq hc5_30).2) (by decide) (by decide) ?_
      refine XS.iconst X29.here hx rfl (hb hby od107) ?_
      exact retN X29 hx (t := .boolean) Bd.returns (by simp) (hb hby od106) hr
    · show Q_emp Z a0 va cl z h0 n0 _ T29.heap _
      refine ⟨?_, N0, e29⟩
      rw [F_emp, if_neg hc5_30]
def F_lenC (cs : List Int32) : Int32 := Int32.ofNat cs.length
def Q_lenC (Z : State) (a0 : Addr) (cs : List Int32) (h0 : Heap) (n0 : Nat) (v : Option Value) (h : Heap) (L : List Loc) : Prop := v = some (.int (F_lenC cs)) ∧ Fr n0 L ∧ h = h0
theorem rm_lenC (l : Launch) (Z : State) (a0' : Array Value) (hw : ∀ d ∈ tables_1, d.before a0' Z = true) (ws : List Jvm.Cond) (a0 : Addr) (cs : List Int32) (kc : Int32) (h0 : Heap) (n0 : Nat) (Z0 : n0 ≤ h0.size) (HS : CS Z h0 a0 cs) (hl4 : cs.length ≤ 4) (S_cs : Sta Z h0 "java/lang/String" "COMPACT_STRINGS" "Z" (.int kc)) (hkc : ¬ (kc = (0 : Int32))) :
    MF l nm10 jdk_42_method_54_code 1 (some .int) ws (⟨1, 0, 0, 13⟩ : Room) #[(.ref a0)] Z h0 (Q_lenC Z a0 cs h0 n0) := by
  obtain ⟨E, b, k, V, d⟩ := HS
  rcases d with ⟨C, hb, A⟩ | ⟨C, hb, hne, A⟩
  · obtain ⟨cl, Ar, -, hs, hn, -, -⟩ := A
    exact own_mono (rm_lenL l Z a0' hw ws a0 b cl _ kc h0 n0 Z0 E C V Ar hs hn S_cs hkc) (fun _ _ _ _ ⟨v, L, q1, ⟨q2, q3, q4⟩, q5⟩ => ⟨v, L, q1, ⟨q2.trans (congrArg (fun z => some (Value.int z)) (by unfold F_lenL F_lenC; exact own_shr0 _)), q3, q4⟩, q5⟩)
  · obtain ⟨cl, Ar, -, hs, hn, -, -⟩ := A
    exact own_mono (rm_lenU l Z a0' hw ws a0 b cl _ kc h0 n0 Z0 E C V Ar hs hn S_cs hkc) (fun _ _ _ _ ⟨v, L, q1, ⟨q2, q3, q4⟩, q5⟩ => ⟨v, L, q1, ⟨q2.trans (congrArg (fun z => some (Value.int z)) (by unfold F_lenU F_lenC; exact own_shr1 _ hl4)), q3, q4⟩, q5⟩)
def F_empC (cs : List Int32) : Int32 := if cs = [] then (1 : Int32) else (0 : Int32)
def Q_empC (Z : State) (a0 : Addr) (cs : List Int32) (h0 : Heap) (n0 : Nat) (v : Option Value) (h : Heap) (L : List Loc) : Prop := v = some (.int (F_empC cs)) ∧ Fr n0 L ∧ h = h0
theorem own_nz (n : Nat) (h : 0 < n) (h4 : n ≤ 4) : ¬ (Int32.ofNat n = (0 : Int32)) := by
  match n, h, h4 with
  | 1, _, _ => decide
  | 2, _, _ => decide
  | 3, _, _ => decide
  | 4, _, _ => decide
theorem own_nz2 (n : Nat) (h : 0 < n) (h4 : n ≤ 4) : ¬ (Int32.ofNat (2 * n) = (0 : Int32)) := by
  match n, h, h4 with
  | 1, _, _ => decide
  | 2, _, _ => decide
  | 3, _, _ => decide
  | 4, _, _ => decide
theorem rm_empC (l : Launch) (Z : State) (a0' : Array Value) (hw : ∀ d ∈ tables_1, d.before a0' Z = true) (ws : List Jvm.Cond) (a0 : Addr) (cs : List Int32) (h0 : Heap) (n0 : Nat) (Z0 : n0 ≤ h0.size) (HS : CS Z h0 a0 cs) (hl4 : cs.length ≤ 4) :
    MF l nm11 jdk_42_method_55_code 1 (some .boolean) ws (⟨0, 0, 0, 0⟩ : Room) #[(.ref a0)] Z h0 (Q_empC Z a0 cs h0 n0) := by
  obtain ⟨E, b, k, V, d⟩ := HS
  rcases d with ⟨C, hb, A⟩ | ⟨C, hb, hne, A⟩
  · obtain ⟨cl, Ar, -, hs, hn, -, -⟩ := A
    exact own_mono (rm_emp l Z a0' hw ws a0 b cl _  h0 n0 Z0 V Ar hs hn ) (fun _ _ _ _ ⟨v, L, q1, ⟨q2, q3, q4⟩, q5⟩ => ⟨v, L, q1, ⟨q2.trans (congrArg (fun z => some (Value.int z)) (by unfold F_emp F_empC; cases cs with | nil => rfl | cons c t => rw [if_neg (own_nz _ (by simp) hl4), if_neg (by simp)])), q3, q4⟩, q5⟩)
  · obtain ⟨cl, Ar, -, hs, hn, -, -⟩ := A
    exact own_mono (rm_emp l Z a0' hw ws a0 b cl _  h0 n0 Z0 V Ar hs hn ) (fun _ _ _ _ ⟨v, L, q1, ⟨q2, q3, q4⟩, q5⟩ => ⟨v, L, q1, ⟨q2.trans (congrArg (fun z => some (Value.int z)) (by unfold F_emp F_empC; rw [if_neg hne, if_neg (own_nz2 _ (by cases cs with | nil => exact absurd rfl hne | cons c t => simp) hl4)])), q3, q4⟩, q5⟩)
def F_chrC (cs : List Int32) (i : Nat) (hi : i < cs.length) : Int32 := cs[i]
def Q_chrC (Z : State) (a0 : Addr) (cs : List Int32) (i : Nat) (hi : i < cs.length) (h0 : Heap) (n0 : Nat) (v : Option Value) (h : Heap) (L : List Loc) : Prop := v = some (.int (F_chrC cs i hi)) ∧ Fr n0 L ∧ h = h0
theorem rm_chrC (l : Launch) (Z : State) (a0' : Array Value) (hw : ∀ d ∈ tables_1, d.before a0' Z = true) (ws : List Jvm.Cond) (a0 : Addr) (cs : List Int32) (i : Nat) (hi : i < cs.length) (kc : Int32) (fm : Value) (h0 : Heap) (n0 : Nat) (Z0 : n0 ≤ h0.size) (HS : CS Z h0 a0 cs) (hl4 : cs.length ≤ 4) (S_cs : Sta Z h0 "java/lang/String" "COMPACT_STRINGS" "Z" (.int kc)) (hkc : ¬ (kc = (0 : Int32))) (S_fm : Sta Z h0 "jdk/internal/util/Preconditions" "SIOOBE_FORMATTER" "Ljava/util/function/BiFunction;" fm) (hfm : fm.isRef = true) (S_ad : Sta Z h0 "java/lang/StringUTF16" "$assertionsDisabled" "Z" (.int 1)) (S_hi : Sta Z h0 "java/lang/StringUTF16" "HI_BYTE_SHIFT" "I" (.int 0)) (S_lo : Sta Z h0 "java/lang/StringUTF16" "LO_BYTE_SHIFT" "I" (.int 8)) :
    MF l nm9 jdk_42_method_56_code 2 (some .char) ws (⟨4, 0, 0, 53⟩ : Room) #[(.ref a0), (.int (Int32.ofNat i))] Z h0 (Q_chrC Z a0 cs i hi h0 n0) := by
  obtain ⟨E, b, k, V, d⟩ := HS
  rcases d with ⟨C, hb, A⟩ | ⟨C, hb, hne, A⟩
  · obtain ⟨cl, Ar, -, hs, hn, hH, -⟩ := A
    have hlo : ¬ (Int32.ofNat i < (0 : Int32)) := (own_len4 i (by omega)).2
    have hat : cl.slots[(Int32.ofNat i).toNatClampNeg]? = some (.int (own_la cs[i])) := by
      rw [(own_len4 i (by omega)).1, hH i (by rw [hs, (own_len4 _ (by omega)).1]; exact hi)]
      simp [List.getD_eq_getElem?_getD, hi]
    exact own_mono (rm_chrL l Z a0' hw ws a0 (Int32.ofNat i) b cl _ (own_la cs[i]) kc fm h0 n0 Z0 E C V Ar hs hn hlo (own_lt4 _ _ hi hl4) hat S_cs hkc S_fm hfm) (fun _ _ _ _ ⟨v, L, q1, ⟨q2, q3, q4⟩, q5⟩ => ⟨v, L, q1, ⟨q2.trans (congrArg (fun z => some (Value.int z)) (by unfold F_chrC F_chrL F_lchar; rw [own_getl _ (hb _ (List.getElem_mem hi))]; have q := hb _ (List.getElem_mem hi); exact own_i2c _ q.1 (by omega))), q3, q4⟩, q5⟩)
  · obtain ⟨cl, Ar, -, hs, hn, hH, -⟩ := A
    have hlo : ¬ (Int32.ofNat i < (0 : Int32)) := (own_len4 i (by omega)).2
    have hz : cl.slots.size = 2 * cs.length := by rw [hs, (own_len4 _ (by omega)).1]
    obtain ⟨j0, j1, j2, j3⟩ := own_idx2 i (by omega)
    obtain ⟨u0, u1⟩ := own_u16get cs i hi (.int 0)
    have hhi : Int32.ofNat i < F_ulen (Int32.ofNat (2 * cs.length)) := by unfold F_ulen; rw [own_shr1 _ hl4]; exact own_lt4 _ _ hi hl4
    exact own_mono (rm_chrU l Z a0' hw ws a0 (Int32.ofNat i) b cl _ (own_lo cs[i]) (own_hi cs[i]) kc fm h0 n0 Z0 E C V Ar (by rw [j0, hz]; rintro (q | q); exact j1 q; omega) (by rw [j0, hH _ (by omega), u0]) (by rw [j2, hz]; rintro (q | q); exact j3 q; omega) (by rw [j2, hH _ (by omega), u1]) hs hn hlo hhi S_cs hkc S_fm hfm S_ad S_hi S_lo) (fun _ _ _ _ ⟨v, L, q1, ⟨q2, q3, q4⟩, q5⟩ => ⟨v, L, q1, ⟨q2.trans (congrArg (fun z => some (Value.int z)) (by unfold F_chrC F_chrU F_uchr F_getC; rw [own_getc _ (hb _ (List.getElem_mem hi))]; have q := hb _ (List.getElem_mem hi); rw [show nar .char cs[i] = cs[i] from own_i2c _ q.1 (by omega)]; exact own_i2c _ q.1 (by omega))), q3, q4⟩, q5⟩)
theorem od108 : decode jdk_52_method_3_code 0 = .ok (.iload_n 0, 1) := by decide +kernel
theorem od109 : decode jdk_52_method_3_code 1 = .ok (.ifCond .ge 11, 3) := by decide +kernel
theorem od110 : decode jdk_52_method_3_code 12 = .ok (.iload_n 0, 1) := by decide +kernel
theorem od111 : decode jdk_52_method_3_code 13 = .ok (.ldc 20, 2) := by decide +kernel
theorem od112 : decode jdk_52_method_3_code 15 = .ok (.if_icmp .lt 40, 3) := by decide +kernel
theorem od113 : decode jdk_52_method_3_code 55 = .ok (.iload_n 0, 1) := by decide +kernel
theorem od114 : decode jdk_52_method_3_code 56 = .ok (.iconst 1, 1) := by decide +kernel
theorem od115 : decode jdk_52_method_3_code 57 = .ok (.ishl, 1) := by decide +kernel
theorem od116 : decode jdk_52_method_3_code 58 = .ok (.ireturn, 1) := by decide +kernel
def F_nbl1  : Int32 := ((1 : Int32) <<< ((1 : Int32) &&& 31))
theorem own_ef_nbl1 (m : MethodId)  : entryFrame m #[(.int 1)] 1 = mkF m 0 #[vi 1] [] := by first | (simp [entryFrame, mkF, argsToLocals, Value.category]; done) | rfl
def Q_nbl1 (Z : State)  (h0 : Heap) (n0 : Nat) (v : Option Value) (h : Heap) (L : List Loc) : Prop := v = some (.int F_nbl1) ∧ Fr n0 L ∧ h = h0
theorem rm_nbl1 (l : Launch) (Z : State) (a0' : Array Value) (hw : ∀ d ∈ tables_1, d.before a0' Z = true) (ws : List Jvm.Cond)  (h0 : Heap) (n0 : Nat) (Z0 : n0 ≤ h0.size) :
    MF l nm12 jdk_52_method_3_code 1 (some .int) ws (⟨0, 0, 0, 0⟩ : Room) #[(.int 1)] Z h0 (Q_nbl1 Z  h0 n0) := by
  refine MetFree.of_bodySF (plainFor_of_name own_pn3) hisR ?_
  intro p e s m args below meth c s₁ Bd hml0 hP hK
  obtain ⟨rfl, hZ, hh⟩ := hP
  have hx := Bd.exec
  have hby := Bd.bytes
  have hml : c.maxLocals = 1 := hml0
  have hown : s.vm.findClass "java/lang/StringUTF16" = some m.cls := findClass_of_methodNamed Bd.named
  have hnm := (name_of_methodNamed Bd.named Bd.method).1
  have X0 : Stand p l e (⟨0, 0, 0, 0⟩ : Room) s m #[(.int 1)] below meth c s₁ [] 0 0 := Stand.of_body Bd
  have e0 : s₁.heap = h0 := by rw [← hh, Bd.state]; rfl
  have N0 := Fr.nil n0
  have pre0 : PT p e below (s₁.setTop (mkF m 0 #[vi 1] [])) (s₁.setTop (entryFrame m #[(.int 1)] 1)) := fun t k => castTop (own_ef_nbl1 m ) k
  obtain ⟨fs, hr, hrun, hended, hW, hsame⟩ := X0.leave (v := some (.int ((1 : Int32) <<< ((1 : Int32) &&& 31)))) (fun h => by rw [Bd.returns] at h; cases h)
  refine ⟨_, _, pre0 _ ?_, hrun, hended, _, _, rfl, ?_, ⟨_, rfl⟩, hW, hsame.mono (by decide) (by decide)⟩
  · show Steps p.tables e below (s₁.setTop (mkF m 0 #[vi 1] [])) _
    refine XS.iloadN X0.here hx rfl (hb hby od108) rfl ?_
    refine XS.ifYes X0.here hx rfl (pc0 := 1) (pc' := 12) rfl (hb hby od109) rfl ((if0 _ _).trans (flt (by decide : ¬ ((1 : Int32) < (0 : Int32)))).2.1) (by decide) (by decide) ?_
    refine XS.iloadN X0.here hx rfl (hb hby od110) rfl ?_
    refine X0.ldcInt hx hown (mvT hZ (ow hw 97 rfl)) (g := (mkF m 13 #[vi 1] [(.int 1)])) rfl (hb hby od111) _ ?_
    refine XS.icmpYes X0.here hx rfl (pc0 := 15) (pc' := 55) rfl (hb hby od112) rfl (tlt (by decide : (1 : Int32) < (1073741823 : Int32))).1 (by decide) (by decide) ?_
    refine XS.iloadN X0.here hx rfl (hb hby od113) rfl ?_
    refine XS.iconst X0.here hx rfl (hb hby od114) ?_
    refine XS.ishl X0.here hx rfl (hb hby od115) rfl ?_
    exact own_retI X0 hx Bd.returns (hb hby od116) hr
  · show Q_nbl1 Z  h0 n0 _ s₁.heap _
    refine ⟨?_, N0, e0⟩
    rw [F_nbl1]
theorem od117 : decode jdk_52_method_2_code 0 = .ok (.iload_n 0, 1) := by decide +kernel
theorem od118 : decode jdk_52_method_2_code 1 = .ok (.invokestatic 11, 3) := by decide +kernel
theorem own_pd7 : parseMethodDescriptor "(I)I" = some ⟨[.int], some .int⟩ := by decide +kernel
theorem od119 : decode jdk_52_method_2_code 4 = .ok (.newarray .byte, 2) := by decide +kernel
theorem od120 : decode jdk_52_method_2_code 6 = .ok (.areturn, 1) := by decide +kernel
theorem own_ef_nbf1 (m : MethodId)  : entryFrame m #[(.int 1)] 1 = mkF m 0 #[vi 1] [] := by first | (simp [entryFrame, mkF, argsToLocals, Value.category]; done) | rfl
def Q_nbf1 (Z : State)  (h0 : Heap) (n0 : Nat) (v : Option Value) (h : Heap) (L : List Loc) : Prop := ∃ (r : Addr) (k : ClassId), v = some (.ref r) ∧ Fr n0 L ∧ Ext h0 h ∧ h0.size ≤ r ∧ Arv Z h r k .byte (2 : Int32) [(.int 0), (.int 0)] (.int 0)
theorem rm_nbf1 (l : Launch) (Z : State) (a0' : Array Value) (hw : ∀ d ∈ tables_1, d.before a0' Z = true) (ws : List Jvm.Cond)  (h0 : Heap) (n0 : Nat) (Z0 : n0 ≤ h0.size) :
    MF l nm13 jdk_52_method_2_code 1 (some (.array .byte)) ws (⟨1, 1, 2, 12⟩ : Room) #[(.int 1)] Z h0 (Q_nbf1 Z  h0 n0) := by
  refine MetFree.of_bodySF (plainFor_of_name own_pn3) hisR ?_
  intro p e s m args below meth c s₁ Bd hml0 hP hK
  obtain ⟨rfl, hZ, hh⟩ := hP
  have hx := Bd.exec
  have hby := Bd.bytes
  have hml : c.maxLocals = 1 := hml0
  have hown : s.vm.findClass "java/lang/StringUTF16" = some m.cls := findClass_of_methodNamed Bd.named
  have hnm := (name_of_methodNamed Bd.named Bd.method).1
  have X0 : Stand p l e (⟨1, 1, 2, 12⟩ : Room) s m #[(.int 1)] below meth c s₁ [] 0 0 := Stand.of_body Bd
  have e0 : s₁.heap = h0 := by rw [← hh, Bd.state]; rfl
  have N0 := Fr.nil n0
  have pre0 : PT p e below (s₁.setTop (mkF m 0 #[vi 1] [])) (s₁.setTop (entryFrame m #[(.int 1)] 1)) := fun t k => castTop (own_ef_nbf1 m ) k
  obtain ⟨_, _, ⟨T32, L32, k32, n32⟩, -, X32, ⟨Lc32, hQ32, l32, y32, z32⟩, st32⟩ := Jvm.LawKit.callS X0 hx (y := nm12) hown (mvT hZ (ow hw 94 rfl)) (mvT hZ (ow hw 95 rfl)) (mvT hZ (ow hw 41 rfl)) (mvT hZ (ow hw 96 rfl)) (by decide) (backOf (W := 0) (rm_nbl1 l Z a0' hw []  h0 n0 Z0) hZ (ow hw 96 rfl) (ow hw 41 rfl) (by decide) (by decide)) (g := (mkF m 1 #[vi 1] [(.int 1)])) rfl (by rw [hml]; rfl) (argsL := [(.int 1)]) (rest := []) (lenOf own_pd7 rfl) rfl (by show 2 * 0 + _ ≤ _; exact Nat.le_of_eq rfl) (hb hby od118) (fun _ _ => ⟨rfl, e0, (by decide : 0 + 0 ≤ _), (by decide : 0 + 0 ≤ _)⟩)
  dsimp only [Pt.U, Pt.locs, Pt.cells, Pt.slots] at X32 l32 y32 z32 st32 hQ32
  subst l32 y32 z32
  obtain ⟨rfl, N32q, e32⟩ := hQ32
  have N32 := Fr.app N0 N32q
  have q32 : F_nbl1 = (2 : Int32) := by decide
  rw [q32] at st32
  obtain ⟨T33, h33, k33, X33, e33, E33, A33, st33⟩ := newP X32 hx hZ (ow hw 17 rfl) e32 (g := (mkF m 4 #[vi 1] [(.int 2)])) rfl (hb hby od119) rfl (by decide) (cap := 2) (by decide) (by decide) (by decide) (by decide)
  obtain ⟨b33, g33⟩ : ∃ z, z = h0.size := ⟨_, rfl⟩
  rw [← g33] at A33 st33
  have V_b33 : Arv Z h33 b33 k33 .byte (2 : Int32) [(.int 0), (.int 0)] (.int 0) := (Arv.new A33 (by decide)).pad (pad_rep [] (.int 0) 2)
  have g_b33 : n0 ≤ b33 := Nat.le_trans Z0 (Nat.le_of_eq g33.symm)
  have sz_b33 : h0.size ≤ b33 := Nat.le_trans (Nat.le_refl _) (Nat.le_of_eq g33.symm)
  have EX33 : Ext h0 h33 := E33
  have SZ33 : h0.size ≤ h33.size := EX33.1
  have Z33 : n0 ≤ h33.size := Nat.le_trans Z0 SZ33
  obtain ⟨fs, hr, hrun, hended, hW, hsame⟩ := X33.leave (v := some (.ref b33)) (fun h => by rw [Bd.returns] at h; cases h)
  refine ⟨_, _, pre0 _ ?_, hrun, hended, _, _, rfl, ?_, ⟨_, rfl⟩, hW, hsame.mono (by decide) (by decide)⟩
  · show Steps p.tables e below (s₁.setTop (mkF m 0 #[vi 1] [])) _
    refine XS.iloadN X0.here hx rfl (hb hby od117) rfl ?_
    refine st32 _ ?_
    refine st33 _ ?_
    exact own_retA X33 hx Bd.returns rfl rfl rfl (hb hby od120) hr
  · show Q_nbf1 Z  h0 n0 _ T33.heap _
    rw [e33]
    exact ⟨_, _, rfl, N32, EX33, sz_b33, V_b33⟩
theorem od121 : decode jdk_52_method_4_code 0 = .ok (.getstatic 44, 3) := by decide +kernel
theorem od122 : decode jdk_52_method_4_code 3 = .ok (.ifCond .ne 25, 3) := by decide +kernel
theorem od123 : decode jdk_52_method_4_code 28 = .ok (.iload_n 1, 1) := by decide +kernel
theorem od124 : decode jdk_52_method_4_code 29 = .ok (.iconst 1, 1) := by decide +kernel
theorem od125 : decode jdk_52_method_4_code 30 = .ok (.ishl, 1) := by decide +kernel
theorem od126 : decode jdk_52_method_4_code 31 = .ok (.istore_n 1, 1) := by decide +kernel
theorem od127 : decode jdk_52_method_4_code 32 = .ok (.aload_n 0, 1) := by decide +kernel
theorem od128 : decode jdk_52_method_4_code 33 = .ok (.iload_n 1, 1) := by decide +kernel
theorem od129 : decode jdk_52_method_4_code 34 = .ok (.iinc 1 1, 3) := by decide +kernel
theorem od130 : decode jdk_52_method_4_code 37 = .ok (.iload_n 2, 1) := by decide +kernel
theorem od131 : decode jdk_52_method_4_code 38 = .ok (.getstatic 59, 3) := by decide +kernel
theorem od132 : decode jdk_52_method_4_code 41 = .ok (.ishr, 1) := by decide +kernel
theorem od133 : decode jdk_52_method_4_code 42 = .ok (.i2b, 1) := by decide +kernel
theorem od134 : decode jdk_52_method_4_code 43 = .ok (.bastore, 1) := by decide +kernel
theorem od135 : decode jdk_52_method_4_code 44 = .ok (.aload_n 0, 1) := by decide +kernel
theorem od136 : decode jdk_52_method_4_code 45 = .ok (.iload_n 1, 1) := by decide +kernel
theorem od137 : decode jdk_52_method_4_code 46 = .ok (.iload_n 2, 1) := by decide +kernel
theorem od138 : decode jdk_52_method_4_code 47 = .ok (.getstatic 63, 3) := by decide +kernel
theorem od139 : decode jdk_52_method_4_code 50 = .ok (.ishr, 1) := by decide +kernel
theorem od140 : decode jdk_52_method_4_code 51 = .ok (.i2b, 1) := by decide +kernel
theorem od141 : decode jdk_52_method_4_code 52 = .ok (.bastore, 1) := by decide +kernel
theorem od142 : decode jdk_52_method_4_code 53 = .ok (.return_, 1) := by decide +kernel
theorem own_ef_put1_0 (m : MethodId) (a0 : Addr) (p2 : Int32) : entryFrame m #[(.ref a0), (.int 0), (.int p2)] 3 = mkF m 0 #[vr a0, vi 0, vi p2] [] := by first | (simp [entryFrame, mkF, argsToLocals, Value.category]; done) | rfl
def Q_put1_0 (Z : State) (a0 : Addr) (p2 : Int32) (kb1 : ClassId) (x0 : Int32) (x1 : Int32) (h0 : Heap) (n0 : Nat) (v : Option Value) (h : Heap) (L : List Loc) : Prop := v = none ∧ Fr n0 L ∧ Keep h0 h [a0] ∧ Arv Z h a0 kb1 .byte (2 : Int32) [(.int (nar .byte ((p2 >>> ((0 : Int32) &&& 31)).toInt8.toInt32))), (.int (nar .byte ((p2 >>> ((8 : Int32) &&& 31)).toInt8.toInt32)))] (.int 0)
theorem rm_put1_0 (l : Launch) (Z : State) (a0' : Array Value) (hw : ∀ d ∈ tables_1, d.before a0' Z = true) (ws : List Jvm.Cond) (a0 : Addr) (p2 : Int32) (kb1 : ClassId) (x0 : Int32) (x1 : Int32) (h0 : Heap) (n0 : Nat) (Z0 : n0 ≤ h0.size) (VB : Arv Z h0 a0 kb1 .byte (2 : Int32) [(.int x0), (.int x1)] (.int 0)) (g0 : n0 ≤ a0) (S_ad : Sta Z h0 "java/lang/StringUTF16" "$assertionsDisabled" "Z" (.int 1)) (S_hi : Sta Z h0 "java/lang/StringUTF16" "HI_BYTE_SHIFT" "I" (.int 0)) (S_lo : Sta Z h0 "java/lang/StringUTF16" "LO_BYTE_SHIFT" "I" (.int 8)) :
    MF l nm14 jdk_52_method_4_code 3 none ws (⟨0, 0, 0, 0⟩ : Room) #[(.ref a0), (.int 0), (.int p2)] Z h0 (Q_put1_0 Z a0 p2 kb1 x0 x1 h0 n0) := by
  refine MetFree.of_bodySF (plainFor_of_name own_pn3) hisR ?_
  intro p e s m args below meth c s₁ Bd hml0 hP hK
  obtain ⟨rfl, hZ, hh⟩ := hP
  have hx := Bd.exec
  have hby := Bd.bytes
  have hml : c.maxLocals = 3 := hml0
  have hown : s.vm.findClass "java/lang/StringUTF16" = some m.cls := findClass_of_methodNamed Bd.named
  have hnm := (name_of_methodNamed Bd.named Bd.method).1
  have X0 : Stand p l e (⟨0, 0, 0, 0⟩ : Room) s m #[(.ref a0), (.int 0), (.int p2)] below meth c s₁ [] 0 0 := Stand.of_body Bd
  have e0 : s₁.heap = h0 := by rw [← hh, Bd.state]; rfl
  have N0 := Fr.nil n0
  have pre0 : PT p e below (s₁.setTop (mkF m 0 #[vr a0, vi 0, vi p2] [])) (s₁.setTop (entryFrame m #[(.ref a0), (.int 0), (.int p2)] 3)) := fun t k => castTop (own_ef_put1_0 m a0 p2) k
  obtain ⟨T34, X34, e34, st34⟩ := getS2 X0 hx hZ hown (host := "") (Or.inl (ow hw 101 rfl)) Via.refl e0 S_ad (g := (mkF m 0 #[vr a0, vi 0, vi p2] [])) rfl (hb hby od121)
  obtain ⟨T35, X35, e35, st35⟩ := getS2 X34 hx hZ hown (host := "") (Or.inl (ow hw 102 rfl)) Via.refl e34 S_hi (g := (mkF m 38 #[vr a0, vi (((0 : Int32) <<< ((1 : Int32) &&& 31)) + (1 : Int32)), vi p2] [(.int p2), (.int ((0 : Int32) <<< ((1 : Int32) &&& 31))), (.ref a0)])) rfl (hb hby od131)
  have Vc36 := VB
  obtain ⟨cl36, Ar36, q36, S36, N_36, H36, G36⟩ := Vc36
  have hin36 : ¬ (((0 : Int32) <<< ((1 : Int32) &&& 31)) < 0 ∨ cl36.slots.size ≤ (((0 : Int32) <<< ((1 : Int32) &&& 31))).toNatClampNeg) := inb_of S36 ⟨by decide, by decide⟩
  obtain ⟨T37, h37, X37, e37, W37, st37⟩ := stB X35 hx hZ e35 Ar36 (j := ((0 : Int32) <<< ((1 : Int32) &&& 31))) hin36 (g := (mkF m 43 #[vr a0, vi (((0 : Int32) <<< ((1 : Int32) &&& 31)) + (1 : Int32)), vi p2] [(.int ((p2 >>> ((0 : Int32) &&& 31)).toInt8.toInt32)), (.int ((0 : Int32) <<< ((1 : Int32) &&& 31))), (.ref a0)])) rfl rfl (hb hby od134)
  have V_a0_37 : Arv Z h37 a0 kb1 .byte (2 : Int32) [(.int (nar .byte ((p2 >>> ((0 : Int32) &&& 31)).toInt8.toInt32))), (.int x1)] (.int 0) := Arv.set Ar36 q36 S36 N_36 H36 G36 (fits_nar_byte _) W37 0 rfl (Nat.le_of_ble_eq_true rfl)
  have N37 := Fr.snoc X37 N0 g0
  have KP37 : Keep h0 h37 [a0] := (Keep.refl h0 [a0]).wr W37 (Or.inl (List.mem_of_getElem? (i := 0) rfl))
  have SZ37 : h0.size ≤ h37.size := KP37.1
  have Z37 : n0 ≤ h37.size := Nat.le_trans Z0 SZ37
  obtain ⟨T38, X38, e38, st38⟩ := getS2 X37 hx hZ hown (host := "") (Or.inl (ow hw 103 rfl)) Via.refl e37 (S_lo.wr W37) (g := (mkF m 47 #[vr a0, vi (((0 : Int32) <<< ((1 : Int32) &&& 31)) + (1 : Int32)), vi p2] [(.int p2), (.int (((0 : Int32) <<< ((1 : Int32) &&& 31)) + (1 : Int32))), (.ref a0)])) rfl (hb hby od138)
  have Vc39 := V_a0_37
  obtain ⟨cl39, Ar39, q39, S39, N_39, H39, G39⟩ := Vc39
  have hin39 : ¬ ((((0 : Int32) <<< ((1 : Int32) &&& 31)) + (1 : Int32)) < 0 ∨ cl39.slots.size ≤ ((((0 : Int32) <<< ((1 : Int32) &&& 31)) + (1 : Int32))).toNatClampNeg) := inb_of S39 ⟨by decide, by decide⟩
  obtain ⟨T40, h40, X40, e40, W40, st40⟩ := stB X38 hx hZ e38 Ar39 (j := (((0 : Int32) <<< ((1 : Int32) &&& 31)) + (1 : Int32))) hin39 (g := (mkF m 52 #[vr a0, vi (((0 : Int32) <<< ((1 : Int32) &&& 31)) + (1 : Int32)), vi p2] [(.int ((p2 >>> ((8 : Int32) &&& 31)).toInt8.toInt32)), (.int (((0 : Int32) <<< ((1 : Int32) &&& 31)) + (1 : Int32))), (.ref a0)])) rfl rfl (hb hby od141)
  have V_a0_40 : Arv Z h40 a0 kb1 .byte (2 : Int32) [(.int (nar .byte ((p2 >>> ((0 : Int32) &&& 31)).toInt8.toInt32))), (.int (nar .byte ((p2 >>> ((8 : Int32) &&& 31)).toInt8.toInt32)))] (.int 0) := Arv.set Ar39 q39 S39 N_39 H39 G39 (fits_nar_byte _) W40 1 rfl (Nat.le_of_ble_eq_true rfl)
  have N40 := Fr.snoc X40 N37 g0
  have KP40 : Keep h0 h40 [a0] := KP37.wr W40 (Or.inl (List.mem_of_getElem? (i := 0) rfl))
  have SZ40 : h0.size ≤ h40.size := KP40.1
  have Z40 : n0 ≤ h40.size := Nat.le_trans Z0 SZ40
  obtain ⟨fs, hr, hrun, hended, hW, hsame⟩ := X40.leave (v := none) (fun _ => rfl)
  refine ⟨_, _, pre0 _ ?_, hrun, hended, _, _, rfl, ?_, ⟨_, rfl⟩, hW, hsame.mono (by decide) (by decide)⟩
  · show Steps p.tables e below (s₁.setTop (mkF m 0 #[vr a0, vi 0, vi p2] [])) _
    refine st34 _ ?_
    refine XS.ifYes X34.here hx rfl (pc0 := 3) (pc' := 28) rfl (hb hby od122) rfl ((if0 _ _).trans (feq (by decide : ¬ ((1 : Int32) = (0 : Int32)))).2) (by decide) (by decide) ?_
    refine XS.iloadN X34.here hx rfl (hb hby od123) rfl ?_
    refine XS.iconst X34.here hx rfl (hb hby od124) ?_
    refine XS.ishl X34.here hx rfl (hb hby od125) rfl ?_
    refine XS.istoreN X34.here hx rfl (hb hby od126) rfl (l' := #[vr a0, vi ((0 : Int32) <<< ((1 : Int32) &&& 31)), vi p2]) rfl ?_
    refine XS.aloadN X34.here hx rfl (hb hby od127) rfl rfl ?_
    refine XS.iloadN X34.here hx rfl (hb hby od128) rfl ?_
    refine XS.iinc X34.here hx rfl (hb hby od129) rfl (l' := #[vr a0, vi (((0 : Int32) <<< ((1 : Int32) &&& 31)) + (1 : Int32)), vi p2]) rfl ?_
    refine XS.iloadN X34.here hx rfl (hb hby od130) rfl ?_
    refine st35 _ ?_
    refine XS.ishr X35.here hx rfl (hb hby od132) rfl ?_
    refine XS.i2b X35.here hx rfl (hb hby od133) rfl ?_
    refine st37 _ ?_
    refine XS.aloadN X37.here hx rfl (hb hby od135) rfl rfl ?_
    refine XS.iloadN X37.here hx rfl (hb hby od136) rfl ?_
    refine XS.iloadN X37.here hx rfl (hb hby od137) rfl ?_
    refine st38 _ ?_
    refine XS.ishr X38.here hx rfl (hb hby od139) rfl ?_
    refine XS.i2b X38.here hx rfl (hb hby od140) rfl ?_
    refine st40 _ ?_
    exact X40.returnOut hx Bd.returns (hb hby od142) hr
  · show Q_put1_0 Z a0 p2 kb1 x0 x1 h0 n0 _ T40.heap _
    rw [e40]
    exact ⟨rfl, N40, KP40, V_a0_40⟩
theorem od143 : decode jdk_52_method_14_code 0 = .ok (.iload_n 2, 1) := by decide +kernel
theorem od144 : decode jdk_52_method_14_code 1 = .ok (.invokestatic 107, 3) := by decide +kernel
theorem own_pd8 : parseMethodDescriptor "(I)[B" = some ⟨[.int], some (.array .byte)⟩ := by decide +kernel
theorem od145 : decode jdk_52_method_14_code 4 = .ok (.astore_n 3, 1) := by decide +kernel
theorem od146 : decode jdk_52_method_14_code 5 = .ok (.iconst 0, 1) := by decide +kernel
theorem od147 : decode jdk_52_method_14_code 6 = .ok (.istore 4, 2) := by decide +kernel
theorem od148 : decode jdk_52_method_14_code 8 = .ok (.iload 4, 2) := by decide +kernel
theorem od149 : decode jdk_52_method_14_code 10 = .ok (.iload_n 2, 1) := by decide +kernel
theorem od150 : decode jdk_52_method_14_code 11 = .ok (.if_icmp .ge 21, 3) := by decide +kernel
theorem od151 : decode jdk_52_method_14_code 14 = .ok (.aload_n 3, 1) := by decide +kernel
theorem od152 : decode jdk_52_method_14_code 15 = .ok (.iload 4, 2) := by decide +kernel
theorem od153 : decode jdk_52_method_14_code 17 = .ok (.aload_n 0, 1) := by decide +kernel
theorem od154 : decode jdk_52_method_14_code 18 = .ok (.iload_n 1, 1) := by decide +kernel
theorem od155 : decode jdk_52_method_14_code 19 = .ok (.caload, 1) := by decide +kernel
theorem od156 : decode jdk_52_method_14_code 20 = .ok (.invokestatic 111, 3) := by decide +kernel
theorem own_pd9 : parseMethodDescriptor "([BII)V" = some ⟨[(.array .byte), .int, .int], none⟩ := by decide +kernel
theorem od157 : decode jdk_52_method_14_code 23 = .ok (.iinc 1 1, 3) := by decide +kernel
theorem od158 : decode jdk_52_method_14_code 26 = .ok (.iinc 4 1, 3) := by decide +kernel
theorem od159 : decode jdk_52_method_14_code 29 = .ok (.goto (-21), 3) := by decide +kernel
theorem od160 : decode jdk_52_method_14_code 32 = .ok (.aload_n 3, 1) := by decide +kernel
theorem od161 : decode jdk_52_method_14_code 33 = .ok (.areturn, 1) := by decide +kernel
theorem own_ef_tob1 (m : MethodId) (a0 : Addr) : entryFrame m #[(.ref a0), (.int 0), (.int 1)] 5 = mkF m 0 #[vr a0, vi 0, vi 1, .unset, .unset] [] := by first | (simp [entryFrame, mkF, argsToLocals, Value.category]; done) | rfl
def Q_tob1 (Z : State) (a0 : Addr) (kc1 : ClassId) (c0 : Int32) (h0 : Heap) (n0 : Nat) (v : Option Value) (h : Heap) (L : List Loc) : Prop := ∃ (r : Addr) (k : ClassId), v = some (.ref r) ∧ Fr n0 L ∧ Ext h0 h ∧ h0.size ≤ r ∧ Arv Z h r k .byte (2 : Int32) [(.int (nar .byte ((c0 >>> ((0 : Int32) &&& 31)).toInt8.toInt32))), (.int (nar .byte ((c0 >>> ((8 : Int32) &&& 31)).toInt8.toInt32)))] (.int 0)
theorem rm_tob1 (l : Launch) (Z : State) (a0' : Array Value) (hw : ∀ d ∈ tables_1, d.before a0' Z = true) (ws : List Jvm.Cond) (a0 : Addr) (kc1 : ClassId) (c0 : Int32) (h0 : Heap) (n0 : Nat) (Z0 : n0 ≤ h0.size) (VA : Arv Z h0 a0 kc1 .char (1 : Int32) [(.int c0)] (.int 0)) (S_ad : Sta Z h0 "java/lang/StringUTF16" "$assertionsDisabled" "Z" (.int 1)) (S_hi : Sta Z h0 "java/lang/StringUTF16" "HI_BYTE_SHIFT" "I" (.int 0)) (S_lo : Sta Z h0 "java/lang/StringUTF16" "LO_BYTE_SHIFT" "I" (.int 8)) :
    MF l nm15 jdk_52_method_14_code 5 (some (.array .byte)) ws (⟨2, 1, 2, 24⟩ : Room) #[(.ref a0), (.int 0), (.int 1)] Z h0 (Q_tob1 Z a0 kc1 c0 h0 n0) := by
  refine MetFree.of_bodySF (plainFor_of_name own_pn3) hisR ?_
  intro p e s m args below meth c s₁ Bd hml0 hP hK
  obtain ⟨rfl, hZ, hh⟩ := hP
  have hx := Bd.exec
  have hby := Bd.bytes
  have hml : c.maxLocals = 5 := hml0
  have hown : s.vm.findClass "java/lang/StringUTF16" = some m.cls := findClass_of_methodNamed Bd.named
  have hnm := (name_of_methodNamed Bd.named Bd.method).1
  have X0 : Stand p l e (⟨2, 1, 2, 24⟩ : Room) s m #[(.ref a0), (.int 0), (.int 1)] below meth c s₁ [] 0 0 := Stand.of_body Bd
  have e0 : s₁.heap = h0 := by rw [← hh, Bd.state]; rfl
  have N0 := Fr.nil n0
  have pre0 : PT p e below (s₁.setTop (mkF m 0 #[vr a0, vi 0, vi 1, .unset, .unset] [])) (s₁.setTop (entryFrame m #[(.ref a0), (.int 0), (.int 1)] 5)) := fun t k => castTop (own_ef_tob1 m a0) k
  obtain ⟨_, _, ⟨T41, L41, k41, n41⟩, -, X41, ⟨Lc41, hQ41, l41, y41, z41⟩, st41⟩ := Jvm.LawKit.callS X0 hx (y := nm13) hown (mvT hZ (ow hw 91 rfl)) (mvT hZ (ow hw 92 rfl)) (mvT hZ (ow hw 41 rfl)) (mvT hZ (ow hw 93 rfl)) (by decide) (backOf (W := 0) (rm_nbf1 l Z a0' hw []  h0 n0 Z0) hZ (ow hw 93 rfl) (ow hw 41 rfl) (by decide) (by decide)) (g := (mkF m 1 #[vr a0, vi 0, vi 1, .unset, .unset] [(.int 1)])) rfl (by rw [hml]; rfl) (argsL := [(.int 1)]) (rest := []) (lenOf own_pd8 rfl) rfl (by show 2 * 0 + _ ≤ _; exact Nat.le_of_eq rfl) (hb hby od144) (fun _ _ => ⟨rfl, e0, (by decide : 0 + 1 ≤ _), (by decide : 0 + 2 ≤ _)⟩)
  dsimp only [Pt.U, Pt.locs, Pt.cells, Pt.slots] at X41 l41 y41 z41 st41 hQ41
  subst l41 y41 z41
  obtain ⟨r41, kk41, rfl, N41q, E41, zz41, V41⟩ := hQ41
  have N41 := Fr.app N0 N41q
  have ne41_a0_r41 : a0 ≠ r41 := Nat.ne_of_lt (Nat.lt_of_lt_of_le VA.lt zz41)
  have g_r41 : n0 ≤ r41 := Nat.le_trans Z0 zz41
  have sz_r41 : h0.size ≤ r41 := Nat.le_trans (Nat.le_refl _) zz41
  have EX41 : Ext h0 T41.heap := E41
  have SZ41 : h0.size ≤ T41.heap.size := EX41.1
  have Z41 : n0 ≤ T41.heap.size := Nat.le_trans Z0 SZ41
  have fx42 := (VA.ext E41)
  have Vc43 := fx42
  obtain ⟨cl43, Ar43, q43, S43, N_43, H43, G43⟩ := Vc43
  have hin43 : ¬ ((0 : Int32) < 0 ∨ cl43.slots.size ≤ ((0 : Int32)).toNatClampNeg) := inb_of S43 ⟨by decide, by decide⟩
  have hat43 : cl43.slots[((0 : Int32)).toNatClampNeg]? = some (.int c0) := H43 0 (by rw [S43]; decide)
  obtain ⟨_, _, ⟨T44, L44, k44, n44⟩, -, X44, ⟨Lc44, hQ44, l44, y44, z44⟩, st44⟩ := Jvm.LawKit.callS X41 hx (y := nm14) hown (mvT hZ (ow hw 98 rfl)) (mvT hZ (ow hw 99 rfl)) (mvT hZ (ow hw 41 rfl)) (mvT hZ (ow hw 100 rfl)) (by decide) (backOf (W := 0) (rm_put1_0 l Z a0' hw [] r41 c0 kk41 (0 : Int32) (0 : Int32) T41.heap n0 Z41 V41 g_r41 (S_ad.ext EX41) (S_hi.ext EX41) (S_lo.ext EX41)) hZ (ow hw 100 rfl) (ow hw 41 rfl) (by decide) (by decide)) (g := (mkF m 20 #[vr a0, vi 0, vi 1, vr r41, vi 0] [(.int c0), (.int 0), (.ref r41)])) rfl (by rw [hml]; rfl) (argsL := [(.ref r41), (.int 0), (.int c0)]) (rest := []) (lenOf own_pd9 rfl) rfl (by show 2 * 0 + _ ≤ _; exact Nat.le_of_eq rfl) (hb hby od156) (fun _ _ => ⟨rfl, rfl, (by decide : 1 + 0 ≤ _), (by decide : 2 + 0 ≤ _)⟩)
  dsimp only [Pt.U, Pt.locs, Pt.cells, Pt.slots] at X44 l44 y44 z44 st44 hQ44
  subst l44 y44 z44
  obtain ⟨rfl, N44q, K44, V44⟩ := hQ44
  have N44 := Fr.app N41 N44q
  have EX44 : Ext h0 T44.heap := own_extkeep EX41 K44 sz_r41
  have SZ44 : h0.size ≤ T44.heap.size := EX44.1
  have Z44 : n0 ≤ T44.heap.size := Nat.le_trans Z0 SZ44
  obtain ⟨fs, hr, hrun, hended, hW, hsame⟩ := X44.leave (v := some (.ref r41)) (fun h => by rw [Bd.returns] at h; cases h)
  refine ⟨_, _, pre0 _ ?_, hrun, hended, _, _, rfl, ?_, ⟨_, rfl⟩, hW, hsame.mono (by decide) (by decide)⟩
  · show Steps p.tables e below (s₁.setTop (mkF m 0 #[vr a0, vi 0, vi 1, .unset, .unset] [])) _
    refine XS.iloadN X0.here hx rfl (hb hby od143) rfl ?_
    refine st41 _ ?_
    refine XS.astoreN X41.here hx rfl (hb hby od145) rfl rfl (l' := #[vr a0, vi 0, vi 1, vr r41, .unset]) rfl ?_
    refine XS.iconst X41.here hx rfl (hb hby od146) ?_
    refine XS.istore X41.here hx rfl (hb hby od147) rfl (l' := #[vr a0, vi 0, vi 1, vr r41, vi 0]) rfl ?_
    refine XS.iload X41.here hx rfl (hb hby od148) rfl ?_
    refine XS.iloadN X41.here hx rfl (hb hby od149) rfl ?_
    refine XS.icmpNo X41.here hx rfl (hb hby od150) rfl (tlt (by decide : (0 : Int32) < (1 : Int32))).2.1 ?_
    refine XS.aloadN X41.here hx rfl (hb hby od151) rfl rfl ?_
    refine XS.iload X41.here hx rfl (hb hby od152) rfl ?_
    refine XS.aloadN X41.here hx rfl (hb hby od153) rfl rfl ?_
    refine XS.iloadN X41.here hx rfl (hb hby od154) rfl ?_
    refine X41.caload hx (j := (0 : Int32)) (v := (.int c0)) (by exact Ar43.1) (State.isArrayOf_alike hZ.alike Ar43.2.1) Ar43.2.2 hin43 hat43 (g := (mkF m 19 #[vr a0, vi 0, vi 1, vr r41, vi 0] [(.int 0), (.ref a0), (.int 0), (.ref r41)])) rfl rfl (hb hby od155) _ ?_
    refine st44 _ ?_
    refine XS.iinc X44.here hx rfl (hb hby od157) rfl (l' := #[vr a0, vi ((0 : Int32) + (1 : Int32)), vi 1, vr r41, vi 0]) rfl ?_
    refine XS.iinc X44.here hx rfl (hb hby od158) rfl (l' := #[vr a0, vi ((0 : Int32) + (1 : Int32)), vi 1, vr r41, vi ((0 : Int32) + (1 : Int32))]) rfl ?_
    refine XS.goto X44.here hx rfl (pc0 := 29) (pc' := 8) rfl (hb hby od159) (by decide) (by decide) ?_
    refine XS.iload X44.here hx rfl (hb hby od148) rfl ?_
    refine XS.iloadN X44.here hx rfl (hb hby od149) rfl ?_
    refine XS.icmpYes X44.here hx rfl (pc0 := 11) (pc' := 32) rfl (hb hby od150) rfl (flt (by decide : ¬ (((0 : Int32) + (1 : Int32)) < (1 : Int32)))).2.1 (by decide) (by decide) ?_
    refine XS.aloadN X44.here hx rfl (hb hby od160) rfl rfl ?_
    exact own_retA X44 hx Bd.returns rfl rfl rfl (hb hby od161) hr
  · show Q_tob1 Z a0 kc1 c0 h0 n0 _ T44.heap _
    exact ⟨_, _, rfl, N44, EX44, sz_r41, V44⟩
theorem od162 : decode jdk_52_method_21_code 0 = .ok (.iconst 0, 1) := by decide +kernel
theorem od163 : decode jdk_52_method_21_code 1 = .ok (.istore 5, 2) := by decide +kernel
theorem od164 : decode jdk_52_method_21_code 3 = .ok (.iload 5, 2) := by decide +kernel
theorem od165 : decode jdk_52_method_21_code 5 = .ok (.iload 4, 2) := by decide +kernel
theorem od166 : decode jdk_52_method_21_code 7 = .ok (.if_icmp .ge 37, 3) := by decide +kernel
theorem od167 : decode jdk_52_method_21_code 10 = .ok (.aload_n 0, 1) := by decide +kernel
theorem od168 : decode jdk_52_method_21_code 11 = .ok (.iload_n 1, 1) := by decide +kernel
theorem od169 : decode jdk_52_method_21_code 12 = .ok (.caload, 1) := by decide +kernel
theorem od170 : decode jdk_52_method_21_code 13 = .ok (.istore 6, 2) := by decide +kernel
theorem od171 : decode jdk_52_method_21_code 15 = .ok (.iload 6, 2) := by decide +kernel
theorem od172 : decode jdk_52_method_21_code 17 = .ok (.sipush 255, 3) := by decide +kernel
theorem od173 : decode jdk_52_method_21_code 20 = .ok (.if_icmp .le 6, 3) := by decide +kernel
theorem od174 : decode jdk_52_method_21_code 23 = .ok (.iload 5, 2) := by decide +kernel
theorem od175 : decode jdk_52_method_21_code 25 = .ok (.ireturn, 1) := by decide +kernel
theorem own_ef_cmpI1_0 (m : MethodId) (a0 : Addr) (a2 : Addr) : entryFrame m #[(.ref a0), (.int 0), (.ref a2), (.int 0), (.int 1)] 7 = mkF m 0 #[vr a0, vi 0, vr a2, vi 0, vi 1, .unset, .unset] [] := by first | (simp [entryFrame, mkF, argsToLocals, Value.category]; done) | rfl
def Q_cmpI1_0 (Z : State) (a0 : Addr) (a2 : Addr) (kc1 : ClassId) (c0 : Int32) (kb1 : ClassId) (h0 : Heap) (n0 : Nat) (v : Option Value) (h : Heap) (L : List Loc) : Prop := v = some (.int 0) ∧ Fr n0 L ∧ Keep h0 h [a2]
theorem rm_cmpI1_0 (l : Launch) (Z : State) (a0' : Array Value) (hw : ∀ d ∈ tables_1, d.before a0' Z = true) (ws : List Jvm.Cond) (a0 : Addr) (a2 : Addr) (kc1 : ClassId) (c0 : Int32) (kb1 : ClassId) (h0 : Heap) (n0 : Nat) (Z0 : n0 ≤ h0.size) (VA : Arv Z h0 a0 kc1 .char (1 : Int32) [(.int c0)] (.int 0)) (VB : Arv Z h0 a2 kb1 .byte (1 : Int32) [(.int 0)] (.int 0)) (nab : a0 ≠ a2) (g2 : n0 ≤ a2) (hc_c0 : (255 : Int32) < c0) :
    MF l nm16 jdk_52_method_21_code 7 (some .int) ws (⟨0, 0, 0, 0⟩ : Room) #[(.ref a0), (.int 0), (.ref a2), (.int 0), (.int 1)] Z h0 (Q_cmpI1_0 Z a0 a2 kc1 c0 kb1 h0 n0) := by
  refine MetFree.of_bodySF (plainFor_of_name own_pn3) hisR ?_
  intro p e s m args below meth c s₁ Bd hml0 hP hK
  obtain ⟨rfl, hZ, hh⟩ := hP
  have hx := Bd.exec
  have hby := Bd.bytes
  have hml : c.maxLocals = 7 := hml0
  have hown : s.vm.findClass "java/lang/StringUTF16" = some m.cls := findClass_of_methodNamed Bd.named
  have hnm := (name_of_methodNamed Bd.named Bd.method).1
  have X0 : Stand p l e (⟨0, 0, 0, 0⟩ : Room) s m #[(.ref a0), (.int 0), (.ref a2), (.int 0), (.int 1)] below meth c s₁ [] 0 0 := Stand.of_body Bd
  have e0 : s₁.heap = h0 := by rw [← hh, Bd.state]; rfl
  have N0 := Fr.nil n0
  have pre0 : PT p e below (s₁.setTop (mkF m 0 #[vr a0, vi 0, vr a2, vi 0, vi 1, .unset, .unset] [])) (s₁.setTop (entryFrame m #[(.ref a0), (.int 0), (.ref a2), (.int 0), (.int 1)] 7)) := fun t k => castTop (own_ef_cmpI1_0 m a0 a2) k
  have Vc45 := VA
  obtain ⟨cl45, Ar45, q45, S45, N_45, H45, G45⟩ := Vc45
  have hin45 : ¬ ((0 : Int32) < 0 ∨ cl45.slots.size ≤ ((0 : Int32)).toNatClampNeg) := inb_of S45 ⟨by decide, by decide⟩
  have hat45 : cl45.slots[((0 : Int32)).toNatClampNeg]? = some (.int c0) := H45 0 (by rw [S45]; decide)
  obtain ⟨fs, hr, hrun, hended, hW, hsame⟩ := X0.leave (v := some (.int 0)) (fun h => by rw [Bd.returns] at h; cases h)
  refine ⟨_, _, pre0 _ ?_, hrun, hended, _, _, rfl, ?_, ⟨_, rfl⟩, hW, hsame.mono (by decide) (by decide)⟩
  · show Steps p.tables e below (s₁.setTop (mkF m 0 #[vr a0, vi 0, vr a2, vi 0, vi 1, .unset, .unset] [])) _
    refine XS.iconst X0.here hx rfl (hb hby od162) ?_
    refine XS.istore X0.here hx rfl (hb hby od163) rfl (l' := #[vr a0, vi 0, vr a2, vi 0, vi 1, vi 0, .unset]) rfl ?_
    refine XS.iload X0.here hx rfl (hb hby od164) rfl ?_
    refine XS.iload X0.here hx rfl (hb hby od165) rfl ?_
    refine XS.icmpNo X0.here hx rfl (hb hby od166) rfl (tlt (by decide : (0 : Int32) < (1 : Int32))).2.1 ?_
    refine XS.aloadN X0.here hx rfl (hb hby od167) rfl rfl ?_
    refine XS.iloadN X0.here hx rfl (hb hby od168) rfl ?_
    refine X0.caload hx (j := (0 : Int32)) (v := (.int c0)) (by rw [e0]; exact Ar45.1) (State.isArrayOf_alike hZ.alike Ar45.2.1) Ar45.2.2 hin45 hat45 (g := (mkF m 12 #[vr a0, vi 0, vr a2, vi 0, vi 1, vi 0, .unset] [(.int 0), (.ref a0)])) rfl rfl (hb hby od169) _ ?_
    refine XS.istore X0.here hx rfl (hb hby od170) rfl (l' := #[vr a0, vi 0, vr a2, vi 0, vi 1, vi 0, vi c0]) rfl ?_
    refine XS.iload X0.here hx rfl (hb hby od171) rfl ?_
    refine XS.sipush X0.here hx rfl (hb hby od172) ?_
    refine XS.icmpNo X0.here hx rfl (hb hby od173) rfl (tlt hc_c0).2.2.2 ?_
    refine XS.iload X0.here hx rfl (hb hby od174) rfl ?_
    exact own_retI X0 hx Bd.returns (hb hby od175) hr
  · show Q_cmpI1_0 Z a0 a2 kc1 c0 kb1 h0 n0 _ s₁.heap _
    rw [e0]
    exact ⟨rfl, N0, (Keep.refl h0 [a2])⟩
theorem od176 : decode jdk_52_method_16_code 0 = .ok (.iload_n 2, 1) := by decide +kernel
theorem od177 : decode jdk_52_method_16_code 1 = .ok (.newarray .byte, 2) := by decide +kernel
theorem od178 : decode jdk_52_method_16_code 3 = .ok (.astore_n 3, 1) := by decide +kernel
theorem od179 : decode jdk_52_method_16_code 4 = .ok (.aload_n 0, 1) := by decide +kernel
theorem od180 : decode jdk_52_method_16_code 5 = .ok (.iload_n 1, 1) := by decide +kernel
theorem od181 : decode jdk_52_method_16_code 6 = .ok (.aload_n 3, 1) := by decide +kernel
theorem od182 : decode jdk_52_method_16_code 7 = .ok (.iconst 0, 1) := by decide +kernel
theorem od183 : decode jdk_52_method_16_code 8 = .ok (.iload_n 2, 1) := by decide +kernel
theorem od184 : decode jdk_52_method_16_code 9 = .ok (.invokestatic 115, 3) := by decide +kernel
theorem own_pd10 : parseMethodDescriptor "([CI[BII)I" = some ⟨[(.array .char), .int, (.array .byte), .int, .int], some .int⟩ := by decide +kernel
theorem od185 : decode jdk_52_method_16_code 12 = .ok (.istore 4, 2) := by decide +kernel
theorem od186 : decode jdk_52_method_16_code 14 = .ok (.iload 4, 2) := by decide +kernel
theorem od187 : decode jdk_52_method_16_code 16 = .ok (.iload_n 2, 1) := by decide +kernel
theorem od188 : decode jdk_52_method_16_code 17 = .ok (.if_icmp .eq 40, 3) := by decide +kernel
theorem od189 : decode jdk_52_method_16_code 20 = .ok (.aload_n 0, 1) := by decide +kernel
theorem od190 : decode jdk_52_method_16_code 21 = .ok (.iload_n 1, 1) := by decide +kernel
theorem od191 : decode jdk_52_method_16_code 22 = .ok (.iload_n 2, 1) := by decide +kernel
theorem od192 : decode jdk_52_method_16_code 23 = .ok (.invokestatic 119, 3) := by decide +kernel
theorem own_pd11 : parseMethodDescriptor "([CII)[B" = some ⟨[(.array .char), .int, .int], some (.array .byte)⟩ := by decide +kernel
theorem od193 : decode jdk_52_method_16_code 26 = .ok (.astore 5, 2) := by decide +kernel
theorem od194 : decode jdk_52_method_16_code 28 = .ok (.aload 5, 2) := by decide +kernel
theorem od195 : decode jdk_52_method_16_code 30 = .ok (.iload 4, 2) := by decide +kernel
theorem od196 : decode jdk_52_method_16_code 32 = .ok (.invokestatic 71, 3) := by decide +kernel
theorem od197 : decode jdk_52_method_16_code 35 = .ok (.sipush 255, 3) := by decide +kernel
theorem od198 : decode jdk_52_method_16_code 38 = .ok (.if_icmp .gt 16, 3) := by decide +kernel
theorem od199 : decode jdk_52_method_16_code 54 = .ok (.aload 5, 2) := by decide +kernel
theorem od200 : decode jdk_52_method_16_code 56 = .ok (.areturn, 1) := by decide +kernel
theorem own_ef_cmpA1_0 (m : MethodId) (a0 : Addr) : entryFrame m #[(.ref a0), (.int 0), (.int 1)] 6 = mkF m 0 #[vr a0, vi 0, vi 1, .unset, .unset, .unset] [] := by first | (simp [entryFrame, mkF, argsToLocals, Value.category]; done) | rfl
def Q_cmpA1_0 (Z : State) (a0 : Addr) (kc1 : ClassId) (c0 : Int32) (h0 : Heap) (n0 : Nat) (v : Option Value) (h : Heap) (L : List Loc) : Prop := ∃ (r : Addr) (k : ClassId), v = some (.ref r) ∧ Fr n0 L ∧ Ext h0 h ∧ h0.size ≤ r ∧ Arv Z h r k .byte (2 : Int32) [(.int (nar .byte ((c0 >>> ((0 : Int32) &&& 31)).toInt8.toInt32))), (.int (nar .byte ((c0 >>> ((8 : Int32) &&& 31)).toInt8.toInt32)))] (.int 0)
theorem rm_cmpA1_0 (l : Launch) (Z : State) (a0' : Array Value) (hw : ∀ d ∈ tables_1, d.before a0' Z = true) (ws : List Jvm.Cond) (a0 : Addr) (kc1 : ClassId) (c0 : Int32) (h0 : Heap) (n0 : Nat) (Z0 : n0 ≤ h0.size) (VA : Arv Z h0 a0 kc1 .char (1 : Int32) [(.int c0)] (.int 0)) (hc_c0 : (255 : Int32) < c0) (hb_c0 : 0 ≤ c0.toInt ∧ c0.toInt ≤ 65535) (S_ad : Sta Z h0 "java/lang/StringUTF16" "$assertionsDisabled" "Z" (.int 1)) (S_hi : Sta Z h0 "java/lang/StringUTF16" "HI_BYTE_SHIFT" "I" (.int 0)) (S_lo : Sta Z h0 "java/lang/StringUTF16" "LO_BYTE_SHIFT" "I" (.int 8)) :
    MF l nm17 jdk_52_method_16_code 6 (some (.array .byte)) ws (⟨3, 2, 3, 40⟩ : Room) #[(.ref a0), (.int 0), (.int 1)] Z h0 (Q_cmpA1_0 Z a0 kc1 c0 h0 n0) := by
  refine MetFree.of_bodySF (plainFor_of_name own_pn3) hisR ?_
  intro p e s m args below meth c s₁ Bd hml0 hP hK
  obtain ⟨rfl, hZ, hh⟩ := hP
  have hx := Bd.exec
  have hby := Bd.bytes
  have hml : c.maxLocals = 6 := hml0
  have hown : s.vm.findClass "java/lang/StringUTF16" = some m.cls := findClass_of_methodNamed Bd.named
  have hnm := (name_of_methodNamed Bd.named Bd.method).1
  have X0 : Stand p l e (⟨3, 2, 3, 40⟩ : Room) s m #[(.ref a0), (.int 0), (.int 1)] below meth c s₁ [] 0 0 := Stand.of_body Bd
  have e0 : s₁.heap = h0 := by rw [← hh, Bd.state]; rfl
  have N0 := Fr.nil n0
  have pre0 : PT p e below (s₁.setTop (mkF m 0 #[vr a0, vi 0, vi 1, .unset, .unset, .unset] [])) (s₁.setTop (entryFrame m #[(.ref a0), (.int 0), (.int 1)] 6)) := fun t k => castTop (own_ef_cmpA1_0 m a0) k
  obtain ⟨T46, h46, k46, X46, e46, E46, A46, st46⟩ := newP X0 hx hZ (ow hw 17 rfl) e0 (g := (mkF m 1 #[vr a0, vi 0, vi 1, .unset, .unset, .unset] [(.int 1)])) rfl (hb hby od177) rfl (by decide) (cap := 1) (by decide) (by decide) (by decide) (by decide)
  obtain ⟨b46, g46⟩ : ∃ z, z = h0.size := ⟨_, rfl⟩
  rw [← g46] at A46 st46
  have ne46_a0_b46 : a0 ≠ b46 := Nat.ne_of_lt (Nat.lt_of_lt_of_le VA.lt (Nat.le_of_eq g46.symm))
  have V_b46 : Arv Z h46 b46 k46 .byte (1 : Int32) [(.int 0)] (.int 0) := (Arv.new A46 (by decide)).pad (pad_rep [] (.int 0) 1)
  have g_b46 : n0 ≤ b46 := Nat.le_trans Z0 (Nat.le_of_eq g46.symm)
  have sz_b46 : h0.size ≤ b46 := Nat.le_trans (Nat.le_refl _) (Nat.le_of_eq g46.symm)
  have EX46 : Ext h0 h46 := E46
  have SZ46 : h0.size ≤ h46.size := EX46.1
  have Z46 : n0 ≤ h46.size := Nat.le_trans Z0 SZ46
  have fx48 := (VA.ext E46)
  obtain ⟨_, _, ⟨T47, L47, k47, n47⟩, -, X47, ⟨Lc47, hQ47, l47, y47, z47⟩, st47⟩ := Jvm.LawKit.callS X46 hx (y := nm16) hown (mvT hZ (ow hw 43 rfl)) (mvT hZ (ow hw 44 rfl)) (mvT hZ (ow hw 41 rfl)) (mvT hZ (ow hw 45 rfl)) (by decide) (backOf (W := 0) (rm_cmpI1_0 l Z a0' hw [] a0 b46 kc1 c0 k46 h46 n0 Z46 fx48 V_b46 ne46_a0_b46 g_b46 hc_c0) hZ (ow hw 45 rfl) (ow hw 41 rfl) (by decide) (by decide)) (g := (mkF m 9 #[vr a0, vi 0, vi 1, vr b46, .unset, .unset] [(.int 1), (.int 0), (.ref b46), (.int 0), (.ref a0)])) rfl (by rw [hml]; rfl) (argsL := [(.ref a0), (.int 0), (.ref b46), (.int 0), (.int 1)]) (rest := []) (lenOf own_pd10 rfl) rfl (by show 2 * 0 + _ ≤ _; exact Nat.le_of_eq rfl) (hb hby od184) (fun _ _ => ⟨rfl, e46, (by decide : 1 + 0 ≤ _), (by decide : 1 + 0 ≤ _)⟩)
  dsimp only [Pt.U, Pt.locs, Pt.cells, Pt.slots] at X47 l47 y47 z47 st47 hQ47
  subst l47 y47 z47
  obtain ⟨rfl, N47q, K47⟩ := hQ47
  have N47 := Fr.app N0 N47q
  have EX47 : Ext h0 T47.heap := own_extkeep EX46 K47 sz_b46
  have SZ47 : h0.size ≤ T47.heap.size := EX47.1
  have Z47 : n0 ≤ T47.heap.size := Nat.le_trans Z0 SZ47
  have fx50 := (fx48.keep K47 (ninS ne46_a0_b46 nin0))
  obtain ⟨_, _, ⟨T49, L49, k49, n49⟩, -, X49, ⟨Lc49, hQ49, l49, y49, z49⟩, st49⟩ := Jvm.LawKit.callS X47 hx (y := nm15) hown (mvT hZ (ow hw 88 rfl)) (mvT hZ (ow hw 89 rfl)) (mvT hZ (ow hw 41 rfl)) (mvT hZ (ow hw 90 rfl)) (by decide) (backOf (W := 0) (rm_tob1 l Z a0' hw [] a0 kc1 c0 T47.heap n0 Z47 fx50 (S_ad.ext EX47) (S_hi.ext EX47) (S_lo.ext EX47)) hZ (ow hw 90 rfl) (ow hw 41 rfl) (by decide) (by decide)) (g := (mkF m 23 #[vr a0, vi 0, vi 1, vr b46, vi 0, .unset] [(.int 1), (.int 0), (.ref a0)])) rfl (by rw [hml]; rfl) (argsL := [(.ref a0), (.int 0), (.int 1)]) (rest := []) (lenOf own_pd11 rfl) rfl (by show 2 * 0 + _ ≤ _; exact Nat.le_of_eq rfl) (hb hby od192) (fun _ _ => ⟨rfl, rfl, (by decide : 1 + 1 ≤ _), (by decide : 1 + 2 ≤ _)⟩)
  dsimp only [Pt.U, Pt.locs, Pt.cells, Pt.slots] at X49 l49 y49 z49 st49 hQ49
  subst l49 y49 z49
  obtain ⟨r49, kk49, rfl, N49q, E49, zz49, V49⟩ := hQ49
  have N49 := Fr.app N47 N49q
  have ne49_a0_r49 : a0 ≠ r49 := Nat.ne_of_lt (Nat.lt_of_lt_of_le fx50.lt zz49)
  have g_r49 : n0 ≤ r49 := Nat.le_trans Z47 zz49
  have sz_r49 : h0.size ≤ r49 := Nat.le_trans SZ47 zz49
  have EX49 : Ext h0 T49.heap := own_exttr EX47 E49
  have SZ49 : h0.size ≤ T49.heap.size := EX49.1
  have Z49 : n0 ≤ T49.heap.size := Nat.le_trans Z0 SZ49
  have Vc52 := V49
  obtain ⟨cl52, Ar52, q52, S52, N_52, H52, G52⟩ := Vc52
  obtain ⟨_, _, ⟨T51, L51, k51, n51⟩, -, X51, ⟨Lc51, hQ51, l51, y51, z51⟩, st51⟩ := Jvm.LawKit.callS X49 hx (y := nm5) hown (mvT hZ (ow hw 104 rfl)) (mvT hZ (ow hw 105 rfl)) (mvT hZ (ow hw 41 rfl)) (mvT hZ (ow hw 106 rfl)) (by decide) (backOf (W := 0) (rm_getC l Z a0' hw [] r49 (0 : Int32) cl52 (nar .byte ((c0 >>> ((0 : Int32) &&& 31)).toInt8.toInt32)) (nar .byte ((c0 >>> ((8 : Int32) &&& 31)).toInt8.toInt32)) T49.heap n0 Z49 Ar52 (inb_of S52 ⟨by decide, by decide⟩) (H52 0 (by rw [S52]; decide)) (inb_of S52 ⟨by decide, by decide⟩) (H52 1 (by rw [S52]; decide)) (S_ad.ext EX49) (S_hi.ext EX49) (S_lo.ext EX49)) hZ (ow hw 106 rfl) (ow hw 41 rfl) (by decide) (by decide)) (g := (mkF m 32 #[vr a0, vi 0, vi 1, vr b46, vi 0, vr r49] [(.int 0), (.ref r49)])) rfl (by rw [hml]; rfl) (argsL := [(.ref r49), (.int 0)]) (rest := []) (lenOf own_pd4 rfl) rfl (by show 2 * 0 + _ ≤ _; exact Nat.le_of_eq rfl) (hb hby od196) (fun _ _ => ⟨rfl, rfl, (by decide : 2 + 0 ≤ _), (by decide : 3 + 0 ≤ _)⟩)
  dsimp only [Pt.U, Pt.locs, Pt.cells, Pt.slots] at X51 l51 y51 z51 st51 hQ51
  subst l51 y51 z51
  obtain ⟨rfl, N51q, e51⟩ := hQ51
  have N51 := Fr.app N49 N51q
  have q51 : (F_getC (nar .byte ((c0 >>> ((0 : Int32) &&& 31)).toInt8.toInt32)) (nar .byte ((c0 >>> ((8 : Int32) &&& 31)).toInt8.toInt32))) = c0 := by unfold F_getC; exact own_getc c0 hb_c0
  rw [q51] at st51
  obtain ⟨fs, hr, hrun, hended, hW, hsame⟩ := X51.leave (v := some (.ref r49)) (fun h => by rw [Bd.returns] at h; cases h)
  refine ⟨_, _, pre0 _ ?_, hrun, hended, _, _, rfl, ?_, ⟨_, rfl⟩, hW, hsame.mono (by decide) (by decide)⟩
  · show Steps p.tables e below (s₁.setTop (mkF m 0 #[vr a0, vi 0, vi 1, .unset, .unset, .unset] [])) _
    refine XS.iloadN X0.here hx rfl (hb hby od176) rfl ?_
    refine st46 _ ?_
    refine XS.astoreN X46.here hx rfl (hb hby od178) rfl rfl (l' := #[vr a0, vi 0, vi 1, vr b46, .unset, .unset]) rfl ?_
    refine XS.aloadN X46.here hx rfl (hb hby od179) rfl rfl ?_
    refine XS.iloadN X46.here hx rfl (hb hby od180) rfl ?_
    refine XS.aloadN X46.here hx rfl (hb hby od181) rfl rfl ?_
    refine XS.iconst X46.here hx rfl (hb hby od182) ?_
    refine XS.iloadN X46.here hx rfl (hb hby od183) rfl ?_
    refine st47 _ ?_
    refine XS.istore X47.here hx rfl (hb hby od185) rfl (l' := #[vr a0, vi 0, vi 1, vr b46, vi 0, .unset]) rfl ?_
    refine XS.iload X47.here hx rfl (hb hby od186) rfl ?_
    refine XS.iloadN X47.here hx rfl (hb hby od187) rfl ?_
    refine XS.icmpNo X47.here hx rfl (hb hby od188) rfl (feq (by decide : ¬ ((0 : Int32) = (1 : Int32)))).1 ?_
    refine XS.aloadN X47.here hx rfl (hb hby od189) rfl rfl ?_
    refine XS.iloadN X47.here hx rfl (hb hby od190) rfl ?_
    refine XS.iloadN X47.here hx rfl (hb hby od191) rfl ?_
    refine st49 _ ?_
    refine XS.astore X49.here hx rfl (hb hby od193) rfl rfl (l' := #[vr a0, vi 0, vi 1, vr b46, vi 0, vr r49]) rfl ?_
    refine XS.aload X49.here hx rfl (hb hby od194) rfl rfl ?_
    refine XS.iload X49.here hx rfl (hb hby od195) rfl ?_
    refine st51 _ ?_
    refine XS.sipush X51.here hx rfl (hb hby od197) ?_
    refine XS.icmpYes X51.here hx rfl (pc0 := 38) (pc' := 54) rfl (hb hby od198) rfl (tlt hc_c0).2.2.1 (by decide) (by decide) ?_
    refine XS.aload X51.here hx rfl (hb hby od199) rfl rfl ?_
    exact own_retA X51 hx Bd.returns rfl rfl rfl (hb hby od200) hr
  · show Q_cmpA1_0 Z a0 kc1 c0 h0 n0 _ T51.heap _
    rw [e51]
    exact ⟨_, _, rfl, N51, EX49, sz_r49, V49⟩
theorem rm_cmpU1 (l : Launch) (Z : State) (a0' : Array Value) (hw : ∀ d ∈ tables_1, d.before a0' Z = true) (ws : List Jvm.Cond) (a0 : Addr) (kc1 : ClassId) (c0 : Int32) (h0 : Heap) (n0 : Nat) (Z0 : n0 ≤ h0.size) (VA : Arv Z h0 a0 kc1 .char (1 : Int32) [(.int c0)] (.int 0)) (hup : ¬ (¬ ((255 : Int32) < c0))) (hb_c0 : 0 ≤ c0.toInt ∧ c0.toInt ≤ 65535) (S_ad : Sta Z h0 "java/lang/StringUTF16" "$assertionsDisabled" "Z" (.int 1)) (S_hi : Sta Z h0 "java/lang/StringUTF16" "HI_BYTE_SHIFT" "I" (.int 0)) (S_lo : Sta Z h0 "java/lang/StringUTF16" "LO_BYTE_SHIFT" "I" (.int 8)) :
    MF l nm17 jdk_52_method_16_code 6 (some (.array .byte)) ws (⟨3, 2, 3, 40⟩ : Room) #[(.ref a0), (.int 0), (.int 1)] Z h0 (Q_cmpA1_0 Z a0 kc1 c0  h0 n0) := by
  by_cases q0 : (255 : Int32) < c0
  · exact rm_cmpA1_0 l Z a0' hw ws a0 kc1 c0  h0 n0 Z0 VA q0 hb_c0 S_ad S_hi S_lo
  exact absurd q0 hup
theorem od201 : decode jdk_52_method_15_code 0 = .ok (.iload_n 1, 1) := by decide +kernel
theorem od202 : decode jdk_52_method_15_code 1 = .ok (.aload_n 0, 1) := by decide +kernel
theorem od203 : decode jdk_52_method_15_code 2 = .ok (.arraylength, 1) := by decide +kernel
theorem od204 : decode jdk_52_method_15_code 3 = .ok (.isub, 1) := by decide +kernel
theorem od205 : decode jdk_52_method_15_code 4 = .ok (.bipush 31, 2) := by decide +kernel
theorem od206 : decode jdk_52_method_15_code 6 = .ok (.iushr, 1) := by decide +kernel
theorem od207 : decode jdk_52_method_15_code 7 = .ok (.i2b, 1) := by decide +kernel
theorem od208 : decode jdk_52_method_15_code 8 = .ok (.ireturn, 1) := by decide +kernel
def F_cfu1  : Int32 := (nar .byte (((((1 : Int32) - (2 : Int32)).toUInt32 >>> ((31 : Int32) &&& 31).toUInt32).toInt32).toInt8.toInt32))
theorem own_ef_cfu1 (m : MethodId) (a0 : Addr) : entryFrame m #[(.ref a0), (.int 1)] 2 = mkF m 0 #[vr a0, vi 1] [] := by first | (simp [entryFrame, mkF, argsToLocals, Value.category]; done) | rfl
def Q_cfu1 (Z : State) (a0 : Addr) (kb1 : ClassId) (vs1 : List Value) (dv1 : Value) (h0 : Heap) (n0 : Nat) (v : Option Value) (h : Heap) (L : List Loc) : Prop := v = some (.int F_cfu1) ∧ Fr n0 L ∧ h = h0
theorem rm_cfu1 (l : Launch) (Z : State) (a0' : Array Value) (hw : ∀ d ∈ tables_1, d.before a0' Z = true) (ws : List Jvm.Cond) (a0 : Addr) (kb1 : ClassId) (vs1 : List Value) (dv1 : Value) (h0 : Heap) (n0 : Nat) (Z0 : n0 ≤ h0.size) (VB : Arv Z h0 a0 kb1 .byte (2 : Int32) vs1 dv1) :
    MF l nm18 jdk_52_method_15_code 2 (some .byte) ws (⟨0, 0, 0, 0⟩ : Room) #[(.ref a0), (.int 1)] Z h0 (Q_cfu1 Z a0 kb1 vs1 dv1 h0 n0) := by
  refine MetFree.of_bodySF (plainFor_of_name own_pn3) hisR ?_
  intro p e s m args below meth c s₁ Bd hml0 hP hK
  obtain ⟨rfl, hZ, hh⟩ := hP
  have hx := Bd.exec
  have hby := Bd.bytes
  have hml : c.maxLocals = 2 := hml0
  have hown : s.vm.findClass "java/lang/StringUTF16" = some m.cls := findClass_of_methodNamed Bd.named
  have hnm := (name_of_methodNamed Bd.named Bd.method).1
  have X0 : Stand p l e (⟨0, 0, 0, 0⟩ : Room) s m #[(.ref a0), (.int 1)] below meth c s₁ [] 0 0 := Stand.of_body Bd
  have e0 : s₁.heap = h0 := by rw [← hh, Bd.state]; rfl
  have N0 := Fr.nil n0
  have pre0 : PT p e below (s₁.setTop (mkF m 0 #[vr a0, vi 1] [])) (s₁.setTop (entryFrame m #[(.ref a0), (.int 1)] 2)) := fun t k => castTop (own_ef_cfu1 m a0) k
  have Vc53 := VB
  obtain ⟨cl53, Ar53, q53, S53, N_53, H53, G53⟩ := Vc53
  obtain ⟨fs, hr, hrun, hended, hW, hsame⟩ := X0.leave (v := some (.int (nar .byte (((((1 : Int32) - (2 : Int32)).toUInt32 >>> ((31 : Int32) &&& 31).toUInt32).toInt32).toInt8.toInt32)))) (fun h => by rw [Bd.returns] at h; cases h)
  refine ⟨_, _, pre0 _ ?_, hrun, hended, _, _, rfl, ?_, ⟨_, rfl⟩, hW, hsame.mono (by decide) (by decide)⟩
  · show Steps p.tables e below (s₁.setTop (mkF m 0 #[vr a0, vi 1] [])) _
    refine XS.iloadN X0.here hx rfl (hb hby od201) rfl ?_
    refine XS.aloadN X0.here hx rfl (hb hby od202) rfl rfl ?_
    refine X0.arraylength hx (by rw [e0]; exact Ar53.1) (State.isArrayOf_alike hZ.alike Ar53.2.1) (g := (mkF m 2 #[vr a0, vi 1] [(.ref a0), (.int 1)])) rfl rfl (hb hby od203) _ ?_
    rw [len_of S53 N_53]
    refine XS.isub X0.here hx rfl (hb hby od204) rfl ?_
    refine XS.bipush X0.here hx rfl (hb hby od205) ?_
    refine XS.iushr X0.here hx rfl (hb hby od206) rfl ?_
    refine XS.i2b X0.here hx rfl (hb hby od207) rfl ?_
    exact retN X0 hx (t := .byte) Bd.returns (by simp) (hb hby od208) hr
  · show Q_cfu1 Z a0 kb1 vs1 dv1 h0 n0 _ s₁.heap _
    refine ⟨?_, N0, e0⟩
    rw [F_cfu1]
theorem od209 : decode jdk_42_method_149_code 0 = .ok (.aload_n 0, 1) := by decide +kernel
theorem od210 : decode jdk_42_method_149_code 1 = .ok (.invokespecial 1, 3) := by decide +kernel
theorem od211 : decode jdk_42_method_149_code 4 = .ok (.iload_n 3, 1) := by decide +kernel
theorem od212 : decode jdk_42_method_149_code 5 = .ok (.ifCond .ne 22, 3) := by decide +kernel
theorem od213 : decode jdk_42_method_149_code 27 = .ok (.getstatic 38, 3) := by decide +kernel
theorem od214 : decode jdk_42_method_149_code 30 = .ok (.ifCond .eq 28, 3) := by decide +kernel
theorem od215 : decode jdk_42_method_149_code 33 = .ok (.aload_n 1, 1) := by decide +kernel
theorem od216 : decode jdk_42_method_149_code 34 = .ok (.iload_n 2, 1) := by decide +kernel
theorem od217 : decode jdk_42_method_149_code 35 = .ok (.iload_n 3, 1) := by decide +kernel
theorem od218 : decode jdk_42_method_149_code 36 = .ok (.invokestatic 177, 3) := by decide +kernel
theorem od219 : decode jdk_42_method_149_code 39 = .ok (.astore 5, 2) := by decide +kernel
theorem od220 : decode jdk_42_method_149_code 41 = .ok (.aload_n 0, 1) := by decide +kernel
theorem od221 : decode jdk_42_method_149_code 42 = .ok (.aload 5, 2) := by decide +kernel
theorem od222 : decode jdk_42_method_149_code 44 = .ok (.iload_n 3, 1) := by decide +kernel
theorem od223 : decode jdk_42_method_149_code 45 = .ok (.invokestatic 47, 3) := by decide +kernel
theorem own_pd12 : parseMethodDescriptor "([BI)B" = some ⟨[(.array .byte), .int], some .byte⟩ := by decide +kernel
theorem od224 : decode jdk_42_method_149_code 48 = .ok (.putfield 15, 3) := by decide +kernel
theorem od225 : decode jdk_42_method_149_code 51 = .ok (.aload_n 0, 1) := by decide +kernel
theorem od226 : decode jdk_42_method_149_code 52 = .ok (.aload 5, 2) := by decide +kernel
theorem od227 : decode jdk_42_method_149_code 54 = .ok (.putfield 9, 3) := by decide +kernel
theorem od228 : decode jdk_42_method_149_code 57 = .ok (.return_, 1) := by decide +kernel
theorem own_ef_in4U1 (m : MethodId) (a0 : Addr) (a1 : Addr) : entryFrame m #[(.ref a0), (.ref a1), (.int 0), (.int 1), .null] 6 = mkF m 0 #[vr a0, vr a1, vi 0, vi 1, .val .null, .unset] [] := by first | (simp [entryFrame, mkF, argsToLocals, Value.category]; done) | rfl
def Q_in4U1 (Z : State) (a0 : Addr) (a1 : Addr) (kc1 : ClassId) (c0 : Int32) (kc : Int32) (h0 : Heap) (n0 : Nat) (v : Option Value) (h : Heap) (L : List Loc) : Prop := v = none ∧ Fr n0 L ∧ Keep h0 h [a0] ∧ Exa Z h a0 "java/lang/String" ∧ Fld Z h a0 "java/lang/String" "coder" "B" (.int 1) ∧ ∃ (b : Addr) (k : ClassId), Fld Z h a0 "java/lang/String" "value" "[B" (.ref b) ∧ Arv Z h b k .byte (2 : Int32) [(.int (nar .byte ((c0 >>> ((0 : Int32) &&& 31)).toInt8.toInt32))), (.int (nar .byte ((c0 >>> ((8 : Int32) &&& 31)).toInt8.toInt32)))] (.int 0)
theorem rm_in4U1 (l : Launch) (Z : State) (a0' : Array Value) (hw : ∀ d ∈ tables_1, d.before a0' Z = true) (ws : List Jvm.Cond) (a0 : Addr) (a1 : Addr) (kc1 : ClassId) (c0 : Int32) (kc : Int32) (h0 : Heap) (n0 : Nat) (Z0 : n0 ≤ h0.size) (E_t : Exa Z h0 a0 "java/lang/String") (F0v : Fld Z h0 a0 "java/lang/String" "value" "[B" .null) (F0c : Fld Z h0 a0 "java/lang/String" "coder" "B" (.int 0)) (g_t : n0 ≤ a0) (VA : Arv Z h0 a1 kc1 .char (1 : Int32) [(.int c0)] (.int 0)) (na1 : a0 ≠ a1) (hup : ¬ (¬ ((255 : Int32) < c0))) (hb_c0 : 0 ≤ c0.toInt ∧ c0.toInt ≤ 65535) (S_cs : Sta Z h0 "java/lang/String" "COMPACT_STRINGS" "Z" (.int kc)) (hkc : ¬ (kc = (0 : Int32))) (S_ad : Sta Z h0 "java/lang/StringUTF16" "$assertionsDisabled" "Z" (.int 1)) (S_hi : Sta Z h0 "java/lang/StringUTF16" "HI_BYTE_SHIFT" "I" (.int 0)) (S_lo : Sta Z h0 "java/lang/StringUTF16" "LO_BYTE_SHIFT" "I" (.int 8)) :
    MF l nm19 jdk_42_method_149_code 6 none ws (⟨4, 2, 3, 57⟩ : Room) #[(.ref a0), (.ref a1), (.int 0), (.int 1), .null] Z h0 (Q_in4U1 Z a0 a1 kc1 c0 kc h0 n0) := by
  refine MetFree.of_bodySF (plainFor_of_name own_pn1) hisR ?_
  intro p e s m args below meth c s₁ Bd hml0 hP hK
  obtain ⟨rfl, hZ, hh⟩ := hP
  have hx := Bd.exec
  have hby := Bd.bytes
  have hml : c.maxLocals = 6 := hml0
  have hown : s.vm.findClass "java/lang/String" = some m.cls := findClass_of_methodNamed Bd.named
  have hnm := (name_of_methodNamed Bd.named Bd.method).1
  have X0 : Stand p l e (⟨4, 2, 3, 57⟩ : Room) s m #[(.ref a0), (.ref a1), (.int 0), (.int 1), .null] below meth c s₁ [] 0 0 := Stand.of_body Bd
  have e0 : s₁.heap = h0 := by rw [← hh, Bd.state]; rfl
  have N0 := Fr.nil n0
  have pre0 : PT p e below (s₁.setTop (mkF m 0 #[vr a0, vr a1, vi 0, vi 1, .val .null, .unset] [])) (s₁.setTop (entryFrame m #[(.ref a0), (.ref a1), (.int 0), (.int 1), .null] 6)) := fun t k => castTop (own_ef_in4U1 m a0 a1) k
  obtain ⟨T54, X54, e54, st54⟩ := initO X0 hx hZ hown (ow hw 13 rfl) (ow hw 14 rfl) (ow hw 15 rfl) e0 (g := (mkF m 1 #[vr a0, vr a1, vi 0, vi 1, .val .null, .unset] [(.ref a0)])) rfl (by rw [hml]; rfl) rfl (hb hby od210) (by decide) (W := 0) (by show 2 * 0 + _ ≤ _; exact Nat.le_of_eq rfl) (by decide)
  obtain ⟨T55, X55, e55, st55⟩ := getS2 X54 hx hZ hown (host := "") (Or.inl (ow hw 38 rfl)) Via.refl e54 S_cs (g := (mkF m 27 #[vr a0, vr a1, vi 0, vi 1, .val .null, .unset] [])) rfl (hb hby od213)
  obtain ⟨_, _, ⟨T56, L56, k56, n56⟩, -, X56, ⟨Lc56, hQ56, l56, y56, z56⟩, st56⟩ := Jvm.LawKit.callS X55 hx (y := nm17) hown (mvT hZ (ow hw 39 rfl)) (mvT hZ (ow hw 40 rfl)) (mvT hZ (ow hw 41 rfl)) (mvT hZ (ow hw 42 rfl)) (by decide) (backOf (W := 0) (rm_cmpU1 l Z a0' hw [] a1 kc1 c0 h0 n0 Z0 VA hup hb_c0 S_ad S_hi S_lo) hZ (ow hw 42 rfl) (ow hw 41 rfl) (by decide) (by decide)) (g := (mkF m 36 #[vr a0, vr a1, vi 0, vi 1, .val .null, .unset] [(.int 1), (.int 0), (.ref a1)])) rfl (by rw [hml]; rfl) (argsL := [(.ref a1), (.int 0), (.int 1)]) (rest := []) (lenOf own_pd11 rfl) rfl (by show 2 * 0 + _ ≤ _; exact Nat.le_of_eq rfl) (hb hby od218) (fun _ _ => ⟨rfl, e55, (by decide : 0 + 2 ≤ _), (by decide : 0 + 3 ≤ _)⟩)
  dsimp only [Pt.U, Pt.locs, Pt.cells, Pt.slots] at X56 l56 y56 z56 st56 hQ56
  subst l56 y56 z56
  obtain ⟨r56, kk56, rfl, N56q, E56, zz56, V56⟩ := hQ56
  have N56 := Fr.app N0 N56q
  have ne56_a0_r56 : a0 ≠ r56 := Nat.ne_of_lt (Nat.lt_of_lt_of_le E_t.lt zz56)
  have ne56_a1_r56 : a1 ≠ r56 := Nat.ne_of_lt (Nat.lt_of_lt_of_le VA.lt zz56)
  have g_r56 : n0 ≤ r56 := Nat.le_trans Z0 zz56
  have sz_r56 : h0.size ≤ r56 := Nat.le_trans (Nat.le_refl _) zz56
  have KP56 : Keep h0 T56.heap [a0] := (Keep.refl h0 [a0]).ext E56
  have SZ56 : h0.size ≤ T56.heap.size := KP56.1
  have Z56 : n0 ≤ T56.heap.size := Nat.le_trans Z0 SZ56
  obtain ⟨_, _, ⟨T57, L57, k57, n57⟩, -, X57, ⟨Lc57, hQ57, l57, y57, z57⟩, st57⟩ := Jvm.LawKit.callS X56 hx (y := nm18) hown (mvT hZ (ow hw 46 rfl)) (mvT hZ (ow hw 47 rfl)) (mvT hZ (ow hw 41 rfl)) (mvT hZ (ow hw 48 rfl)) (by decide) (backOf (W := 1) (rm_cfu1 l Z a0' hw [] r56 kk56 _ _ T56.heap n0 Z56 V56) hZ (ow hw 48 rfl) (ow hw 41 rfl) (by decide) (by decide)) (g := (mkF m 45 #[vr a0, vr a1, vi 0, vi 1, .val .null, vr r56] [(.int 1), (.ref r56), (.ref a0)])) rfl (by rw [hml]; rfl) (argsL := [(.ref r56), (.int 1)]) (rest := [(.ref a0)]) (lenOf own_pd12 rfl) rfl (by show 2 * 0 + _ ≤ _; exact Nat.le_of_eq rfl) (hb hby od223) (fun _ _ => ⟨rfl, rfl, (by decide : 2 + 0 ≤ _), (by decide : 3 + 0 ≤ _)⟩)
  dsimp only [Pt.U, Pt.locs, Pt.cells, Pt.slots] at X57 l57 y57 z57 st57 hQ57
  subst l57 y57 z57
  obtain ⟨rfl, N57q, e57⟩ := hQ57
  have N57 := Fr.app N56 N57q
  have q57 : F_cfu1 = (1 : Int32) := by decide
  rw [q57] at st57
  have fx59 := (E_t.ext E56)
  have fx60 := (F0c.ext E56)
  have Fo58 := fx60
  obtain ⟨T61, h61, X61, e61, W61, st61⟩ := putFN X57 hx hZ hown (ow hw 23 rfl) Via.refl e57 Fo58 fx59 (Or.inr ⟨(ow hw 19 rfl), rfl, hnm⟩) (ow hw 4 rfl) (ty := .byte) (v' := (.int (nar .byte (1 : Int32)))) (by decide) rfl (fits_nar_byte _) (g := (mkF m 48 #[vr a0, vr a1, vi 0, vi 1, .val .null, vr r56] [(.int 1), (.ref a0)])) rfl rfl (hb hby od224)
  have Fw61 : Fld Z h61 a0 "java/lang/String" "coder" "B" (.int 1) := Fo58.same W61
  have N61 := Fr.snoc X61 N57 g_t
  have KP61 : Keep h0 h61 [a0] := KP56.wr W61 (Or.inl (List.mem_of_getElem? (i := 0) rfl))
  have SZ61 : h0.size ≤ h61.size := KP61.1
  have Z61 : n0 ≤ h61.size := Nat.le_trans Z0 SZ61
  have fx63 := (fx59.wr W61)
  have fx64 := ((F0v.ext E56).other W61 (Or.inr (slot_ne (a0 := a0') (Or.inr (ow hw 18 rfl)) (Or.inr (ow hw 19 rfl)) (by decide) (t := (.array .byte)) (t' := .byte) (by decide) (by decide))))
  have Fo62 := fx64
  obtain ⟨T65, h65, X65, e65, W65, st65⟩ := putF X61 hx hZ hown (host := "") (Or.inl (ow hw 22 rfl)) Via.refl e61 Fo62 fx63 (Or.inr ⟨(ow hw 18 rfl), rfl, hnm⟩) (ow hw 4 rfl) (ty := (.array .byte)) (by decide) rfl rfl (g := (mkF m 54 #[vr a0, vr a1, vi 0, vi 1, .val .null, vr r56] [(.ref r56), (.ref a0)])) rfl rfl (hb hby od227)
  have Fw65 : Fld Z h65 a0 "java/lang/String" "value" "[B" (.ref r56) := Fo62.same W65
  have N65 := Fr.snoc X65 N61 g_t
  have KP65 : Keep h0 h65 [a0] := KP61.wr W65 (Or.inl (List.mem_of_getElem? (i := 0) rfl))
  have SZ65 : h0.size ≤ h65.size := KP65.1
  have Z65 : n0 ≤ h65.size := Nat.le_trans Z0 SZ65
  have fx66 := (fx63.wr W65)
  have fx67 := (Fw61.other W65 (Or.inr (slot_ne (a0 := a0') (Or.inr (ow hw 19 rfl)) (Or.inr (ow hw 18 rfl)) (by decide) (t := .byte) (t' := (.array .byte)) (by decide) (by decide))))
  have fx68 := ((V56.other W61 (Ne.symm ne56_a0_r56)).other W65 (Ne.symm ne56_a0_r56))
  obtain ⟨fs, hr, hrun, hended, hW, hsame⟩ := X65.leave (v := none) (fun _ => rfl)
  refine ⟨_, _, pre0 _ ?_, hrun, hended, _, _, rfl, ?_, ⟨_, rfl⟩, hW, hsame.mono (by decide) (by decide)⟩
  · show Steps p.tables e below (s₁.setTop (mkF m 0 #[vr a0, vr a1, vi 0, vi 1, .val .null, .unset] [])) _
    refine XS.aloadN X0.here hx rfl (hb hby od209) rfl rfl ?_
    refine st54 _ ?_
    refine XS.iloadN X54.here hx rfl (hb hby od211) rfl ?_
    refine XS.ifYes X54.here hx rfl (pc0 := 5) (pc' := 27) rfl (hb hby od212) rfl ((if0 _ _).trans (feq (by decide : ¬ ((1 : Int32) = (0 : Int32)))).2) (by decide) (by decide) ?_
    refine st55 _ ?_
    refine XS.ifNo X55.here hx rfl (hb hby od214) rfl ((if0 _ _).trans (feq hkc).1) ?_
    refine XS.aloadN X55.here hx rfl (hb hby od215) rfl rfl ?_
    refine XS.iloadN X55.here hx rfl (hb hby od216) rfl ?_
    refine XS.iloadN X55.here hx rfl (hb hby od217) rfl ?_
    refine st56 _ ?_
    refine XS.astore X56.here hx rfl (hb hby od219) rfl rfl (l' := #[vr a0, vr a1, vi 0, vi 1, .val .null, vr r56]) rfl ?_
    refine XS.aloadN X56.here hx rfl (hb hby od220) rfl rfl ?_
    refine XS.aload X56.here hx rfl (hb hby od221) rfl rfl ?_
    refine XS.iloadN X56.here hx rfl (hb hby od222) rfl ?_
    refine st57 _ ?_
    refine st61 _ ?_
    refine XS.aloadN X61.here hx rfl (hb hby od225) rfl rfl ?_
    refine XS.aload X61.here hx rfl (hb hby od226) rfl rfl ?_
    refine st65 _ ?_
    exact X65.returnOut hx Bd.returns (hb hby od228) hr
  · show Q_in4U1 Z a0 a1 kc1 c0 kc h0 n0 _ T65.heap _
    rw [e65]
    exact ⟨rfl, N65, KP65, fx66, fx67, _, _, Fw65, fx68⟩
theorem od229 : decode jdk_42_method_3_code 0 = .ok (.aload_n 0, 1) := by decide +kernel
theorem od230 : decode jdk_42_method_3_code 1 = .ok (.aload_n 1, 1) := by decide +kernel
theorem od231 : decode jdk_42_method_3_code 2 = .ok (.iconst 0, 1) := by decide +kernel
theorem od232 : decode jdk_42_method_3_code 3 = .ok (.aload_n 1, 1) := by decide +kernel
theorem od233 : decode jdk_42_method_3_code 4 = .ok (.arraylength, 1) := by decide +kernel
theorem od234 : decode jdk_42_method_3_code 5 = .ok (.aconst_null, 1) := by decide +kernel
theorem od235 : decode jdk_42_method_3_code 6 = .ok (.invokespecial 27, 3) := by decide +kernel
theorem own_pd13 : parseMethodDescriptor "([CIILjava/lang/Void;)V" = some ⟨[(.array .char), .int, .int, (.object "java/lang/Void")], none⟩ := by decide +kernel
theorem od236 : decode jdk_42_method_3_code 9 = .ok (.return_, 1) := by decide +kernel
theorem own_ef_in1U1 (m : MethodId) (a0 : Addr) (a1 : Addr) : entryFrame m #[(.ref a0), (.ref a1)] 2 = mkF m 0 #[vr a0, vr a1] [] := by first | (simp [entryFrame, mkF, argsToLocals, Value.category]; done) | rfl
def Q_in1U1 (Z : State) (a0 : Addr) (a1 : Addr) (kc1 : ClassId) (c0 : Int32) (kc : Int32) (h0 : Heap) (n0 : Nat) (v : Option Value) (h : Heap) (L : List Loc) : Prop := v = none ∧ Fr n0 L ∧ Keep h0 h [a0] ∧ Exa Z h a0 "java/lang/String" ∧ Fld Z h a0 "java/lang/String" "coder" "B" (.int 1) ∧ ∃ (b : Addr) (k : ClassId), Fld Z h a0 "java/lang/String" "value" "[B" (.ref b) ∧ Arv Z h b k .byte (2 : Int32) [(.int (nar .byte ((c0 >>> ((0 : Int32) &&& 31)).toInt8.toInt32))), (.int (nar .byte ((c0 >>> ((8 : Int32) &&& 31)).toInt8.toInt32)))] (.int 0)
theorem rm_in1U1 (l : Launch) (Z : State) (a0' : Array Value) (hw : ∀ d ∈ tables_1, d.before a0' Z = true) (ws : List Jvm.Cond) (a0 : Addr) (a1 : Addr) (kc1 : ClassId) (c0 : Int32) (kc : Int32) (h0 : Heap) (n0 : Nat) (Z0 : n0 ≤ h0.size) (E_t : Exa Z h0 a0 "java/lang/String") (F0v : Fld Z h0 a0 "java/lang/String" "value" "[B" .null) (F0c : Fld Z h0 a0 "java/lang/String" "coder" "B" (.int 0)) (g_t : n0 ≤ a0) (VA : Arv Z h0 a1 kc1 .char (1 : Int32) [(.int c0)] (.int 0)) (na1 : a0 ≠ a1) (hup : ¬ (¬ ((255 : Int32) < c0))) (hb_c0 : 0 ≤ c0.toInt ∧ c0.toInt ≤ 65535) (S_cs : Sta Z h0 "java/lang/String" "COMPACT_STRINGS" "Z" (.int kc)) (hkc : ¬ (kc = (0 : Int32))) (S_ad : Sta Z h0 "java/lang/StringUTF16" "$assertionsDisabled" "Z" (.int 1)) (S_hi : Sta Z h0 "java/lang/StringUTF16" "HI_BYTE_SHIFT" "I" (.int 0)) (S_lo : Sta Z h0 "java/lang/StringUTF16" "LO_BYTE_SHIFT" "I" (.int 8)) :
    MF l nm20 jdk_42_method_3_code 2 none ws (⟨5, 2, 3, 74⟩ : Room) #[(.ref a0), (.ref a1)] Z h0 (Q_in1U1 Z a0 a1 kc1 c0 kc h0 n0) := by
  refine MetFree.of_bodySF (plainFor_of_name own_pn1) hisR ?_
  intro p e s m args below meth c s₁ Bd hml0 hP hK
  obtain ⟨rfl, hZ, hh⟩ := hP
  have hx := Bd.exec
  have hby := Bd.bytes
  have hml : c.maxLocals = 2 := hml0
  have hown : s.vm.findClass "java/lang/String" = some m.cls := findClass_of_methodNamed Bd.named
  have hnm := (name_of_methodNamed Bd.named Bd.method).1
  have X0 : Stand p l e (⟨5, 2, 3, 74⟩ : Room) s m #[(.ref a0), (.ref a1)] below meth c s₁ [] 0 0 := Stand.of_body Bd
  have e0 : s₁.heap = h0 := by rw [← hh, Bd.state]; rfl
  have N0 := Fr.nil n0
  have pre0 : PT p e below (s₁.setTop (mkF m 0 #[vr a0, vr a1] [])) (s₁.setTop (entryFrame m #[(.ref a0), (.ref a1)] 2)) := fun t k => castTop (own_ef_in1U1 m a0 a1) k
  have Vc69 := VA
  obtain ⟨cl69, Ar69, q69, S69, N_69, H69, G69⟩ := Vc69
  obtain ⟨_, _, ⟨T70, L70, k70, n70⟩, -, X70, ⟨Lc70, hQ70, l70, y70, z70⟩, st70⟩ := X0.specialBack hx (y := nm19) rfl hown (mvT hZ (ow hw 9 rfl)) (mvT hZ (ow hw 10 rfl)) (mvT hZ (ow hw 12 rfl)) (by decide) (backOf (W := 0) (rm_in4U1 l Z a0' hw [] a0 a1 kc1 c0 kc h0 n0 Z0 E_t F0v F0c g_t VA na1 hup hb_c0 S_cs hkc S_ad S_hi S_lo) hZ (ow hw 12 rfl) (ow hw 5 rfl) (by decide) (by decide)) (g := (mkF m 6 #[vr a0, vr a1] [.null, (.int 1), (.int 0), (.ref a1), (.ref a0)])) rfl (by rw [hml]; rfl) (Steps.refl _) (a := a0) (argsL := [(.ref a1), (.int 0), (.int 1), .null]) (rest := []) (lenOf own_pd13 rfl) rfl (by show 2 * 0 + _ ≤ _; exact Nat.le_of_eq rfl) (hb hby od235) (fun _ _ => ⟨rfl, e0, (by decide : 0 + 2 ≤ _), (by decide : 0 + 3 ≤ _)⟩)
  dsimp only [Pt.U, Pt.locs, Pt.cells, Pt.slots] at X70 l70 y70 z70 st70 hQ70
  subst l70 y70 z70
  obtain ⟨rfl, N70q, K70, Ei70, Ci70, bi70, ki70, Fi70, Vi70⟩ := hQ70
  have N70 := Fr.app N0 N70q
  have KP70 : Keep h0 T70.heap [a0] := (Keep.refl h0 [a0]).trans K70 (allS (Or.inl (List.mem_of_getElem? (i := 0) rfl)) all0)
  have SZ70 : h0.size ≤ T70.heap.size := KP70.1
  have Z70 : n0 ≤ T70.heap.size := Nat.le_trans Z0 SZ70
  obtain ⟨fs, hr, hrun, hended, hW, hsame⟩ := X70.leave (v := none) (fun _ => rfl)
  refine ⟨_, _, pre0 _ ?_, hrun, hended, _, _, rfl, ?_, ⟨_, rfl⟩, hW, hsame.mono (by decide) (by decide)⟩
  · show Steps p.tables e below (s₁.setTop (mkF m 0 #[vr a0, vr a1] [])) _
    refine XS.aloadN X0.here hx rfl (hb hby od229) rfl rfl ?_
    refine XS.aloadN X0.here hx rfl (hb hby od230) rfl rfl ?_
    refine XS.iconst X0.here hx rfl (hb hby od231) ?_
    refine XS.aloadN X0.here hx rfl (hb hby od232) rfl rfl ?_
    refine X0.arraylength hx (by rw [e0]; exact Ar69.1) (State.isArrayOf_alike hZ.alike Ar69.2.1) (g := (mkF m 4 #[vr a0, vr a1] [(.ref a1), (.int 0), (.ref a1), (.ref a0)])) rfl rfl (hb hby od233) _ ?_
    rw [len_of S69 N_69]
    refine XS.aconstNull X0.here hx rfl (hb hby od234) ?_
    refine st70.trans ?_
    exact X70.returnOut hx Bd.returns (hb hby od236) hr
  · show Q_in1U1 Z a0 a1 kc1 c0 kc h0 n0 _ T70.heap _
    exact ⟨rfl, N70, KP70, Ei70, Ci70, _, _, Fi70, Vi70⟩
theorem od237 : decode jdk_52_method_21_code 26 = .ok (.aload_n 2, 1) := by decide +kernel
theorem od238 : decode jdk_52_method_21_code 27 = .ok (.iload_n 3, 1) := by decide +kernel
theorem od239 : decode jdk_52_method_21_code 28 = .ok (.iload 6, 2) := by decide +kernel
theorem od240 : decode jdk_52_method_21_code 30 = .ok (.i2b, 1) := by decide +kernel
theorem od241 : decode jdk_52_method_21_code 31 = .ok (.bastore, 1) := by decide +kernel
theorem od242 : decode jdk_52_method_21_code 32 = .ok (.iinc 1 1, 3) := by decide +kernel
theorem od243 : decode jdk_52_method_21_code 35 = .ok (.iinc 3 1, 3) := by decide +kernel
theorem od244 : decode jdk_52_method_21_code 38 = .ok (.iinc 5 1, 3) := by decide +kernel
theorem od245 : decode jdk_52_method_21_code 41 = .ok (.goto (-38), 3) := by decide +kernel
theorem od246 : decode jdk_52_method_21_code 44 = .ok (.iload 4, 2) := by decide +kernel
theorem od247 : decode jdk_52_method_21_code 46 = .ok (.ireturn, 1) := by decide +kernel
theorem own_ef_cmpI1 (m : MethodId) (a0 : Addr) (a2 : Addr) : entryFrame m #[(.ref a0), (.int 0), (.ref a2), (.int 0), (.int 1)] 7 = mkF m 0 #[vr a0, vi 0, vr a2, vi 0, vi 1, .unset, .unset] [] := by first | (simp [entryFrame, mkF, argsToLocals, Value.category]; done) | rfl
def Q_cmpI1 (Z : State) (a0 : Addr) (a2 : Addr) (kc1 : ClassId) (c0 : Int32) (kb1 : ClassId) (h0 : Heap) (n0 : Nat) (v : Option Value) (h : Heap) (L : List Loc) : Prop := v = some (.int 1) ∧ Fr n0 L ∧ Keep h0 h [a2] ∧ Arv Z h a2 kb1 .byte (1 : Int32) [(.int (nar .byte (c0.toInt8.toInt32)))] (.int 0)
theorem rm_cmpI1 (l : Launch) (Z : State) (a0' : Array Value) (hw : ∀ d ∈ tables_1, d.before a0' Z = true) (ws : List Jvm.Cond) (a0 : Addr) (a2 : Addr) (kc1 : ClassId) (c0 : Int32) (kb1 : ClassId) (h0 : Heap) (n0 : Nat) (Z0 : n0 ≤ h0.size) (VA : Arv Z h0 a0 kc1 .char (1 : Int32) [(.int c0)] (.int 0)) (VB : Arv Z h0 a2 kb1 .byte (1 : Int32) [(.int 0)] (.int 0)) (nab : a0 ≠ a2) (g2 : n0 ≤ a2) (hc_c0 : ¬ ((255 : Int32) < c0)) :
    MF l nm16 jdk_52_method_21_code 7 (some .int) ws (⟨0, 0, 0, 0⟩ : Room) #[(.ref a0), (.int 0), (.ref a2), (.int 0), (.int 1)] Z h0 (Q_cmpI1 Z a0 a2 kc1 c0 kb1 h0 n0) := by
  refine MetFree.of_bodySF (plainFor_of_name own_pn3) hisR ?_
  intro p e s m args below meth c s₁ Bd hml0 hP hK
  obtain ⟨rfl, hZ, hh⟩ := hP
  have hx := Bd.exec
  have hby := Bd.bytes
  have hml : c.maxLocals = 7 := hml0
  have hown : s.vm.findClass "java/lang/StringUTF16" = some m.cls := findClass_of_methodNamed Bd.named
  have hnm := (name_of_methodNamed Bd.named Bd.method).1
  have X0 : Stand p l e (⟨0, 0, 0, 0⟩ : Room) s m #[(.ref a0), (.int 0), (.ref a2), (.int 0), (.int 1)] below meth c s₁ [] 0 0 := Stand.of_body Bd
  have e0 : s₁.heap = h0 := by rw [← hh, Bd.state]; rfl
  have N0 := Fr.nil n0
  have pre0 : PT p e below (s₁.setTop (mkF m 0 #[vr a0, vi 0, vr a2, vi 0, vi 1, .unset, .unset] [])) (s₁.setTop (entryFrame m #[(.ref a0), (.int 0), (.ref a2), (.int 0), (.int 1)] 7)) := fun t k => castTop (own_ef_cmpI1 m a0 a2) k
  have Vc71 := VA
  obtain ⟨cl71, Ar71, q71, S71, N_71, H71, G71⟩ := Vc71
  have hin71 : ¬ ((0 : Int32) < 0 ∨ cl71.slots.size ≤ ((0 : Int32)).toNatClampNeg) := inb_of S71 ⟨by decide, by decide⟩
  have hat71 : cl71.slots[((0 : Int32)).toNatClampNeg]? = some (.int c0) := H71 0 (by rw [S71]; decide)
  have Vc72 := VB
  obtain ⟨cl72, Ar72, q72, S72, N_72, H72, G72⟩ := Vc72
  have hin72 : ¬ ((0 : Int32) < 0 ∨ cl72.slots.size ≤ ((0 : Int32)).toNatClampNeg) := inb_of S72 ⟨by decide, by decide⟩
  obtain ⟨T73, h73, X73, e73, W73, st73⟩ := stB X0 hx hZ e0 Ar72 (j := (0 : Int32)) hin72 (g := (mkF m 31 #[vr a0, vi 0, vr a2, vi 0, vi 1, vi 0, vi c0] [(.int (c0.toInt8.toInt32)), (.int 0), (.ref a2)])) rfl rfl (hb hby od241)
  have V_a2_73 : Arv Z h73 a2 kb1 .byte (1 : Int32) [(.int (nar .byte (c0.toInt8.toInt32)))] (.int 0) := Arv.set Ar72 q72 S72 N_72 H72 G72 (fits_nar_byte _) W73 0 rfl (Nat.le_of_ble_eq_true rfl)
  have N73 := Fr.snoc X73 N0 g2
  have KP73 : Keep h0 h73 [a2] := (Keep.refl h0 [a2]).wr W73 (Or.inl (List.mem_of_getElem? (i := 0) rfl))
  have SZ73 : h0.size ≤ h73.size := KP73.1
  have Z73 : n0 ≤ h73.size := Nat.le_trans Z0 SZ73
  obtain ⟨fs, hr, hrun, hended, hW, hsame⟩ := X73.leave (v := some (.int 1)) (fun h => by rw [Bd.returns] at h; cases h)
  refine ⟨_, _, pre0 _ ?_, hrun, hended, _, _, rfl, ?_, ⟨_, rfl⟩, hW, hsame.mono (by decide) (by decide)⟩
  · show Steps p.tables e below (s₁.setTop (mkF m 0 #[vr a0, vi 0, vr a2, vi 0, vi 1, .unset, .unset] [])) _
    refine XS.iconst X0.here hx rfl (hb hby od162) ?_
    refine XS.istore X0.here hx rfl (hb hby od163) rfl (l' := #[vr a0, vi 0, vr a2, vi 0, vi 1, vi 0, .unset]) rfl ?_
    refine XS.iload X0.here hx rfl (hb hby od164) rfl ?_
    refine XS.iload X0.here hx rfl (hb hby od165) rfl ?_
    refine XS.icmpNo X0.here hx rfl (hb hby od166) rfl (tlt (by decide : (0 : Int32) < (1 : Int32))).2.1 ?_
    refine XS.aloadN X0.here hx rfl (hb hby od167) rfl rfl ?_
    refine XS.iloadN X0.here hx rfl (hb hby od168) rfl ?_
    refine X0.caload hx (j := (0 : Int32)) (v := (.int c0)) (by rw [e0]; exact Ar71.1) (State.isArrayOf_alike hZ.alike Ar71.2.1) Ar71.2.2 hin71 hat71 (g := (mkF m 12 #[vr a0, vi 0, vr a2, vi 0, vi 1, vi 0, .unset] [(.int 0), (.ref a0)])) rfl rfl (hb hby od169) _ ?_
    refine XS.istore X0.here hx rfl (hb hby od170) rfl (l' := #[vr a0, vi 0, vr a2, vi 0, vi 1, vi 0, vi c0]) rfl ?_
    refine XS.iload X0.here hx rfl (hb hby od171) rfl ?_
    refine XS.sipush X0.here hx rfl (hb hby od172) ?_
    refine XS.icmpYes X0.here hx rfl (pc0 := 20) (pc' := 26) rfl (hb hby od173) rfl (flt hc_c0).2.2.2 (by decide) (by decide) ?_
    refine XS.aloadN X0.here hx rfl (hb hby od237) rfl rfl ?_
    refine XS.iloadN X0.here hx rfl (hb hby od238) rfl ?_
    refine XS.iload X0.here hx rfl (hb hby od239) rfl ?_
    refine XS.i2b X0.here hx rfl (hb hby od240) rfl ?_
    refine st73 _ ?_
    refine XS.iinc X73.here hx rfl (hb hby od242) rfl (l' := #[vr a0, vi ((0 : Int32) + (1 : Int32)), vr a2, vi 0, vi 1, vi 0, vi c0]) rfl ?_
    refine XS.iinc X73.here hx rfl (hb hby od243) rfl (l' := #[vr a0, vi ((0 : Int32) + (1 : Int32)), vr a2, vi ((0 : Int32) + (1 : Int32)), vi 1, vi 0, vi c0]) rfl ?_
    refine XS.iinc X73.here hx rfl (hb hby od244) rfl (l' := #[vr a0, vi ((0 : Int32) + (1 : Int32)), vr a2, vi ((0 : Int32) + (1 : Int32)), vi 1, vi ((0 : Int32) + (1 : Int32)), vi c0]) rfl ?_
    refine XS.goto X73.here hx rfl (pc0 := 41) (pc' := 3) rfl (hb hby od245) (by decide) (by decide) ?_
    refine XS.iload X73.here hx rfl (hb hby od164) rfl ?_
    refine XS.iload X73.here hx rfl (hb hby od165) rfl ?_
    refine XS.icmpYes X73.here hx rfl (pc0 := 7) (pc' := 44) rfl (hb hby od166) rfl (flt (by decide : ¬ (((0 : Int32) + (1 : Int32)) < (1 : Int32)))).2.1 (by decide) (by decide) ?_
    refine XS.iload X73.here hx rfl (hb hby od246) rfl ?_
    exact own_retI X73 hx Bd.returns (hb hby od247) hr
  · show Q_cmpI1 Z a0 a2 kc1 c0 kb1 h0 n0 _ T73.heap _
    rw [e73]
    exact ⟨rfl, N73, KP73, V_a2_73⟩
theorem od248 : decode jdk_52_method_16_code 57 = .ok (.aload_n 3, 1) := by decide +kernel
theorem od249 : decode jdk_52_method_16_code 58 = .ok (.areturn, 1) := by decide +kernel
theorem own_ef_cmpA1 (m : MethodId) (a0 : Addr) : entryFrame m #[(.ref a0), (.int 0), (.int 1)] 6 = mkF m 0 #[vr a0, vi 0, vi 1, .unset, .unset, .unset] [] := by first | (simp [entryFrame, mkF, argsToLocals, Value.category]; done) | rfl
def Q_cmpA1 (Z : State) (a0 : Addr) (kc1 : ClassId) (c0 : Int32) (h0 : Heap) (n0 : Nat) (v : Option Value) (h : Heap) (L : List Loc) : Prop := ∃ (r : Addr) (k : ClassId), v = some (.ref r) ∧ Fr n0 L ∧ Ext h0 h ∧ h0.size ≤ r ∧ Arv Z h r k .byte (1 : Int32) [(.int (nar .byte (c0.toInt8.toInt32)))] (.int 0)
theorem rm_cmpA1 (l : Launch) (Z : State) (a0' : Array Value) (hw : ∀ d ∈ tables_1, d.before a0' Z = true) (ws : List Jvm.Cond) (a0 : Addr) (kc1 : ClassId) (c0 : Int32) (h0 : Heap) (n0 : Nat) (Z0 : n0 ≤ h0.size) (VA : Arv Z h0 a0 kc1 .char (1 : Int32) [(.int c0)] (.int 0)) (hc_c0 : ¬ ((255 : Int32) < c0)) :
    MF l nm17 jdk_52_method_16_code 6 (some (.array .byte)) ws (⟨1, 1, 1, 18⟩ : Room) #[(.ref a0), (.int 0), (.int 1)] Z h0 (Q_cmpA1 Z a0 kc1 c0 h0 n0) := by
  refine MetFree.of_bodySF (plainFor_of_name own_pn3) hisR ?_
  intro p e s m args below meth c s₁ Bd hml0 hP hK
  obtain ⟨rfl, hZ, hh⟩ := hP
  have hx := Bd.exec
  have hby := Bd.bytes
  have hml : c.maxLocals = 6 := hml0
  have hown : s.vm.findClass "java/lang/StringUTF16" = some m.cls := findClass_of_methodNamed Bd.named
  have hnm := (name_of_methodNamed Bd.named Bd.method).1
  have X0 : Stand p l e (⟨1, 1, 1, 18⟩ : Room) s m #[(.ref a0), (.int 0), (.int 1)] below meth c s₁ [] 0 0 := Stand.of_body Bd
  have e0 : s₁.heap = h0 := by rw [← hh, Bd.state]; rfl
  have N0 := Fr.nil n0
  have pre0 : PT p e below (s₁.setTop (mkF m 0 #[vr a0, vi 0, vi 1, .unset, .unset, .unset] [])) (s₁.setTop (entryFrame m #[(.ref a0), (.int 0), (.int 1)] 6)) := fun t k => castTop (own_ef_cmpA1 m a0) k
  obtain ⟨T74, h74, k74, X74, e74, E74, A74, st74⟩ := newP X0 hx hZ (ow hw 17 rfl) e0 (g := (mkF m 1 #[vr a0, vi 0, vi 1, .unset, .unset, .unset] [(.int 1)])) rfl (hb hby od177) rfl (by decide) (cap := 1) (by decide) (by decide) (by decide) (by decide)
  obtain ⟨b74, g74⟩ : ∃ z, z = h0.size := ⟨_, rfl⟩
  rw [← g74] at A74 st74
  have ne74_a0_b74 : a0 ≠ b74 := Nat.ne_of_lt (Nat.lt_of_lt_of_le VA.lt (Nat.le_of_eq g74.symm))
  have V_b74 : Arv Z h74 b74 k74 .byte (1 : Int32) [(.int 0)] (.int 0) := (Arv.new A74 (by decide)).pad (pad_rep [] (.int 0) 1)
  have g_b74 : n0 ≤ b74 := Nat.le_trans Z0 (Nat.le_of_eq g74.symm)
  have sz_b74 : h0.size ≤ b74 := Nat.le_trans (Nat.le_refl _) (Nat.le_of_eq g74.symm)
  have EX74 : Ext h0 h74 := E74
  have SZ74 : h0.size ≤ h74.size := EX74.1
  have Z74 : n0 ≤ h74.size := Nat.le_trans Z0 SZ74
  have fx76 := (VA.ext E74)
  obtain ⟨_, _, ⟨T75, L75, k75, n75⟩, -, X75, ⟨Lc75, hQ75, l75, y75, z75⟩, st75⟩ := Jvm.LawKit.callS X74 hx (y := nm16) hown (mvT hZ (ow hw 43 rfl)) (mvT hZ (ow hw 44 rfl)) (mvT hZ (ow hw 41 rfl)) (mvT hZ (ow hw 45 rfl)) (by decide) (backOf (W := 0) (rm_cmpI1 l Z a0' hw [] a0 b74 kc1 c0 k74 h74 n0 Z74 fx76 V_b74 ne74_a0_b74 g_b74 hc_c0) hZ (ow hw 45 rfl) (ow hw 41 rfl) (by decide) (by decide)) (g := (mkF m 9 #[vr a0, vi 0, vi 1, vr b74, .unset, .unset] [(.int 1), (.int 0), (.ref b74), (.int 0), (.ref a0)])) rfl (by rw [hml]; rfl) (argsL := [(.ref a0), (.int 0), (.ref b74), (.int 0), (.int 1)]) (rest := []) (lenOf own_pd10 rfl) rfl (by show 2 * 0 + _ ≤ _; exact Nat.le_of_eq rfl) (hb hby od184) (fun _ _ => ⟨rfl, e74, (by decide : 1 + 0 ≤ _), (by decide : 1 + 0 ≤ _)⟩)
  dsimp only [Pt.U, Pt.locs, Pt.cells, Pt.slots] at X75 l75 y75 z75 st75 hQ75
  subst l75 y75 z75
  obtain ⟨rfl, N75q, K75, V75⟩ := hQ75
  have N75 := Fr.app N0 N75q
  have EX75 : Ext h0 T75.heap := own_extkeep EX74 K75 sz_b74
  have SZ75 : h0.size ≤ T75.heap.size := EX75.1
  have Z75 : n0 ≤ T75.heap.size := Nat.le_trans Z0 SZ75
  obtain ⟨fs, hr, hrun, hended, hW, hsame⟩ := X75.leave (v := some (.ref b74)) (fun h => by rw [Bd.returns] at h; cases h)
  refine ⟨_, _, pre0 _ ?_, hrun, hended, _, _, rfl, ?_, ⟨_, rfl⟩, hW, hsame.mono (by decide) (by decide)⟩
  · show Steps p.tables e below (s₁.setTop (mkF m 0 #[vr a0, vi 0, vi 1, .unset, .unset, .unset] [])) _
    refine XS.iloadN X0.here hx rfl (hb hby od176) rfl ?_
    refine st74 _ ?_
    refine XS.astoreN X74.here hx rfl (hb hby od178) rfl rfl (l' := #[vr a0, vi 0, vi 1, vr b74, .unset, .unset]) rfl ?_
    refine XS.aloadN X74.here hx rfl (hb hby od179) rfl rfl ?_
    refine XS.iloadN X74.here hx rfl (hb hby od180) rfl ?_
    refine XS.aloadN X74.here hx rfl (hb hby od181) rfl rfl ?_
    refine XS.iconst X74.here hx rfl (hb hby od182) ?_
    refine XS.iloadN X74.here hx rfl (hb hby od183) rfl ?_
    refine st75 _ ?_
    refine XS.istore X75.here hx rfl (hb hby od185) rfl (l' := #[vr a0, vi 0, vi 1, vr b74, vi 1, .unset]) rfl ?_
    refine XS.iload X75.here hx rfl (hb hby od186) rfl ?_
    refine XS.iloadN X75.here hx rfl (hb hby od187) rfl ?_
    refine XS.icmpYes X75.here hx rfl (pc0 := 17) (pc' := 57) rfl (hb hby od188) rfl (teq (by decide : (1 : Int32) = (1 : Int32))).1 (by decide) (by decide) ?_
    refine XS.aloadN X75.here hx rfl (hb hby od248) rfl rfl ?_
    exact own_retA X75 hx Bd.returns rfl rfl rfl (hb hby od249) hr
  · show Q_cmpA1 Z a0 kc1 c0 h0 n0 _ T75.heap _
    exact ⟨_, _, rfl, N75, EX75, sz_b74, V75⟩
def F_cfl1  : Int32 := (nar .byte (((((1 : Int32) - (1 : Int32)).toUInt32 >>> ((31 : Int32) &&& 31).toUInt32).toInt32).toInt8.toInt32))
theorem own_ef_cfl1 (m : MethodId) (a0 : Addr) : entryFrame m #[(.ref a0), (.int 1)] 2 = mkF m 0 #[vr a0, vi 1] [] := by first | (simp [entryFrame, mkF, argsToLocals, Value.category]; done) | rfl
def Q_cfl1 (Z : State) (a0 : Addr) (kb1 : ClassId) (vs1 : List Value) (dv1 : Value) (h0 : Heap) (n0 : Nat) (v : Option Value) (h : Heap) (L : List Loc) : Prop := v = some (.int F_cfl1) ∧ Fr n0 L ∧ h = h0
theorem rm_cfl1 (l : Launch) (Z : State) (a0' : Array Value) (hw : ∀ d ∈ tables_1, d.before a0' Z = true) (ws : List Jvm.Cond) (a0 : Addr) (kb1 : ClassId) (vs1 : List Value) (dv1 : Value) (h0 : Heap) (n0 : Nat) (Z0 : n0 ≤ h0.size) (VB : Arv Z h0 a0 kb1 .byte (1 : Int32) vs1 dv1) :
    MF l nm18 jdk_52_method_15_code 2 (some .byte) ws (⟨0, 0, 0, 0⟩ : Room) #[(.ref a0), (.int 1)] Z h0 (Q_cfl1 Z a0 kb1 vs1 dv1 h0 n0) := by
  refine MetFree.of_bodySF (plainFor_of_name own_pn3) hisR ?_
  intro p e s m args below meth c s₁ Bd hml0 hP hK
  obtain ⟨rfl, hZ, hh⟩ := hP
  have hx := Bd.exec
  have hby := Bd.bytes
  have hml : c.maxLocals = 2 := hml0
  have hown : s.vm.findClass "java/lang/StringUTF16" = some m.cls := findClass_of_methodNamed Bd.named
  have hnm := (name_of_methodNamed Bd.named Bd.method).1
  have X0 : Stand p l e (⟨0, 0, 0, 0⟩ : Room) s m #[(.ref a0), (.int 1)] below meth c s₁ [] 0 0 := Stand.of_body Bd
  have e0 : s₁.heap = h0 := by rw [← hh, Bd.state]; rfl
  have N0 := Fr.nil n0
  have pre0 : PT p e below (s₁.setTop (mkF m 0 #[vr a0, vi 1] [])) (s₁.setTop (entryFrame m #[(.ref a0), (.int 1)] 2)) := fun t k => castTop (own_ef_cfl1 m a0) k
  have Vc77 := VB
  obtain ⟨cl77, Ar77, q77, S77, N_77, H77, G77⟩ := Vc77
  obtain ⟨fs, hr, hrun, hended, hW, hsame⟩ := X0.leave (v := some (.int (nar .byte (((((1 : Int32) - (1 : Int32)).toUInt32 >>> ((31 : Int32) &&& 31).toUInt32).toInt32).toInt8.toInt32)))) (fun h => by rw [Bd.returns] at h; cases h)
  refine ⟨_, _, pre0 _ ?_, hrun, hended, _, _, rfl, ?_, ⟨_, rfl⟩, hW, hsame.mono (by decide) (by decide)⟩
  · show Steps p.tables e below (s₁.setTop (mkF m 0 #[vr a0, vi 1] [])) _
    refine XS.iloadN X0.here hx rfl (hb hby od201) rfl ?_
    refine XS.aloadN X0.here hx rfl (hb hby od202) rfl rfl ?_
    refine X0.arraylength hx (by rw [e0]; exact Ar77.1) (State.isArrayOf_alike hZ.alike Ar77.2.1) (g := (mkF m 2 #[vr a0, vi 1] [(.ref a0), (.int 1)])) rfl rfl (hb hby od203) _ ?_
    rw [len_of S77 N_77]
    refine XS.isub X0.here hx rfl (hb hby od204) rfl ?_
    refine XS.bipush X0.here hx rfl (hb hby od205) ?_
    refine XS.iushr X0.here hx rfl (hb hby od206) rfl ?_
    refine XS.i2b X0.here hx rfl (hb hby od207) rfl ?_
    exact retN X0 hx (t := .byte) Bd.returns (by simp) (hb hby od208) hr
  · show Q_cfl1 Z a0 kb1 vs1 dv1 h0 n0 _ s₁.heap _
    refine ⟨?_, N0, e0⟩
    rw [F_cfl1]
theorem own_ef_in4_1 (m : MethodId) (a0 : Addr) (a1 : Addr) : entryFrame m #[(.ref a0), (.ref a1), (.int 0), (.int 1), .null] 6 = mkF m 0 #[vr a0, vr a1, vi 0, vi 1, .val .null, .unset] [] := by first | (simp [entryFrame, mkF, argsToLocals, Value.category]; done) | rfl
def Q_in4_1 (Z : State) (a0 : Addr) (a1 : Addr) (kc1 : ClassId) (c0 : Int32) (kc : Int32) (h0 : Heap) (n0 : Nat) (v : Option Value) (h : Heap) (L : List Loc) : Prop := v = none ∧ Fr n0 L ∧ Keep h0 h [a0] ∧ Exa Z h a0 "java/lang/String" ∧ Fld Z h a0 "java/lang/String" "coder" "B" (.int 0) ∧ ∃ (b : Addr) (k : ClassId), Fld Z h a0 "java/lang/String" "value" "[B" (.ref b) ∧ Arv Z h b k .byte (1 : Int32) [(.int (nar .byte (c0.toInt8.toInt32)))] (.int 0)
theorem rm_in4_1 (l : Launch) (Z : State) (a0' : Array Value) (hw : ∀ d ∈ tables_1, d.before a0' Z = true) (ws : List Jvm.Cond) (a0 : Addr) (a1 : Addr) (kc1 : ClassId) (c0 : Int32) (kc : Int32) (h0 : Heap) (n0 : Nat) (Z0 : n0 ≤ h0.size) (E_t : Exa Z h0 a0 "java/lang/String") (F0v : Fld Z h0 a0 "java/lang/String" "value" "[B" .null) (F0c : Fld Z h0 a0 "java/lang/String" "coder" "B" (.int 0)) (g_t : n0 ≤ a0) (VA : Arv Z h0 a1 kc1 .char (1 : Int32) [(.int c0)] (.int 0)) (na1 : a0 ≠ a1) (hc_c0 : ¬ ((255 : Int32) < c0)) (S_cs : Sta Z h0 "java/lang/String" "COMPACT_STRINGS" "Z" (.int kc)) (hkc : ¬ (kc = (0 : Int32))) :
    MF l nm19 jdk_42_method_149_code 6 none ws (⟨2, 1, 1, 35⟩ : Room) #[(.ref a0), (.ref a1), (.int 0), (.int 1), .null] Z h0 (Q_in4_1 Z a0 a1 kc1 c0 kc h0 n0) := by
  refine MetFree.of_bodySF (plainFor_of_name own_pn1) hisR ?_
  intro p e s m args below meth c s₁ Bd hml0 hP hK
  obtain ⟨rfl, hZ, hh⟩ := hP
  have hx := Bd.exec
  have hby := Bd.bytes
  have hml : c.maxLocals = 6 := hml0
  have hown : s.vm.findClass "java/lang/String" = some m.cls := findClass_of_methodNamed Bd.named
  have hnm := (name_of_methodNamed Bd.named Bd.method).1
  have X0 : Stand p l e (⟨2, 1, 1, 35⟩ : Room) s m #[(.ref a0), (.ref a1), (.int 0), (.int 1), .null] below meth c s₁ [] 0 0 := Stand.of_body Bd
  have e0 : s₁.heap = h0 := by rw [← hh, Bd.state]; rfl
  have N0 := Fr.nil n0
  have pre0 : PT p e below (s₁.setTop (mkF m 0 #[vr a0, vr a1, vi 0, vi 1, .val .null, .unset] [])) (s₁.setTop (entryFrame m #[(.ref a0), (.ref a1), (.int 0), (.int 1), .null] 6)) := fun t k => castTop (own_ef_in4_1 m a0 a1) k
  obtain ⟨T78, X78, e78, st78⟩ := initO X0 hx hZ hown (ow hw 13 rfl) (ow hw 14 rfl) (ow hw 15 rfl) e0 (g := (mkF m 1 #[vr a0, vr a1, vi 0, vi 1, .val .null, .unset] [(.ref a0)])) rfl (by rw [hml]; rfl) rfl (hb hby od210) (by decide) (W := 0) (by show 2 * 0 + _ ≤ _; exact Nat.le_of_eq rfl) (by decide)
  obtain ⟨T79, X79, e79, st79⟩ := getS2 X78 hx hZ hown (host := "") (Or.inl (ow hw 38 rfl)) Via.refl e78 S_cs (g := (mkF m 27 #[vr a0, vr a1, vi 0, vi 1, .val .null, .unset] [])) rfl (hb hby od213)
  obtain ⟨_, _, ⟨T80, L80, k80, n80⟩, -, X80, ⟨Lc80, hQ80, l80, y80, z80⟩, st80⟩ := Jvm.LawKit.callS X79 hx (y := nm17) hown (mvT hZ (ow hw 39 rfl)) (mvT hZ (ow hw 40 rfl)) (mvT hZ (ow hw 41 rfl)) (mvT hZ (ow hw 42 rfl)) (by decide) (backOf (W := 0) (rm_cmpA1 l Z a0' hw [] a1 kc1 c0 h0 n0 Z0 VA hc_c0) hZ (ow hw 42 rfl) (ow hw 41 rfl) (by decide) (by decide)) (g := (mkF m 36 #[vr a0, vr a1, vi 0, vi 1, .val .null, .unset] [(.int 1), (.int 0), (.ref a1)])) rfl (by rw [hml]; rfl) (argsL := [(.ref a1), (.int 0), (.int 1)]) (rest := []) (lenOf own_pd11 rfl) rfl (by show 2 * 0 + _ ≤ _; exact Nat.le_of_eq rfl) (hb hby od218) (fun _ _ => ⟨rfl, e79, (by decide : 0 + 1 ≤ _), (by decide : 0 + 1 ≤ _)⟩)
  dsimp only [Pt.U, Pt.locs, Pt.cells, Pt.slots] at X80 l80 y80 z80 st80 hQ80
  subst l80 y80 z80
  obtain ⟨r80, kk80, rfl, N80q, E80, zz80, V80⟩ := hQ80
  have N80 := Fr.app N0 N80q
  have ne80_a0_r80 : a0 ≠ r80 := Nat.ne_of_lt (Nat.lt_of_lt_of_le E_t.lt zz80)
  have ne80_a1_r80 : a1 ≠ r80 := Nat.ne_of_lt (Nat.lt_of_lt_of_le VA.lt zz80)
  have g_r80 : n0 ≤ r80 := Nat.le_trans Z0 zz80
  have sz_r80 : h0.size ≤ r80 := Nat.le_trans (Nat.le_refl _) zz80
  have KP80 : Keep h0 T80.heap [a0] := (Keep.refl h0 [a0]).ext E80
  have SZ80 : h0.size ≤ T80.heap.size := KP80.1
  have Z80 : n0 ≤ T80.heap.size := Nat.le_trans Z0 SZ80
  obtain ⟨_, _, ⟨T81, L81, k81, n81⟩, -, X81, ⟨Lc81, hQ81, l81, y81, z81⟩, st81⟩ := Jvm.LawKit.callS X80 hx (y := nm18) hown (mvT hZ (ow hw 46 rfl)) (mvT hZ (ow hw 47 rfl)) (mvT hZ (ow hw 41 rfl)) (mvT hZ (ow hw 48 rfl)) (by decide) (backOf (W := 1) (rm_cfl1 l Z a0' hw [] r80 kk80 _ _ T80.heap n0 Z80 V80) hZ (ow hw 48 rfl) (ow hw 41 rfl) (by decide) (by decide)) (g := (mkF m 45 #[vr a0, vr a1, vi 0, vi 1, .val .null, vr r80] [(.int 1), (.ref r80), (.ref a0)])) rfl (by rw [hml]; rfl) (argsL := [(.ref r80), (.int 1)]) (rest := [(.ref a0)]) (lenOf own_pd12 rfl) rfl (by show 2 * 0 + _ ≤ _; exact Nat.le_of_eq rfl) (hb hby od223) (fun _ _ => ⟨rfl, rfl, (by decide : 1 + 0 ≤ _), (by decide : 1 + 0 ≤ _)⟩)
  dsimp only [Pt.U, Pt.locs, Pt.cells, Pt.slots] at X81 l81 y81 z81 st81 hQ81
  subst l81 y81 z81
  obtain ⟨rfl, N81q, e81⟩ := hQ81
  have N81 := Fr.app N80 N81q
  have q81 : F_cfl1 = (0 : Int32) := by decide
  rw [q81] at st81
  have fx83 := (E_t.ext E80)
  have fx84 := (F0c.ext E80)
  have Fo82 := fx84
  obtain ⟨T85, h85, X85, e85, W85, st85⟩ := putFN X81 hx hZ hown (ow hw 23 rfl) Via.refl e81 Fo82 fx83 (Or.inr ⟨(ow hw 19 rfl), rfl, hnm⟩) (ow hw 4 rfl) (ty := .byte) (v' := (.int (nar .byte (0 : Int32)))) (by decide) rfl (fits_nar_byte _) (g := (mkF m 48 #[vr a0, vr a1, vi 0, vi 1, .val .null, vr r80] [(.int 0), (.ref a0)])) rfl rfl (hb hby od224)
  have Fw85 : Fld Z h85 a0 "java/lang/String" "coder" "B" (.int 0) := Fo82.same W85
  have N85 := Fr.snoc X85 N81 g_t
  have KP85 : Keep h0 h85 [a0] := KP80.wr W85 (Or.inl (List.mem_of_getElem? (i := 0) rfl))
  have SZ85 : h0.size ≤ h85.size := KP85.1
  have Z85 : n0 ≤ h85.size := Nat.le_trans Z0 SZ85
  have fx87 := (fx83.wr W85)
  have fx88 := ((F0v.ext E80).other W85 (Or.inr (slot_ne (a0 := a0') (Or.inr (ow hw 18 rfl)) (Or.inr (ow hw 19 rfl)) (by decide) (t := (.array .byte)) (t' := .byte) (by decide) (by decide))))
  have Fo86 := fx88
  obtain ⟨T89, h89, X89, e89, W89, st89⟩ := putF X85 hx hZ hown (host := "") (Or.inl (ow hw 22 rfl)) Via.refl e85 Fo86 fx87 (Or.inr ⟨(ow hw 18 rfl), rfl, hnm⟩) (ow hw 4 rfl) (ty := (.array .byte)) (by decide) rfl rfl (g := (mkF m 54 #[vr a0, vr a1, vi 0, vi 1, .val .null, vr r80] [(.ref r80), (.ref a0)])) rfl rfl (hb hby od227)
  have Fw89 : Fld Z h89 a0 "java/lang/String" "value" "[B" (.ref r80) := Fo86.same W89
  have N89 := Fr.snoc X89 N85 g_t
  have KP89 : Keep h0 h89 [a0] := KP85.wr W89 (Or.inl (List.mem_of_getElem? (i := 0) rfl))
  have SZ89 : h0.size ≤ h89.size := KP89.1
  have Z89 : n0 ≤ h89.size := Nat.le_trans Z0 SZ89
  have fx90 := (fx87.wr W89)
  have fx91 := (Fw85.other W89 (Or.inr (slot_ne (a0 := a0') (Or.inr (ow hw 19 rfl)) (Or.inr (ow hw 18 rfl)) (by decide) (t := .byte) (t' := (.array .byte)) (by decide) (by decide))))
  have fx92 := ((V80.other W85 (Ne.symm ne80_a0_r80)).other W89 (Ne.symm ne80_a0_r80))
  obtain ⟨fs, hr, hrun, hended, hW, hsame⟩ := X89.leave (v := none) (fun _ => rfl)
  refine ⟨_, _, pre0 _ ?_, hrun, hended, _, _, rfl, ?_, ⟨_, rfl⟩, hW, hsame.mono (by decide) (by decide)⟩
  · show Steps p.tables e below (s₁.setTop (mkF m 0 #[vr a0, vr a1, vi 0, vi 1, .val .null, .unset] [])) _
    refine XS.aloadN X0.here hx rfl (hb hby od209) rfl rfl ?_
    refine st78 _ ?_
    refine XS.iloadN X78.here hx rfl (hb hby od211) rfl ?_
    refine XS.ifYes X78.here hx rfl (pc0 := 5) (pc' := 27) rfl (hb hby od212) rfl ((if0 _ _).trans (feq (by decide : ¬ ((1 : Int32) = (0 : Int32)))).2) (by decide) (by decide) ?_
    refine st79 _ ?_
    refine XS.ifNo X79.here hx rfl (hb hby od214) rfl ((if0 _ _).trans (feq hkc).1) ?_
    refine XS.aloadN X79.here hx rfl (hb hby od215) rfl rfl ?_
    refine XS.iloadN X79.here hx rfl (hb hby od216) rfl ?_
    refine XS.iloadN X79.here hx rfl (hb hby od217) rfl ?_
    refine st80 _ ?_
    refine XS.astore X80.here hx rfl (hb hby od219) rfl rfl (l' := #[vr a0, vr a1, vi 0, vi 1, .val .null, vr r80]) rfl ?_
    refine XS.aloadN X80.here hx rfl (hb hby od220) rfl rfl ?_
    refine XS.aload X80.here hx rfl (hb hby od221) rfl rfl ?_
    refine XS.iloadN X80.here hx rfl (hb hby od222) rfl ?_
    refine st81 _ ?_
    refine st85 _ ?_
    refine XS.aloadN X85.here hx rfl (hb hby od225) rfl rfl ?_
    refine XS.aload X85.here hx rfl (hb hby od226) rfl rfl ?_
    refine st89 _ ?_
    exact X89.returnOut hx Bd.returns (hb hby od228) hr
  · show Q_in4_1 Z a0 a1 kc1 c0 kc h0 n0 _ T89.heap _
    rw [e89]
    exact ⟨rfl, N89, KP89, fx90, fx91, _, _, Fw89, fx92⟩
theorem own_ef_in1_1 (m : MethodId) (a0 : Addr) (a1 : Addr) : entryFrame m #[(.ref a0), (.ref a1)] 2 = mkF m 0 #[vr a0, vr a1] [] := by first | (simp [entryFrame, mkF, argsToLocals, Value.category]; done) | rfl
def Q_in1_1 (Z : State) (a0 : Addr) (a1 : Addr) (kc1 : ClassId) (c0 : Int32) (kc : Int32) (h0 : Heap) (n0 : Nat) (v : Option Value) (h : Heap) (L : List Loc) : Prop := v = none ∧ Fr n0 L ∧ Keep h0 h [a0] ∧ Exa Z h a0 "java/lang/String" ∧ Fld Z h a0 "java/lang/String" "coder" "B" (.int 0) ∧ ∃ (b : Addr) (k : ClassId), Fld Z h a0 "java/lang/String" "value" "[B" (.ref b) ∧ Arv Z h b k .byte (1 : Int32) [(.int (nar .byte (c0.toInt8.toInt32)))] (.int 0)
theorem rm_in1_1 (l : Launch) (Z : State) (a0' : Array Value) (hw : ∀ d ∈ tables_1, d.before a0' Z = true) (ws : List Jvm.Cond) (a0 : Addr) (a1 : Addr) (kc1 : ClassId) (c0 : Int32) (kc : Int32) (h0 : Heap) (n0 : Nat) (Z0 : n0 ≤ h0.size) (E_t : Exa Z h0 a0 "java/lang/String") (F0v : Fld Z h0 a0 "java/lang/String" "value" "[B" .null) (F0c : Fld Z h0 a0 "java/lang/String" "coder" "B" (.int 0)) (g_t : n0 ≤ a0) (VA : Arv Z h0 a1 kc1 .char (1 : Int32) [(.int c0)] (.int 0)) (na1 : a0 ≠ a1) (hc_c0 : ¬ ((255 : Int32) < c0)) (S_cs : Sta Z h0 "java/lang/String" "COMPACT_STRINGS" "Z" (.int kc)) (hkc : ¬ (kc = (0 : Int32))) :
    MF l nm20 jdk_42_method_3_code 2 none ws (⟨5, 2, 3, 74⟩ : Room) #[(.ref a0), (.ref a1)] Z h0 (Q_in1_1 Z a0 a1 kc1 c0 kc h0 n0) := by
  refine MetFree.of_bodySF (plainFor_of_name own_pn1) hisR ?_
  intro p e s m args below meth c s₁ Bd hml0 hP hK
  obtain ⟨rfl, hZ, hh⟩ := hP
  have hx := Bd.exec
  have hby := Bd.bytes
  have hml : c.maxLocals = 2 := hml0
  have hown : s.vm.findClass "java/lang/String" = some m.cls := findClass_of_methodNamed Bd.named
  have hnm := (name_of_methodNamed Bd.named Bd.method).1
  have X0 : Stand p l e (⟨5, 2, 3, 74⟩ : Room) s m #[(.ref a0), (.ref a1)] below meth c s₁ [] 0 0 := Stand.of_body Bd
  have e0 : s₁.heap = h0 := by rw [← hh, Bd.state]; rfl
  have N0 := Fr.nil n0
  have pre0 : PT p e below (s₁.setTop (mkF m 0 #[vr a0, vr a1] [])) (s₁.setTop (entryFrame m #[(.ref a0), (.ref a1)] 2)) := fun t k => castTop (own_ef_in1_1 m a0 a1) k
  have Vc93 := VA
  obtain ⟨cl93, Ar93, q93, S93, N_93, H93, G93⟩ := Vc93
  obtain ⟨_, _, ⟨T94, L94, k94, n94⟩, -, X94, ⟨Lc94, hQ94, l94, y94, z94⟩, st94⟩ := X0.specialBack hx (y := nm19) rfl hown (mvT hZ (ow hw 9 rfl)) (mvT hZ (ow hw 10 rfl)) (mvT hZ (ow hw 12 rfl)) (by decide) (backOf (W := 0) (rm_in4_1 l Z a0' hw [] a0 a1 kc1 c0 kc h0 n0 Z0 E_t F0v F0c g_t VA na1 hc_c0 S_cs hkc) hZ (ow hw 12 rfl) (ow hw 5 rfl) (by decide) (by decide)) (g := (mkF m 6 #[vr a0, vr a1] [.null, (.int 1), (.int 0), (.ref a1), (.ref a0)])) rfl (by rw [hml]; rfl) (Steps.refl _) (a := a0) (argsL := [(.ref a1), (.int 0), (.int 1), .null]) (rest := []) (lenOf own_pd13 rfl) rfl (by show 2 * 0 + _ ≤ _; exact Nat.le_of_eq rfl) (hb hby od235) (fun _ _ => ⟨rfl, e0, (by decide : 0 + 1 ≤ _), (by decide : 0 + 1 ≤ _)⟩)
  dsimp only [Pt.U, Pt.locs, Pt.cells, Pt.slots] at X94 l94 y94 z94 st94 hQ94
  subst l94 y94 z94
  obtain ⟨rfl, N94q, K94, Ei94, Ci94, bi94, ki94, Fi94, Vi94⟩ := hQ94
  have N94 := Fr.app N0 N94q
  have KP94 : Keep h0 T94.heap [a0] := (Keep.refl h0 [a0]).trans K94 (allS (Or.inl (List.mem_of_getElem? (i := 0) rfl)) all0)
  have SZ94 : h0.size ≤ T94.heap.size := KP94.1
  have Z94 : n0 ≤ T94.heap.size := Nat.le_trans Z0 SZ94
  obtain ⟨fs, hr, hrun, hended, hW, hsame⟩ := X94.leave (v := none) (fun _ => rfl)
  refine ⟨_, _, pre0 _ ?_, hrun, hended, _, _, rfl, ?_, ⟨_, rfl⟩, hW, hsame.mono (by decide) (by decide)⟩
  · show Steps p.tables e below (s₁.setTop (mkF m 0 #[vr a0, vr a1] [])) _
    refine XS.aloadN X0.here hx rfl (hb hby od229) rfl rfl ?_
    refine XS.aloadN X0.here hx rfl (hb hby od230) rfl rfl ?_
    refine XS.iconst X0.here hx rfl (hb hby od231) ?_
    refine XS.aloadN X0.here hx rfl (hb hby od232) rfl rfl ?_
    refine X0.arraylength hx (by rw [e0]; exact Ar93.1) (State.isArrayOf_alike hZ.alike Ar93.2.1) (g := (mkF m 4 #[vr a0, vr a1] [(.ref a1), (.int 0), (.ref a1), (.ref a0)])) rfl rfl (hb hby od233) _ ?_
    rw [len_of S93 N_93]
    refine XS.aconstNull X0.here hx rfl (hb hby od234) ?_
    refine st94.trans ?_
    exact X94.returnOut hx Bd.returns (hb hby od236) hr
  · show Q_in1_1 Z a0 a1 kc1 c0 kc h0 n0 _ T94.heap _
    exact ⟨rfl, N94, KP94, Ei94, Ci94, _, _, Fi94, Vi94⟩
def Q_in1C1 (Z : State) (a0 : Addr) (c0 : Int32) (h0 : Heap) (n0 : Nat) (v : Option Value) (h : Heap) (L : List Loc) : Prop := v = none ∧ Fr n0 L ∧ Keep h0 h [a0] ∧ CS Z h a0 [c0]
theorem rm_in1C1 (l : Launch) (Z : State) (a0' : Array Value) (hw : ∀ d ∈ tables_1, d.before a0' Z = true) (ws : List Jvm.Cond) (a0 : Addr) (a1 : Addr) (kc1 : ClassId) (c0 : Int32) (kc : Int32) (h0 : Heap) (n0 : Nat) (Z0 : n0 ≤ h0.size) (E_t : Exa Z h0 a0 "java/lang/String") (F0v : Fld Z h0 a0 "java/lang/String" "value" "[B" .null) (F0c : Fld Z h0 a0 "java/lang/String" "coder" "B" (.int 0)) (g_t : n0 ≤ a0) (VA : Arv Z h0 a1 kc1 .char (1 : Int32) [(.int c0)] (.int 0)) (na1 : a0 ≠ a1) (hb_c0 : 0 ≤ c0.toInt ∧ c0.toInt ≤ 65535) (S_cs : Sta Z h0 "java/lang/String" "COMPACT_STRINGS" "Z" (.int kc)) (hkc : ¬ (kc = (0 : Int32))) (S_ad : Sta Z h0 "java/lang/StringUTF16" "$assertionsDisabled" "Z" (.int 1)) (S_hi : Sta Z h0 "java/lang/StringUTF16" "HI_BYTE_SHIFT" "I" (.int 0)) (S_lo : Sta Z h0 "java/lang/StringUTF16" "LO_BYTE_SHIFT" "I" (.int 8)) :
    MF l nm20 jdk_42_method_3_code 2 none ws (⟨5, 2, 3, 74⟩ : Room) #[(.ref a0), (.ref a1)] Z h0 (Q_in1C1 Z a0 c0 h0 n0) := by
  by_cases hup : ¬ ((255 : Int32) < c0)
  · have p0 := hup
    simp only [Int32.lt_iff_toInt_lt, Int32.reduceToInt] at *
    exact own_mono (rm_in1_1 l Z a0' hw ws a0 a1 kc1 c0 kc h0 n0 Z0 E_t F0v F0c g_t VA na1 (by simp only [Int32.lt_iff_toInt_lt, Int32.reduceToInt]; exact p0) S_cs hkc) (fun _ _ _ _ ⟨v, L, q1, ⟨r1, r2, r3, r4, r5, b, k, r6, r7⟩, q5⟩ => ⟨v, L, q1, ⟨r1, r2, r3, r4, b, k, r6, Or.inl ⟨r5, (by intro c hc; simp only [List.mem_cons, List.not_mem_nil, or_false] at hc; rcases hc with rfl <;> omega), r7⟩⟩, q5⟩)
  · exact own_mono (rm_in1U1 l Z a0' hw ws a0 a1 kc1 c0 kc h0 n0 Z0 E_t F0v F0c g_t VA na1 hup hb_c0 S_cs hkc S_ad S_hi S_lo) (fun _ _ _ _ ⟨v, L, q1, ⟨r1, r2, r3, r4, r5, b, k, r6, r7⟩, q5⟩ => ⟨v, L, q1, ⟨r1, r2, r3, r4, b, k, r6, Or.inr ⟨r5, (by intro c hc; simp only [List.mem_cons, List.not_mem_nil, or_false] at hc; rcases hc with rfl <;> omega), by simp, r7⟩⟩, q5⟩)
def F_nbl2  : Int32 := ((2 : Int32) <<< ((1 : Int32) &&& 31))
theorem own_ef_nbl2 (m : MethodId)  : entryFrame m #[(.int 2)] 1 = mkF m 0 #[vi 2] [] := by first | (simp [entryFrame, mkF, argsToLocals, Value.category]; done) | rfl
def Q_nbl2 (Z : State)  (h0 : Heap) (n0 : Nat) (v : Option Value) (h : Heap) (L : List Loc) : Prop := v = some (.int F_nbl2) ∧ Fr n0 L ∧ h = h0
theorem rm_nbl2 (l : Launch) (Z : State) (a0' : Array Value) (hw : ∀ d ∈ tables_1, d.before a0' Z = true) (ws : List Jvm.Cond)  (h0 : Heap) (n0 : Nat) (Z0 : n0 ≤ h0.size) :
    MF l nm12 jdk_52_method_3_code 1 (some .int) ws (⟨0, 0, 0, 0⟩ : Room) #[(.int 2)] Z h0 (Q_nbl2 Z  h0 n0) := by
  refine MetFree.of_bodySF (plainFor_of_name own_pn3) hisR ?_
  intro p e s m args below meth c s₁ Bd hml0 hP hK
  obtain ⟨rfl, hZ, hh⟩ := hP
  have hx := Bd.exec
  have hby := Bd.bytes
  have hml : c.maxLocals = 1 := hml0
  have hown : s.vm.findClass "java/lang/StringUTF16" = some m.cls := findClass_of_methodNamed Bd.named
  have hnm := (name_of_methodNamed Bd.named Bd.method).1
  have X0 : Stand p l e (⟨0, 0, 0, 0⟩ : Room) s m #[(.int 2)] below meth c s₁ [] 0 0 := Stand.of_body Bd
  have e0 : s₁.heap = h0 := by rw [← hh, Bd.state]; rfl
  have N0 := Fr.nil n0
  have pre0 : PT p e below (s₁.setTop (mkF m 0 #[vi 2] [])) (s₁.setTop (entryFrame m #[(.int 2)] 1)) := fun t k => castTop (own_ef_nbl2 m ) k
  obtain ⟨fs, hr, hrun, hended, hW, hsame⟩ := X0.leave (v := some (.int ((2 : Int32) <<< ((1 : Int32) &&& 31)))) (fun h => by rw [Bd.returns] at h; cases h)
  refine ⟨_, _, pre0 _ ?_, hrun, hended, _, _, rfl, ?_, ⟨_, rfl⟩, hW, hsame.mono (by decide) (by decide)⟩
  · show Steps p.tables e below (s₁.setTop (mkF m 0 #[vi 2] [])) _
    refine XS.iloadN X0.here hx rfl (hb hby od108) rfl ?_
    refine XS.ifYes X0.here hx rfl (pc0 := 1) (pc' := 12) rfl (hb hby od109) rfl ((if0 _ _).trans (flt (by decide : ¬ ((2 : Int32) < (0 : Int32)))).2.1) (by decide) (by decide) ?_
    refine XS.iloadN X0.here hx rfl (hb hby od110) rfl ?_
    refine X0.ldcInt hx hown (mvT hZ (ow hw 97 rfl)) (g := (mkF m 13 #[vi 2] [(.int 2)])) rfl (hb hby od111) _ ?_
    refine XS.icmpYes X0.here hx rfl (pc0 := 15) (pc' := 55) rfl (hb hby od112) rfl (tlt (by decide : (2 : Int32) < (1073741823 : Int32))).1 (by decide) (by decide) ?_
    refine XS.iloadN X0.here hx rfl (hb hby od113) rfl ?_
    refine XS.iconst X0.here hx rfl (hb hby od114) ?_
    refine XS.ishl X0.here hx rfl (hb hby od115) rfl ?_
    exact own_retI X0 hx Bd.returns (hb hby od116) hr
  · show Q_nbl2 Z  h0 n0 _ s₁.heap _
    refine ⟨?_, N0, e0⟩
    rw [F_nbl2]
theorem own_ef_nbf2 (m : MethodId)  : entryFrame m #[(.int 2)] 1 = mkF m 0 #[vi 2] [] := by first | (simp [entryFrame, mkF, argsToLocals, Value.category]; done) | rfl
def Q_nbf2 (Z : State)  (h0 : Heap) (n0 : Nat) (v : Option Value) (h : Heap) (L : List Loc) : Prop := ∃ (r : Addr) (k : ClassId), v = some (.ref r) ∧ Fr n0 L ∧ Ext h0 h ∧ h0.size ≤ r ∧ Arv Z h r k .byte (4 : Int32) [(.int 0), (.int 0), (.int 0), (.int 0)] (.int 0)
theorem rm_nbf2 (l : Launch) (Z : State) (a0' : Array Value) (hw : ∀ d ∈ tables_1, d.before a0' Z = true) (ws : List Jvm.Cond)  (h0 : Heap) (n0 : Nat) (Z0 : n0 ≤ h0.size) :
    MF l nm13 jdk_52_method_2_code 1 (some (.array .byte)) ws (⟨1, 1, 4, 12⟩ : Room) #[(.int 2)] Z h0 (Q_nbf2 Z  h0 n0) := by
  refine MetFree.of_bodySF (plainFor_of_name own_pn3) hisR ?_
  intro p e s m args below meth c s₁ Bd hml0 hP hK
  obtain ⟨rfl, hZ, hh⟩ := hP
  have hx := Bd.exec
  have hby := Bd.bytes
  have hml : c.maxLocals = 1 := hml0
  have hown : s.vm.findClass "java/lang/StringUTF16" = some m.cls := findClass_of_methodNamed Bd.named
  have hnm := (name_of_methodNamed Bd.named Bd.method).1
  have X0 : Stand p l e (⟨1, 1, 4, 12⟩ : Room) s m #[(.int 2)] below meth c s₁ [] 0 0 := Stand.of_body Bd
  have e0 : s₁.heap = h0 := by rw [← hh, Bd.state]; rfl
  have N0 := Fr.nil n0
  have pre0 : PT p e below (s₁.setTop (mkF m 0 #[vi 2] [])) (s₁.setTop (entryFrame m #[(.int 2)] 1)) := fun t k => castTop (own_ef_nbf2 m ) k
  obtain ⟨_, _, ⟨T95, L95, k95, n95⟩, -, X95, ⟨Lc95, hQ95, l95, y95, z95⟩, st95⟩ := Jvm.LawKit.callS X0 hx (y := nm12) hown (mvT hZ (ow hw 94 rfl)) (mvT hZ (ow hw 95 rfl)) (mvT hZ (ow hw 41 rfl)) (mvT hZ (ow hw 96 rfl)) (by decide) (backOf (W := 0) (rm_nbl2 l Z a0' hw []  h0 n0 Z0) hZ (ow hw 96 rfl) (ow hw 41 rfl) (by decide) (by decide)) (g := (mkF m 1 #[vi 2] [(.int 2)])) rfl (by rw [hml]; rfl) (argsL := [(.int 2)]) (rest := []) (lenOf own_pd7 rfl) rfl (by show 2 * 0 + _ ≤ _; exact Nat.le_of_eq rfl) (hb hby od118) (fun _ _ => ⟨rfl, e0, (by decide : 0 + 0 ≤ _), (by decide : 0 + 0 ≤ _)⟩)
  dsimp only [Pt.U, Pt.locs, Pt.cells, Pt.slots] at X95 l95 y95 z95 st95 hQ95
  subst l95 y95 z95
  obtain ⟨rfl, N95q, e95⟩ := hQ95
  have N95 := Fr.app N0 N95q
  have q95 : F_nbl2 = (4 : Int32) := by decide
  rw [q95] at st95
  obtain ⟨T96, h96, k96, X96, e96, E96, A96, st96⟩ := newP X95 hx hZ (ow hw 17 rfl) e95 (g := (mkF m 4 #[vi 2] [(.int 4)])) rfl (hb hby od119) rfl (by decide) (cap := 4) (by decide) (by decide) (by decide) (by decide)
  obtain ⟨b96, g96⟩ : ∃ z, z = h0.size := ⟨_, rfl⟩
  rw [← g96] at A96 st96
  have V_b96 : Arv Z h96 b96 k96 .byte (4 : Int32) [(.int 0), (.int 0), (.int 0), (.int 0)] (.int 0) := (Arv.new A96 (by decide)).pad (pad_rep [] (.int 0) 4)
  have g_b96 : n0 ≤ b96 := Nat.le_trans Z0 (Nat.le_of_eq g96.symm)
  have sz_b96 : h0.size ≤ b96 := Nat.le_trans (Nat.le_refl _) (Nat.le_of_eq g96.symm)
  have EX96 : Ext h0 h96 := E96
  have SZ96 : h0.size ≤ h96.size := EX96.1
  have Z96 : n0 ≤ h96.size := Nat.le_trans Z0 SZ96
  obtain ⟨fs, hr, hrun, hended, hW, hsame⟩ := X96.leave (v := some (.ref b96)) (fun h => by rw [Bd.returns] at h; cases h)
  refine ⟨_, _, pre0 _ ?_, hrun, hended, _, _, rfl, ?_, ⟨_, rfl⟩, hW, hsame.mono (by decide) (by decide)⟩
  · show Steps p.tables e below (s₁.setTop (mkF m 0 #[vi 2] [])) _
    refine XS.iloadN X0.here hx rfl (hb hby od117) rfl ?_
    refine st95 _ ?_
    refine st96 _ ?_
    exact own_retA X96 hx Bd.returns rfl rfl rfl (hb hby od120) hr
  · show Q_nbf2 Z  h0 n0 _ T96.heap _
    rw [e96]
    exact ⟨_, _, rfl, N95, EX96, sz_b96, V_b96⟩
theorem own_ef_put2_0 (m : MethodId) (a0 : Addr) (p2 : Int32) : entryFrame m #[(.ref a0), (.int 0), (.int p2)] 3 = mkF m 0 #[vr a0, vi 0, vi p2] [] := by first | (simp [entryFrame, mkF, argsToLocals, Value.category]; done) | rfl
def Q_put2_0 (Z : State) (a0 : Addr) (p2 : Int32) (kb1 : ClassId) (x0 : Int32) (x1 : Int32) (x2 : Int32) (x3 : Int32) (h0 : Heap) (n0 : Nat) (v : Option Value) (h : Heap) (L : List Loc) : Prop := v = none ∧ Fr n0 L ∧ Keep h0 h [a0] ∧ Arv Z h a0 kb1 .byte (4 : Int32) [(.int (nar .byte ((p2 >>> ((0 : Int32) &&& 31)).toInt8.toInt32))), (.int (nar .byte ((p2 >>> ((8 : Int32) &&& 31)).toInt8.toInt32))), (.int x2), (.int x3)] (.int 0)
theorem rm_put2_0 (l : Launch) (Z : State) (a0' : Array Value) (hw : ∀ d ∈ tables_1, d.before a0' Z = true) (ws : List Jvm.Cond) (a0 : Addr) (p2 : Int32) (kb1 : ClassId) (x0 : Int32) (x1 : Int32) (x2 : Int32) (x3 : Int32) (h0 : Heap) (n0 : Nat) (Z0 : n0 ≤ h0.size) (VB : Arv Z h0 a0 kb1 .byte (4 : Int32) [(.int x0), (.int x1), (.int x2), (.int x3)] (.int 0)) (g0 : n0 ≤ a0) (S_ad : Sta Z h0 "java/lang/StringUTF16" "$assertionsDisabled" "Z" (.int 1)) (S_hi : Sta Z h0 "java/lang/StringUTF16" "HI_BYTE_SHIFT" "I" (.int 0)) (S_lo : Sta Z h0 "java/lang/StringUTF16" "LO_BYTE_SHIFT" "I" (.int 8)) :
    MF l nm14 jdk_52_method_4_code 3 none ws (⟨0, 0, 0, 0⟩ : Room) #[(.ref a0), (.int 0), (.int p2)] Z h0 (Q_put2_0 Z a0 p2 kb1 x0 x1 x2 x3 h0 n0) := by
  refine MetFree.of_bodySF (plainFor_of_name own_pn3) hisR ?_
  intro p e s m args below meth c s₁ Bd hml0 hP hK
  obtain ⟨rfl, hZ, hh⟩ := hP
  have hx := Bd.exec
  have hby := Bd.bytes
  have hml : c.maxLocals = 3 := hml0
  have hown : s.vm.findClass "java/lang/StringUTF16" = some m.cls := findClass_of_methodNamed Bd.named
  have hnm := (name_of_methodNamed Bd.named Bd.method).1
  have X0 : Stand p l e (⟨0, 0, 0, 0⟩ : Room) s m #[(.ref a0), (.int 0), (.int p2)] below meth c s₁ [] 0 0 := Stand.of_body Bd
  have e0 : s₁.heap = h0 := by rw [← hh, Bd.state]; rfl
  have N0 := Fr.nil n0
  have pre0 : PT p e below (s₁.setTop (mkF m 0 #[vr a0, vi 0, vi p2] [])) (s₁.setTop (entryFrame m #[(.ref a0), (.int 0), (.int p2)] 3)) := fun t k => castTop (own_ef_put2_0 m a0 p2) k
  obtain ⟨T97, X97, e97, st97⟩ := getS2 X0 hx hZ hown (host := "") (Or.inl (ow hw 101 rfl)) Via.refl e0 S_ad (g := (mkF m 0 #[vr a0, vi 0, vi p2] [])) rfl (hb hby od121)
  obtain ⟨T98, X98, e98, st98⟩ := getS2 X97 hx hZ hown (host := "") (Or.inl (ow hw 102 rfl)) Via.refl e97 S_hi (g := (mkF m 38 #[vr a0, vi (((0 : Int32) <<< ((1 : Int32) &&& 31)) + (1 : Int32)), vi p2] [(.int p2), (.int ((0 : Int32) <<< ((1 : Int32) &&& 31))), (.ref a0)])) rfl (hb hby od131)
  have Vc99 := VB
  obtain ⟨cl99, Ar99, q99, S99, N_99, H99, G99⟩ := Vc99
  have hin99 : ¬ (((0 : Int32) <<< ((1 : Int32) &&& 31)) < 0 ∨ cl99.slots.size ≤ (((0 : Int32) <<< ((1 : Int32) &&& 31))).toNatClampNeg) := inb_of S99 ⟨by decide, by decide⟩
  obtain ⟨T100, h100, X100, e100, W100, st100⟩ := stB X98 hx hZ e98 Ar99 (j := ((0 : Int32) <<< ((1 : Int32) &&& 31))) hin99 (g := (mkF m 43 #[vr a0, vi (((0 : Int32) <<< ((1 : Int32) &&& 31)) + (1 : Int32)), vi p2] [(.int ((p2 >>> ((0 : Int32) &&& 31)).toInt8.toInt32)), (.int ((0 : Int32) <<< ((1 : Int32) &&& 31))), (.ref a0)])) rfl rfl (hb hby od134)
  have V_a0_100 : Arv Z h100 a0 kb1 .byte (4 : Int32) [(.int (nar .byte ((p2 >>> ((0 : Int32) &&& 31)).toInt8.toInt32))), (.int x1), (.int x2), (.int x3)] (.int 0) := Arv.set Ar99 q99 S99 N_99 H99 G99 (fits_nar_byte _) W100 0 rfl (Nat.le_of_ble_eq_true rfl)
  have N100 := Fr.snoc X100 N0 g0
  have KP100 : Keep h0 h100 [a0] := (Keep.refl h0 [a0]).wr W100 (Or.inl (List.mem_of_getElem? (i := 0) rfl))
  have SZ100 : h0.size ≤ h100.size := KP100.1
  have Z100 : n0 ≤ h100.size := Nat.le_trans Z0 SZ100
  obtain ⟨T101, X101, e101, st101⟩ := getS2 X100 hx hZ hown (host := "") (Or.inl (ow hw 103 rfl)) Via.refl e100 (S_lo.wr W100) (g := (mkF m 47 #[vr a0, vi (((0 : Int32) <<< ((1 : Int32) &&& 31)) + (1 : Int32)), vi p2] [(.int p2), (.int (((0 : Int32) <<< ((1 : Int32) &&& 31)) + (1 : Int32))), (.ref a0)])) rfl (hb hby od138)
  have Vc102 := V_a0_100
  obtain ⟨cl102, Ar102, q102, S102, N_102, H102, G102⟩ := Vc102
  have hin102 : ¬ ((((0 : Int32) <<< ((1 : Int32) &&& 31)) + (1 : Int32)) < 0 ∨ cl102.slots.size ≤ ((((0 : Int32) <<< ((1 : Int32) &&& 31)) + (1 : Int32))).toNatClampNeg) := inb_of S102 ⟨by decide, by decide⟩
  obtain ⟨T103, h103, X103, e103, W103, st103⟩ := stB X101 hx hZ e101 Ar102 (j := (((0 : Int32) <<< ((1 : Int32) &&& 31)) + (1 : Int32))) hin102 (g := (mkF m 52 #[vr a0, vi (((0 : Int32) <<< ((1 : Int32) &&& 31)) + (1 : Int32)), vi p2] [(.int ((p2 >>> ((8 : Int32) &&& 31)).toInt8.toInt32)), (.int (((0 : Int32) <<< ((1 : Int32) &&& 31)) + (1 : Int32))), (.ref a0)])) rfl rfl (hb hby od141)
  have V_a0_103 : Arv Z h103 a0 kb1 .byte (4 : Int32) [(.int (nar .byte ((p2 >>> ((0 : Int32) &&& 31)).toInt8.toInt32))), (.int (nar .byte ((p2 >>> ((8 : Int32) &&& 31)).toInt8.toInt32))), (.int x2), (.int x3)] (.int 0) := Arv.set Ar102 q102 S102 N_102 H102 G102 (fits_nar_byte _) W103 1 rfl (Nat.le_of_ble_eq_true rfl)
  have N103 := Fr.snoc X103 N100 g0
  have KP103 : Keep h0 h103 [a0] := KP100.wr W103 (Or.inl (List.mem_of_getElem? (i := 0) rfl))
  have SZ103 : h0.size ≤ h103.size := KP103.1
  have Z103 : n0 ≤ h103.size := Nat.le_trans Z0 SZ103
  obtain ⟨fs, hr, hrun, hended, hW, hsame⟩ := X103.leave (v := none) (fun _ => rfl)
  refine ⟨_, _, pre0 _ ?_, hrun, hended, _, _, rfl, ?_, ⟨_, rfl⟩, hW, hsame.mono (by decide) (by decide)⟩
  · show Steps p.tables e below (s₁.setTop (mkF m 0 #[vr a0, vi 0, vi p2] [])) _
    refine st97 _ ?_
    refine XS.ifYes X97.here hx rfl (pc0 := 3) (pc' := 28) rfl (hb hby od122) rfl ((if0 _ _).trans (feq (by decide : ¬ ((1 : Int32) = (0 : Int32)))).2) (by decide) (by decide) ?_
    refine XS.iloadN X97.here hx rfl (hb hby od123) rfl ?_
    refine XS.iconst X97.here hx rfl (hb hby od124) ?_
    refine XS.ishl X97.here hx rfl (hb hby od125) rfl ?_
    refine XS.istoreN X97.here hx rfl (hb hby od126) rfl (l' := #[vr a0, vi ((0 : Int32) <<< ((1 : Int32) &&& 31)), vi p2]) rfl ?_
    refine XS.aloadN X97.here hx rfl (hb hby od127) rfl rfl ?_
    refine XS.iloadN X97.here hx rfl (hb hby od128) rfl ?_
    refine XS.iinc X97.here hx rfl (hb hby od129) rfl (l' := #[vr a0, vi (((0 : Int32) <<< ((1 : Int32) &&& 31)) + (1 : Int32)), vi p2]) rfl ?_
    refine XS.iloadN X97.here hx rfl (hb hby od130) rfl ?_
    refine st98 _ ?_
    refine XS.ishr X98.here hx rfl (hb hby od132) rfl ?_
    refine XS.i2b X98.here hx rfl (hb hby od133) rfl ?_
    refine st100 _ ?_
    refine XS.aloadN X100.here hx rfl (hb hby od135) rfl rfl ?_
    refine XS.iloadN X100.here hx rfl (hb hby od136) rfl ?_
    refine XS.iloadN X100.here hx rfl (hb hby od137) rfl ?_
    refine st101 _ ?_
    refine XS.ishr X101.here hx rfl (hb hby od139) rfl ?_
    refine XS.i2b X101.here hx rfl (hb hby od140) rfl ?_
    refine st103 _ ?_
    exact X103.returnOut hx Bd.returns (hb hby od142) hr
  · show Q_put2_0 Z a0 p2 kb1 x0 x1 x2 x3 h0 n0 _ T103.heap _
    rw [e103]
    exact ⟨rfl, N103, KP103, V_a0_103⟩
theorem own_ef_put2_1 (m : MethodId) (a0 : Addr) (p2 : Int32) : entryFrame m #[(.ref a0), (.int 1), (.int p2)] 3 = mkF m 0 #[vr a0, vi 1, vi p2] [] := by first | (simp [entryFrame, mkF, argsToLocals, Value.category]; done) | rfl
def Q_put2_1 (Z : State) (a0 : Addr) (p2 : Int32) (kb1 : ClassId) (x0 : Int32) (x1 : Int32) (x2 : Int32) (x3 : Int32) (h0 : Heap) (n0 : Nat) (v : Option Value) (h : Heap) (L : List Loc) : Prop := v = none ∧ Fr n0 L ∧ Keep h0 h [a0] ∧ Arv Z h a0 kb1 .byte (4 : Int32) [(.int x0), (.int x1), (.int (nar .byte ((p2 >>> ((0 : Int32) &&& 31)).toInt8.toInt32))), (.int (nar .byte ((p2 >>> ((8 : Int32) &&& 31)).toInt8.toInt32)))] (.int 0)
theorem rm_put2_1 (l : Launch) (Z : State) (a0' : Array Value) (hw : ∀ d ∈ tables_1, d.before a0' Z = true) (ws : List Jvm.Cond) (a0 : Addr) (p2 : Int32) (kb1 : ClassId) (x0 : Int32) (x1 : Int32) (x2 : Int32) (x3 : Int32) (h0 : Heap) (n0 : Nat) (Z0 : n0 ≤ h0.size) (VB : Arv Z h0 a0 kb1 .byte (4 : Int32) [(.int x0), (.int x1), (.int x2), (.int x3)] (.int 0)) (g0 : n0 ≤ a0) (S_ad : Sta Z h0 "java/lang/StringUTF16" "$assertionsDisabled" "Z" (.int 1)) (S_hi : Sta Z h0 "java/lang/StringUTF16" "HI_BYTE_SHIFT" "I" (.int 0)) (S_lo : Sta Z h0 "java/lang/StringUTF16" "LO_BYTE_SHIFT" "I" (.int 8)) :
    MF l nm14 jdk_52_method_4_code 3 none ws (⟨0, 0, 0, 0⟩ : Room) #[(.ref a0), (.int 1), (.int p2)] Z h0 (Q_put2_1 Z a0 p2 kb1 x0 x1 x2 x3 h0 n0) := by
  refine MetFree.of_bodySF (plainFor_of_name own_pn3) hisR ?_
  intro p e s m args below meth c s₁ Bd hml0 hP hK
  obtain ⟨rfl, hZ, hh⟩ := hP
  have hx := Bd.exec
  have hby := Bd.bytes
  have hml : c.maxLocals = 3 := hml0
  have hown : s.vm.findClass "java/lang/StringUTF16" = some m.cls := findClass_of_methodNamed Bd.named
  have hnm := (name_of_methodNamed Bd.named Bd.method).1
  have X0 : Stand p l e (⟨0, 0, 0, 0⟩ : Room) s m #[(.ref a0), (.int 1), (.int p2)] below meth c s₁ [] 0 0 := Stand.of_body Bd
  have e0 : s₁.heap = h0 := by rw [← hh, Bd.state]; rfl
  have N0 := Fr.nil n0
  have pre0 : PT p e below (s₁.setTop (mkF m 0 #[vr a0, vi 1, vi p2] [])) (s₁.setTop (entryFrame m #[(.ref a0), (.int 1), (.int p2)] 3)) := fun t k => castTop (own_ef_put2_1 m a0 p2) k
  obtain ⟨T104, X104, e104, st104⟩ := getS2 X0 hx hZ hown (host := "") (Or.inl (ow hw 101 rfl)) Via.refl e0 S_ad (g := (mkF m 0 #[vr a0, vi 1, vi p2] [])) rfl (hb hby od121)
  obtain ⟨T105, X105, e105, st105⟩ := getS2 X104 hx hZ hown (host := "") (Or.inl (ow hw 102 rfl)) Via.refl e104 S_hi (g := (mkF m 38 #[vr a0, vi (((1 : Int32) <<< ((1 : Int32) &&& 31)) + (1 : Int32)), vi p2] [(.int p2), (.int ((1 : Int32) <<< ((1 : Int32) &&& 31))), (.ref a0)])) rfl (hb hby od131)
  have Vc106 := VB
  obtain ⟨cl106, Ar106, q106, S106, N_106, H106, G106⟩ := Vc106
  have hin106 : ¬ (((1 : Int32) <<< ((1 : Int32) &&& 31)) < 0 ∨ cl106.slots.size ≤ (((1 : Int32) <<< ((1 : Int32) &&& 31))).toNatClampNeg) := inb_of S106 ⟨by decide, by decide⟩
  obtain ⟨T107, h107, X107, e107, W107, st107⟩ := stB X105 hx hZ e105 Ar106 (j := ((1 : Int32) <<< ((1 : Int32) &&& 31))) hin106 (g := (mkF m 43 #[vr a0, vi (((1 : Int32) <<< ((1 : Int32) &&& 31)) + (1 : Int32)), vi p2] [(.int ((p2 >>> ((0 : Int32) &&& 31)).toInt8.toInt32)), (.int ((1 : Int32) <<< ((1 : Int32) &&& 31))), (.ref a0)])) rfl rfl (hb hby od134)
  have V_a0_107 : Arv Z h107 a0 kb1 .byte (4 : Int32) [(.int x0), (.int x1), (.int (nar .byte ((p2 >>> ((0 : Int32) &&& 31)).toInt8.toInt32))), (.int x3)] (.int 0) := Arv.set Ar106 q106 S106 N_106 H106 G106 (fits_nar_byte _) W107 2 rfl (Nat.le_of_ble_eq_true rfl)
  have N107 := Fr.snoc X107 N0 g0
  have KP107 : Keep h0 h107 [a0] := (Keep.refl h0 [a0]).wr W107 (Or.inl (List.mem_of_getElem? (i := 0) rfl))
  have SZ107 : h0.size ≤ h107.size := KP107.1
  have Z107 : n0 ≤ h107.size := Nat.le_trans Z0 SZ107
  obtain ⟨T108, X108, e108, st108⟩ := getS2 X107 hx hZ hown (host := "") (Or.inl (ow hw 103 rfl)) Via.refl e107 (S_lo.wr W107) (g := (mkF m 47 #[vr a0, vi (((1 : Int32) <<< ((1 : Int32) &&& 31)) + (1 : Int32)), vi p2] [(.int p2), (.int (((1 : Int32) <<< ((1 : Int32) &&& 31)) + (1 : Int32))), (.ref a0)])) rfl (hb hby od138)
  have Vc109 := V_a0_107
  obtain ⟨cl109, Ar109, q109, S109, N_109, H109, G109⟩ := Vc109
  have hin109 : ¬ ((((1 : Int32) <<< ((1 : Int32) &&& 31)) + (1 : Int32)) < 0 ∨ cl109.slots.size ≤ ((((1 : Int32) <<< ((1 : Int32) &&& 31)) + (1 : Int32))).toNatClampNeg) := inb_of S109 ⟨by decide, by decide⟩
  obtain ⟨T110, h110, X110, e110, W110, st110⟩ := stB X108 hx hZ e108 Ar109 (j := (((1 : Int32) <<< ((1 : Int32) &&& 31)) + (1 : Int32))) hin109 (g := (mkF m 52 #[vr a0, vi (((1 : Int32) <<< ((1 : Int32) &&& 31)) + (1 : Int32)), vi p2] [(.int ((p2 >>> ((8 : Int32) &&& 31)).toInt8.toInt32)), (.int (((1 : Int32) <<< ((1 : Int32) &&& 31)) + (1 : Int32))), (.ref a0)])) rfl rfl (hb hby od141)
  have V_a0_110 : Arv Z h110 a0 kb1 .byte (4 : Int32) [(.int x0), (.int x1), (.int (nar .byte ((p2 >>> ((0 : Int32) &&& 31)).toInt8.toInt32))), (.int (nar .byte ((p2 >>> ((8 : Int32) &&& 31)).toInt8.toInt32)))] (.int 0) := Arv.set Ar109 q109 S109 N_109 H109 G109 (fits_nar_byte _) W110 3 rfl (Nat.le_of_ble_eq_true rfl)
  have N110 := Fr.snoc X110 N107 g0
  have KP110 : Keep h0 h110 [a0] := KP107.wr W110 (Or.inl (List.mem_of_getElem? (i := 0) rfl))
  have SZ110 : h0.size ≤ h110.size := KP110.1
  have Z110 : n0 ≤ h110.size := Nat.le_trans Z0 SZ110
  obtain ⟨fs, hr, hrun, hended, hW, hsame⟩ := X110.leave (v := none) (fun _ => rfl)
  refine ⟨_, _, pre0 _ ?_, hrun, hended, _, _, rfl, ?_, ⟨_, rfl⟩, hW, hsame.mono (by decide) (by decide)⟩
  · show Steps p.tables e below (s₁.setTop (mkF m 0 #[vr a0, vi 1, vi p2] [])) _
    refine st104 _ ?_
    refine XS.ifYes X104.here hx rfl (pc0 := 3) (pc' := 28) rfl (hb hby od122) rfl ((if0 _ _).trans (feq (by decide : ¬ ((1 : Int32) = (0 : Int32)))).2) (by decide) (by decide) ?_
    refine XS.iloadN X104.here hx rfl (hb hby od123) rfl ?_
    refine XS.iconst X104.here hx rfl (hb hby od124) ?_
    refine XS.ishl X104.here hx rfl (hb hby od125) rfl ?_
    refine XS.istoreN X104.here hx rfl (hb hby od126) rfl (l' := #[vr a0, vi ((1 : Int32) <<< ((1 : Int32) &&& 31)), vi p2]) rfl ?_
    refine XS.aloadN X104.here hx rfl (hb hby od127) rfl rfl ?_
    refine XS.iloadN X104.here hx rfl (hb hby od128) rfl ?_
    refine XS.iinc X104.here hx rfl (hb hby od129) rfl (l' := #[vr a0, vi (((1 : Int32) <<< ((1 : Int32) &&& 31)) + (1 : Int32)), vi p2]) rfl ?_
    refine XS.iloadN X104.here hx rfl (hb hby od130) rfl ?_
    refine st105 _ ?_
    refine XS.ishr X105.here hx rfl (hb hby od132) rfl ?_
    refine XS.i2b X105.here hx rfl (hb hby od133) rfl ?_
    refine st107 _ ?_
    refine XS.aloadN X107.here hx rfl (hb hby od135) rfl rfl ?_
    refine XS.iloadN X107.here hx rfl (hb hby od136) rfl ?_
    refine XS.iloadN X107.here hx rfl (hb hby od137) rfl ?_
    refine st108 _ ?_
    refine XS.ishr X108.here hx rfl (hb hby od139) rfl ?_
    refine XS.i2b X108.here hx rfl (hb hby od140) rfl ?_
    refine st110 _ ?_
    exact X110.returnOut hx Bd.returns (hb hby od142) hr
  · show Q_put2_1 Z a0 p2 kb1 x0 x1 x2 x3 h0 n0 _ T110.heap _
    rw [e110]
    exact ⟨rfl, N110, KP110, V_a0_110⟩
theorem own_ef_tob2 (m : MethodId) (a0 : Addr) : entryFrame m #[(.ref a0), (.int 0), (.int 2)] 5 = mkF m 0 #[vr a0, vi 0, vi 2, .unset, .unset] [] := by first | (simp [entryFrame, mkF, argsToLocals, Value.category]; done) | rfl
def Q_tob2 (Z : State) (a0 : Addr) (kc1 : ClassId) (c0 : Int32) (c1 : Int32) (h0 : Heap) (n0 : Nat) (v : Option Value) (h : Heap) (L : List Loc) : Prop := ∃ (r : Addr) (k : ClassId), v = some (.ref r) ∧ Fr n0 L ∧ Ext h0 h ∧ h0.size ≤ r ∧ Arv Z h r k .byte (4 : Int32) [(.int (nar .byte ((c0 >>> ((0 : Int32) &&& 31)).toInt8.toInt32))), (.int (nar .byte ((c0 >>> ((8 : Int32) &&& 31)).toInt8.toInt32))), (.int (nar .byte ((c1 >>> ((0 : Int32) &&& 31)).toInt8.toInt32))), (.int (nar .byte ((c1 >>> ((8 : Int32) &&& 31)).toInt8.toInt32)))] (.int 0)
theorem rm_tob2 (l : Launch) (Z : State) (a0' : Array Value) (hw : ∀ d ∈ tables_1, d.before a0' Z = true) (ws : List Jvm.Cond) (a0 : Addr) (kc1 : ClassId) (c0 : Int32) (c1 : Int32) (h0 : Heap) (n0 : Nat) (Z0 : n0 ≤ h0.size) (VA : Arv Z h0 a0 kc1 .char (2 : Int32) [(.int c0), (.int c1)] (.int 0)) (S_ad : Sta Z h0 "java/lang/StringUTF16" "$assertionsDisabled" "Z" (.int 1)) (S_hi : Sta Z h0 "java/lang/StringUTF16" "HI_BYTE_SHIFT" "I" (.int 0)) (S_lo : Sta Z h0 "java/lang/StringUTF16" "LO_BYTE_SHIFT" "I" (.int 8)) :
    MF l nm15 jdk_52_method_14_code 5 (some (.array .byte)) ws (⟨2, 1, 4, 24⟩ : Room) #[(.ref a0), (.int 0), (.int 2)] Z h0 (Q_tob2 Z a0 kc1 c0 c1 h0 n0) := by
  refine MetFree.of_bodySF (plainFor_of_name own_pn3) hisR ?_
  intro p e s m args below meth c s₁ Bd hml0 hP hK
  obtain ⟨rfl, hZ, hh⟩ := hP
  have hx := Bd.exec
  have hby := Bd.bytes
  have hml : c.maxLocals = 5 := hml0
  have hown : s.vm.findClass "java/lang/StringUTF16" = some m.cls := findClass_of_methodNamed Bd.named
  have hnm := (name_of_methodNamed Bd.named Bd.method).1
  have X0 : Stand p l e (⟨2, 1, 4, 24⟩ : Room) s m #[(.ref a0), (.int 0), (.int 2)] below meth c s₁ [] 0 0 := Stand.of_body Bd
  have e0 : s₁.heap = h0 := by rw [← hh, Bd.state]; rfl
  have N0 := Fr.nil n0
  have pre0 : PT p e below (s₁.setTop (mkF m 0 #[vr a0, vi 0, vi 2, .unset, .unset] [])) (s₁.setTop (entryFrame m #[(.ref a0), (.int 0), (.int 2)] 5)) := fun t k => castTop (own_ef_tob2 m a0) k
  obtain ⟨_, _, ⟨T111, L111, k111, n111⟩, -, X111, ⟨Lc111, hQ111, l111, y111, z111⟩, st111⟩ := Jvm.LawKit.callS X0 hx (y := nm13) hown (mvT hZ (ow hw 91 rfl)) (mvT hZ (ow hw 92 rfl)) (mvT hZ (ow hw 41 rfl)) (mvT hZ (ow hw 93 rfl)) (by decide) (backOf (W := 0) (rm_nbf2 l Z a0' hw []  h0 n0 Z0) hZ (ow hw 93 rfl) (ow hw 41 rfl) (by decide) (by decide)) (g := (mkF m 1 #[vr a0, vi 0, vi 2, .unset, .unset] [(.int 2)])) rfl (by rw [hml]; rfl) (argsL := [(.int 2)]) (rest := []) (lenOf own_pd8 rfl) rfl (by show 2 * 0 + _ ≤ _; exact Nat.le_of_eq rfl) (hb hby od144) (fun _ _ => ⟨rfl, e0, (by decide : 0 + 1 ≤ _), (by decide : 0 + 4 ≤ _)⟩)
  dsimp only [Pt.U, Pt.locs, Pt.cells, Pt.slots] at X111 l111 y111 z111 st111 hQ111
  subst l111 y111 z111
  obtain ⟨r111, kk111, rfl, N111q, E111, zz111, V111⟩ := hQ111
  have N111 := Fr.app N0 N111q
  have ne111_a0_r111 : a0 ≠ r111 := Nat.ne_of_lt (Nat.lt_of_lt_of_le VA.lt zz111)
  have g_r111 : n0 ≤ r111 := Nat.le_trans Z0 zz111
  have sz_r111 : h0.size ≤ r111 := Nat.le_trans (Nat.le_refl _) zz111
  have EX111 : Ext h0 T111.heap := E111
  have SZ111 : h0.size ≤ T111.heap.size := EX111.1
  have Z111 : n0 ≤ T111.heap.size := Nat.le_trans Z0 SZ111
  have fx112 := (VA.ext E111)
  have Vc113 := fx112
  obtain ⟨cl113, Ar113, q113, S113, N_113, H113, G113⟩ := Vc113
  have hin113 : ¬ ((0 : Int32) < 0 ∨ cl113.slots.size ≤ ((0 : Int32)).toNatClampNeg) := inb_of S113 ⟨by decide, by decide⟩
  have hat113 : cl113.slots[((0 : Int32)).toNatClampNeg]? = some (.int c0) := H113 0 (by rw [S113]; decide)
  obtain ⟨_, _, ⟨T114, L114, k114, n114⟩, -, X114, ⟨Lc114, hQ114, l114, y114, z114⟩, st114⟩ := Jvm.LawKit.callS X111 hx (y := nm14) hown (mvT hZ (ow hw 98 rfl)) (mvT hZ (ow hw 99 rfl)) (mvT hZ (ow hw 41 rfl)) (mvT hZ (ow hw 100 rfl)) (by decide) (backOf (W := 0) (rm_put2_0 l Z a0' hw [] r111 c0 kk111 (0 : Int32) (0 : Int32) (0 : Int32) (0 : Int32) T111.heap n0 Z111 V111 g_r111 (S_ad.ext EX111) (S_hi.ext EX111) (S_lo.ext EX111)) hZ (ow hw 100 rfl) (ow hw 41 rfl) (by decide) (by decide)) (g := (mkF m 20 #[vr a0, vi 0, vi 2, vr r111, vi 0] [(.int c0), (.int 0), (.ref r111)])) rfl (by rw [hml]; rfl) (argsL := [(.ref r111), (.int 0), (.int c0)]) (rest := []) (lenOf own_pd9 rfl) rfl (by show 2 * 0 + _ ≤ _; exact Nat.le_of_eq rfl) (hb hby od156) (fun _ _ => ⟨rfl, rfl, (by decide : 1 + 0 ≤ _), (by decide : 4 + 0 ≤ _)⟩)
  dsimp only [Pt.U, Pt.locs, Pt.cells, Pt.slots] at X114 l114 y114 z114 st114 hQ114
  subst l114 y114 z114
  obtain ⟨rfl, N114q, K114, V114⟩ := hQ114
  have N114 := Fr.app N111 N114q
  have EX114 : Ext h0 T114.heap := own_extkeep EX111 K114 sz_r111
  have SZ114 : h0.size ≤ T114.heap.size := EX114.1
  have Z114 : n0 ≤ T114.heap.size := Nat.le_trans Z0 SZ114
  have fx115 := (fx112.keep K114 (ninS ne111_a0_r111 nin0))
  have Vc116 := fx115
  obtain ⟨cl116, Ar116, q116, S116, N_116, H116, G116⟩ := Vc116
  have hin116 : ¬ (((0 : Int32) + (1 : Int32)) < 0 ∨ cl116.slots.size ≤ (((0 : Int32) + (1 : Int32))).toNatClampNeg) := inb_of S116 ⟨by decide, by decide⟩
  have hat116 : cl116.slots[(((0 : Int32) + (1 : Int32))).toNatClampNeg]? = some (.int c1) := H116 1 (by rw [S116]; decide)
  obtain ⟨_, _, ⟨T117, L117, k117, n117⟩, -, X117, ⟨Lc117, hQ117, l117, y117, z117⟩, st117⟩ := Jvm.LawKit.callS X114 hx (y := nm14) hown (mvT hZ (ow hw 98 rfl)) (mvT hZ (ow hw 99 rfl)) (mvT hZ (ow hw 41 rfl)) (mvT hZ (ow hw 100 rfl)) (by decide) (backOf (W := 0) (rm_put2_1 l Z a0' hw [] r111 c1 kk111 (nar .byte ((c0 >>> ((0 : Int32) &&& 31)).toInt8.toInt32)) (nar .byte ((c0 >>> ((8 : Int32) &&& 31)).toInt8.toInt32)) (0 : Int32) (0 : Int32) T114.heap n0 Z114 V114 g_r111 (S_ad.ext EX114) (S_hi.ext EX114) (S_lo.ext EX114)) hZ (ow hw 100 rfl) (ow hw 41 rfl) (by decide) (by decide)) (g := (mkF m 20 #[vr a0, vi ((0 : Int32) + (1 : Int32)), vi 2, vr r111, vi ((0 : Int32) + (1 : Int32))] [(.int c1), (.int ((0 : Int32) + (1 : Int32))), (.ref r111)])) rfl (by rw [hml]; rfl) (argsL := [(.ref r111), (.int ((0 : Int32) + (1 : Int32))), (.int c1)]) (rest := []) (lenOf own_pd9 rfl) rfl (by show 2 * 0 + _ ≤ _; exact Nat.le_of_eq rfl) (hb hby od156) (fun _ _ => ⟨rfl, rfl, (by decide : 1 + 0 ≤ _), (by decide : 4 + 0 ≤ _)⟩)
  dsimp only [Pt.U, Pt.locs, Pt.cells, Pt.slots] at X117 l117 y117 z117 st117 hQ117
  subst l117 y117 z117
  obtain ⟨rfl, N117q, K117, V117⟩ := hQ117
  have N117 := Fr.app N114 N117q
  have EX117 : Ext h0 T117.heap := own_extkeep EX114 K117 sz_r111
  have SZ117 : h0.size ≤ T117.heap.size := EX117.1
  have Z117 : n0 ≤ T117.heap.size := Nat.le_trans Z0 SZ117
  obtain ⟨fs, hr, hrun, hended, hW, hsame⟩ := X117.leave (v := some (.ref r111)) (fun h => by rw [Bd.returns] at h; cases h)
  refine ⟨_, _, pre0 _ ?_, hrun, hended, _, _, rfl, ?_, ⟨_, rfl⟩, hW, hsame.mono (by decide) (by decide)⟩
  · show Steps p.tables e below (s₁.setTop (mkF m 0 #[vr a0, vi 0, vi 2, .unset, .unset] [])) _
    refine XS.iloadN X0.here hx rfl (hb hby od143) rfl ?_
    refine st111 _ ?_
    refine XS.astoreN X111.here hx rfl (hb hby od145) rfl rfl (l' := #[vr a0, vi 0, vi 2, vr r111, .unset]) rfl ?_
    refine XS.iconst X111.here hx rfl (hb hby od146) ?_
    refine XS.istore X111.here hx rfl (hb hby od147) rfl (l' := #[vr a0, vi 0, vi 2, vr r111, vi 0]) rfl ?_
    refine XS.iload X111.here hx rfl (hb hby od148) rfl ?_
    refine XS.iloadN X111.here hx rfl (hb hby od149) rfl ?_
    refine XS.icmpNo X111.here hx rfl (hb hby od150) rfl (tlt (by decide : (0 : Int32) < (2 : Int32))).2.1 ?_
    refine XS.aloadN X111.here hx rfl (hb hby od151) rfl rfl ?_
    refine XS.iload X111.here hx rfl (hb hby od152) rfl ?_
    refine XS.aloadN X111.here hx rfl (hb hby od153) rfl rfl ?_
    refine XS.iloadN X111.here hx rfl (hb hby od154) rfl ?_
    refine X111.caload hx (j := (0 : Int32)) (v := (.int c0)) (by exact Ar113.1) (State.isArrayOf_alike hZ.alike Ar113.2.1) Ar113.2.2 hin113 hat113 (g := (mkF m 19 #[vr a0, vi 0, vi 2, vr r111, vi 0] [(.int 0), (.ref a0), (.int 0), (.ref r111)])) rfl rfl (hb hby od155) _ ?_
    refine st114 _ ?_
    refine XS.iinc X114.here hx rfl (hb hby od157) rfl (l' := #[vr a0, vi ((0 : Int32) + (1 : Int32)), vi 2, vr r111, vi 0]) rfl ?_
    refine XS.iinc X114.here hx rfl (hb hby od158) rfl (l' := #[vr a0, vi ((0 : Int32) + (1 : Int32)), vi 2, vr r111, vi ((0 : Int32) + (1 : Int32))]) rfl ?_
    refine XS.goto X114.here hx rfl (pc0 := 29) (pc' := 8) rfl (hb hby od159) (by decide) (by decide) ?_
    refine XS.iload X114.here hx rfl (hb hby od148) rfl ?_
    refine XS.iloadN X114.here hx rfl (hb hby od149) rfl ?_
    refine XS.icmpNo X114.here hx rfl (hb hby od150) rfl (tlt (by decide : ((0 : Int32) + (1 : Int32)) < (2 : Int32))).2.1 ?_
    refine XS.aloadN X114.here hx rfl (hb hby od151) rfl rfl ?_
    refine XS.iload X114.here hx rfl (hb hby od152) rfl ?_
    refine XS.aloadN X114.here hx rfl (hb hby od153) rfl rfl ?_
    refine XS.iloadN X114.here hx rfl (hb hby od154) rfl ?_
    refine X114.caload hx (j := ((0 : Int32) + (1 : Int32))) (v := (.int c1)) (by exact Ar116.1) (State.isArrayOf_alike hZ.alike Ar116.2.1) Ar116.2.2 hin116 hat116 (g := (mkF m 19 #[vr a0, vi ((0 : Int32) + (1 : Int32)), vi 2, vr r111, vi ((0 : Int32) + (1 : Int32))] [(.int ((0 : Int32) + (1 : Int32))), (.ref a0), (.int ((0 : Int32) + (1 : Int32))), (.ref r111)])) rfl rfl (hb hby od155) _ ?_
    refine st117 _ ?_
    refine XS.iinc X117.here hx rfl (hb hby od157) rfl (l' := #[vr a0, vi (((0 : Int32) + (1 : Int32)) + (1 : Int32)), vi 2, vr r111, vi ((0 : Int32) + (1 : Int32))]) rfl ?_
    refine XS.iinc X117.here hx rfl (hb hby od158) rfl (l' := #[vr a0, vi (((0 : Int32) + (1 : Int32)) + (1 : Int32)), vi 2, vr r111, vi (((0 : Int32) + (1 : Int32)) + (1 : Int32))]) rfl ?_
    refine XS.goto X117.here hx rfl (pc0 := 29) (pc' := 8) rfl (hb hby od159) (by decide) (by decide) ?_
    refine XS.iload X117.here hx rfl (hb hby od148) rfl ?_
    refine XS.iloadN X117.here hx rfl (hb hby od149) rfl ?_
    refine XS.icmpYes X117.here hx rfl (pc0 := 11) (pc' := 32) rfl (hb hby od150) rfl (flt (by decide : ¬ ((((0 : Int32) + (1 : Int32)) + (1 : Int32)) < (2 : Int32)))).2.1 (by decide) (by decide) ?_
    refine XS.aloadN X117.here hx rfl (hb hby od160) rfl rfl ?_
    exact own_retA X117 hx Bd.returns rfl rfl rfl (hb hby od161) hr
  · show Q_tob2 Z a0 kc1 c0 c1 h0 n0 _ T117.heap _
    exact ⟨_, _, rfl, N117, EX117, sz_r111, V117⟩
theorem own_ef_cmpI2_0 (m : MethodId) (a0 : Addr) (a2 : Addr) : entryFrame m #[(.ref a0), (.int 0), (.ref a2), (.int 0), (.int 2)] 7 = mkF m 0 #[vr a0, vi 0, vr a2, vi 0, vi 2, .unset, .unset] [] := by first | (simp [entryFrame, mkF, argsToLocals, Value.category]; done) | rfl
def Q_cmpI2_0 (Z : State) (a0 : Addr) (a2 : Addr) (kc1 : ClassId) (c0 : Int32) (c1 : Int32) (kb1 : ClassId) (h0 : Heap) (n0 : Nat) (v : Option Value) (h : Heap) (L : List Loc) : Prop := v = some (.int 0) ∧ Fr n0 L ∧ Keep h0 h [a2]
theorem rm_cmpI2_0 (l : Launch) (Z : State) (a0' : Array Value) (hw : ∀ d ∈ tables_1, d.before a0' Z = true) (ws : List Jvm.Cond) (a0 : Addr) (a2 : Addr) (kc1 : ClassId) (c0 : Int32) (c1 : Int32) (kb1 : ClassId) (h0 : Heap) (n0 : Nat) (Z0 : n0 ≤ h0.size) (VA : Arv Z h0 a0 kc1 .char (2 : Int32) [(.int c0), (.int c1)] (.int 0)) (VB : Arv Z h0 a2 kb1 .byte (2 : Int32) [(.int 0), (.int 0)] (.int 0)) (nab : a0 ≠ a2) (g2 : n0 ≤ a2) (hc_c0 : (255 : Int32) < c0) :
    MF l nm16 jdk_52_method_21_code 7 (some .int) ws (⟨0, 0, 0, 0⟩ : Room) #[(.ref a0), (.int 0), (.ref a2), (.int 0), (.int 2)] Z h0 (Q_cmpI2_0 Z a0 a2 kc1 c0 c1 kb1 h0 n0) := by
  refine MetFree.of_bodySF (plainFor_of_name own_pn3) hisR ?_
  intro p e s m args below meth c s₁ Bd hml0 hP hK
  obtain ⟨rfl, hZ, hh⟩ := hP
  have hx := Bd.exec
  have hby := Bd.bytes
  have hml : c.maxLocals = 7 := hml0
  have hown : s.vm.findClass "java/lang/StringUTF16" = some m.cls := findClass_of_methodNamed Bd.named
  have hnm := (name_of_methodNamed Bd.named Bd.method).1
  have X0 : Stand p l e (⟨0, 0, 0, 0⟩ : Room) s m #[(.ref a0), (.int 0), (.ref a2), (.int 0), (.int 2)] below meth c s₁ [] 0 0 := Stand.of_body Bd
  have e0 : s₁.heap = h0 := by rw [← hh, Bd.state]; rfl
  have N0 := Fr.nil n0
  have pre0 : PT p e below (s₁.setTop (mkF m 0 #[vr a0, vi 0, vr a2, vi 0, vi 2, .unset, .unset] [])) (s₁.setTop (entryFrame m #[(.ref a0), (.int 0), (.ref a2), (.int 0), (.int 2)] 7)) := fun t k => castTop (own_ef_cmpI2_0 m a0 a2) k
  have Vc118 := VA
  obtain ⟨cl118, Ar118, q118, S118, N_118, H118, G118⟩ := Vc118
  have hin118 : ¬ ((0 : Int32) < 0 ∨ cl118.slots.size ≤ ((0 : Int32)).toNatClampNeg) := inb_of S118 ⟨by decide, by decide⟩
  have hat118 : cl118.slots[((0 : Int32)).toNatClampNeg]? = some (.int c0) := H118 0 (by rw [S118]; decide)
  obtain ⟨fs, hr, hrun, hended, hW, hsame⟩ := X0.leave (v := some (.int 0)) (fun h => by rw [Bd.returns] at h; cases h)
  refine ⟨_, _, pre0 _ ?_, hrun, hended, _, _, rfl, ?_, ⟨_, rfl⟩, hW, hsame.mono (by decide) (by decide)⟩
  · show Steps p.tables e below (s₁.setTop (mkF m 0 #[vr a0, vi 0, vr a2, vi 0, vi 2, .unset, .unset] [])) _
    refine XS.iconst X0.here hx rfl (hb hby od162) ?_
    refine XS.istore X0.here hx rfl (hb hby od163) rfl (l' := #[vr a0, vi 0, vr a2, vi 0, vi 2, vi 0, .unset]) rfl ?_
    refine XS.iload X0.here hx rfl (hb hby od164) rfl ?_
    refine XS.iload X0.here hx rfl (hb hby od165) rfl ?_
    refine XS.icmpNo X0.here hx rfl (hb hby od166) rfl (tlt (by decide : (0 : Int32) < (2 : Int32))).2.1 ?_
    refine XS.aloadN X0.here hx rfl (hb hby od167) rfl rfl ?_
    refine XS.iloadN X0.here hx rfl (hb hby od168) rfl ?_
    refine X0.caload hx (j := (0 : Int32)) (v := (.int c0)) (by rw [e0]; exact Ar118.1) (State.isArrayOf_alike hZ.alike Ar118.2.1) Ar118.2.2 hin118 hat118 (g := (mkF m 12 #[vr a0, vi 0, vr a2, vi 0, vi 2, vi 0, .unset] [(.int 0), (.ref a0)])) rfl rfl (hb hby od169) _ ?_
    refine XS.istore X0.here hx rfl (hb hby od170) rfl (l' := #[vr a0, vi 0, vr a2, vi 0, vi 2, vi 0, vi c0]) rfl ?_
    refine XS.iload X0.here hx rfl (hb hby od171) rfl ?_
    refine XS.sipush X0.here hx rfl (hb hby od172) ?_
    refine XS.icmpNo X0.here hx rfl (hb hby od173) rfl (tlt hc_c0).2.2.2 ?_
    refine XS.iload X0.here hx rfl (hb hby od174) rfl ?_
    exact own_retI X0 hx Bd.returns (hb hby od175) hr
  · show Q_cmpI2_0 Z a0 a2 kc1 c0 c1 kb1 h0 n0 _ s₁.heap _
    rw [e0]
    exact ⟨rfl, N0, (Keep.refl h0 [a2])⟩
theorem own_ef_cmpA2_0 (m : MethodId) (a0 : Addr) : entryFrame m #[(.ref a0), (.int 0), (.int 2)] 6 = mkF m 0 #[vr a0, vi 0, vi 2, .unset, .unset, .unset] [] := by first | (simp [entryFrame, mkF, argsToLocals, Value.category]; done) | rfl
def Q_cmpA2_0 (Z : State) (a0 : Addr) (kc1 : ClassId) (c0 : Int32) (c1 : Int32) (h0 : Heap) (n0 : Nat) (v : Option Value) (h : Heap) (L : List Loc) : Prop := ∃ (r : Addr) (k : ClassId), v = some (.ref r) ∧ Fr n0 L ∧ Ext h0 h ∧ h0.size ≤ r ∧ Arv Z h r k .byte (4 : Int32) [(.int (nar .byte ((c0 >>> ((0 : Int32) &&& 31)).toInt8.toInt32))), (.int (nar .byte ((c0 >>> ((8 : Int32) &&& 31)).toInt8.toInt32))), (.int (nar .byte ((c1 >>> ((0 : Int32) &&& 31)).toInt8.toInt32))), (.int (nar .byte ((c1 >>> ((8 : Int32) &&& 31)).toInt8.toInt32)))] (.int 0)
theorem rm_cmpA2_0 (l : Launch) (Z : State) (a0' : Array Value) (hw : ∀ d ∈ tables_1, d.before a0' Z = true) (ws : List Jvm.Cond) (a0 : Addr) (kc1 : ClassId) (c0 : Int32) (c1 : Int32) (h0 : Heap) (n0 : Nat) (Z0 : n0 ≤ h0.size) (VA : Arv Z h0 a0 kc1 .char (2 : Int32) [(.int c0), (.int c1)] (.int 0)) (hc_c0 : (255 : Int32) < c0) (hb_c0 : 0 ≤ c0.toInt ∧ c0.toInt ≤ 65535) (S_ad : Sta Z h0 "java/lang/StringUTF16" "$assertionsDisabled" "Z" (.int 1)) (S_hi : Sta Z h0 "java/lang/StringUTF16" "HI_BYTE_SHIFT" "I" (.int 0)) (S_lo : Sta Z h0 "java/lang/StringUTF16" "LO_BYTE_SHIFT" "I" (.int 8)) :
    MF l nm17 jdk_52_method_16_code 6 (some (.array .byte)) ws (⟨3, 2, 6, 40⟩ : Room) #[(.ref a0), (.int 0), (.int 2)] Z h0 (Q_cmpA2_0 Z a0 kc1 c0 c1 h0 n0) := by
  refine MetFree.of_bodySF (plainFor_of_name own_pn3) hisR ?_
  intro p e s m args below meth c s₁ Bd hml0 hP hK
  obtain ⟨rfl, hZ, hh⟩ := hP
  have hx := Bd.exec
  have hby := Bd.bytes
  have hml : c.maxLocals = 6 := hml0
  have hown : s.vm.findClass "java/lang/StringUTF16" = some m.cls := findClass_of_methodNamed Bd.named
  have hnm := (name_of_methodNamed Bd.named Bd.method).1
  have X0 : Stand p l e (⟨3, 2, 6, 40⟩ : Room) s m #[(.ref a0), (.int 0), (.int 2)] below meth c s₁ [] 0 0 := Stand.of_body Bd
  have e0 : s₁.heap = h0 := by rw [← hh, Bd.state]; rfl
  have N0 := Fr.nil n0
  have pre0 : PT p e below (s₁.setTop (mkF m 0 #[vr a0, vi 0, vi 2, .unset, .unset, .unset] [])) (s₁.setTop (entryFrame m #[(.ref a0), (.int 0), (.int 2)] 6)) := fun t k => castTop (own_ef_cmpA2_0 m a0) k
  obtain ⟨T119, h119, k119, X119, e119, E119, A119, st119⟩ := newP X0 hx hZ (ow hw 17 rfl) e0 (g := (mkF m 1 #[vr a0, vi 0, vi 2, .unset, .unset, .unset] [(.int 2)])) rfl (hb hby od177) rfl (by decide) (cap := 2) (by decide) (by decide) (by decide) (by decide)
  obtain ⟨b119, g119⟩ : ∃ z, z = h0.size := ⟨_, rfl⟩
  rw [← g119] at A119 st119
  have ne119_a0_b119 : a0 ≠ b119 := Nat.ne_of_lt (Nat.lt_of_lt_of_le VA.lt (Nat.le_of_eq g119.symm))
  have V_b119 : Arv Z h119 b119 k119 .byte (2 : Int32) [(.int 0), (.int 0)] (.int 0) := (Arv.new A119 (by decide)).pad (pad_rep [] (.int 0) 2)
  have g_b119 : n0 ≤ b119 := Nat.le_trans Z0 (Nat.le_of_eq g119.symm)
  have sz_b119 : h0.size ≤ b119 := Nat.le_trans (Nat.le_refl _) (Nat.le_of_eq g119.symm)
  have EX119 : Ext h0 h119 := E119
  have SZ119 : h0.size ≤ h119.size := EX119.1
  have Z119 : n0 ≤ h119.size := Nat.le_trans Z0 SZ119
  have fx121 := (VA.ext E119)
  obtain ⟨_, _, ⟨T120, L120, k120, n120⟩, -, X120, ⟨Lc120, hQ120, l120, y120, z120⟩, st120⟩ := Jvm.LawKit.callS X119 hx (y := nm16) hown (mvT hZ (ow hw 43 rfl)) (mvT hZ (ow hw 44 rfl)) (mvT hZ (ow hw 41 rfl)) (mvT hZ (ow hw 45 rfl)) (by decide) (backOf (W := 0) (rm_cmpI2_0 l Z a0' hw [] a0 b119 kc1 c0 c1 k119 h119 n0 Z119 fx121 V_b119 ne119_a0_b119 g_b119 hc_c0) hZ (ow hw 45 rfl) (ow hw 41 rfl) (by decide) (by decide)) (g := (mkF m 9 #[vr a0, vi 0, vi 2, vr b119, .unset, .unset] [(.int 2), (.int 0), (.ref b119), (.int 0), (.ref a0)])) rfl (by rw [hml]; rfl) (argsL := [(.ref a0), (.int 0), (.ref b119), (.int 0), (.int 2)]) (rest := []) (lenOf own_pd10 rfl) rfl (by show 2 * 0 + _ ≤ _; exact Nat.le_of_eq rfl) (hb hby od184) (fun _ _ => ⟨rfl, e119, (by decide : 1 + 0 ≤ _), (by decide : 2 + 0 ≤ _)⟩)
  dsimp only [Pt.U, Pt.locs, Pt.cells, Pt.slots] at X120 l120 y120 z120 st120 hQ120
  subst l120 y120 z120
  obtain ⟨rfl, N120q, K120⟩ := hQ120
  have N120 := Fr.app N0 N120q
  have EX120 : Ext h0 T120.heap := own_extkeep EX119 K120 sz_b119
  have SZ120 : h0.size ≤ T120.heap.size := EX120.1
  have Z120 : n0 ≤ T120.heap.size := Nat.le_trans Z0 SZ120
  have fx123 := (fx121.keep K120 (ninS ne119_a0_b119 nin0))
  obtain ⟨_, _, ⟨T122, L122, k122, n122⟩, -, X122, ⟨Lc122, hQ122, l122, y122, z122⟩, st122⟩ := Jvm.LawKit.callS X120 hx (y := nm15) hown (mvT hZ (ow hw 88 rfl)) (mvT hZ (ow hw 89 rfl)) (mvT hZ (ow hw 41 rfl)) (mvT hZ (ow hw 90 rfl)) (by decide) (backOf (W := 0) (rm_tob2 l Z a0' hw [] a0 kc1 c0 c1 T120.heap n0 Z120 fx123 (S_ad.ext EX120) (S_hi.ext EX120) (S_lo.ext EX120)) hZ (ow hw 90 rfl) (ow hw 41 rfl) (by decide) (by decide)) (g := (mkF m 23 #[vr a0, vi 0, vi 2, vr b119, vi 0, .unset] [(.int 2), (.int 0), (.ref a0)])) rfl (by rw [hml]; rfl) (argsL := [(.ref a0), (.int 0), (.int 2)]) (rest := []) (lenOf own_pd11 rfl) rfl (by show 2 * 0 + _ ≤ _; exact Nat.le_of_eq rfl) (hb hby od192) (fun _ _ => ⟨rfl, rfl, (by decide : 1 + 1 ≤ _), (by decide : 2 + 4 ≤ _)⟩)
  dsimp only [Pt.U, Pt.locs, Pt.cells, Pt.slots] at X122 l122 y122 z122 st122 hQ122
  subst l122 y122 z122
  obtain ⟨r122, kk122, rfl, N122q, E122, zz122, V122⟩ := hQ122
  have N122 := Fr.app N120 N122q
  have ne122_a0_r122 : a0 ≠ r122 := Nat.ne_of_lt (Nat.lt_of_lt_of_le fx123.lt zz122)
  have g_r122 : n0 ≤ r122 := Nat.le_trans Z120 zz122
  have sz_r122 : h0.size ≤ r122 := Nat.le_trans SZ120 zz122
  have EX122 : Ext h0 T122.heap := own_exttr EX120 E122
  have SZ122 : h0.size ≤ T122.heap.size := EX122.1
  have Z122 : n0 ≤ T122.heap.size := Nat.le_trans Z0 SZ122
  have Vc125 := V122
  obtain ⟨cl125, Ar125, q125, S125, N_125, H125, G125⟩ := Vc125
  obtain ⟨_, _, ⟨T124, L124, k124, n124⟩, -, X124, ⟨Lc124, hQ124, l124, y124, z124⟩, st124⟩ := Jvm.LawKit.callS X122 hx (y := nm5) hown (mvT hZ (ow hw 104 rfl)) (mvT hZ (ow hw 105 rfl)) (mvT hZ (ow hw 41 rfl)) (mvT hZ (ow hw 106 rfl)) (by decide) (backOf (W := 0) (rm_getC l Z a0' hw [] r122 (0 : Int32) cl125 (nar .byte ((c0 >>> ((0 : Int32) &&& 31)).toInt8.toInt32)) (nar .byte ((c0 >>> ((8 : Int32) &&& 31)).toInt8.toInt32)) T122.heap n0 Z122 Ar125 (inb_of S125 ⟨by decide, by decide⟩) (H125 0 (by rw [S125]; decide)) (inb_of S125 ⟨by decide, by decide⟩) (H125 1 (by rw [S125]; decide)) (S_ad.ext EX122) (S_hi.ext EX122) (S_lo.ext EX122)) hZ (ow hw 106 rfl) (ow hw 41 rfl) (by decide) (by decide)) (g := (mkF m 32 #[vr a0, vi 0, vi 2, vr b119, vi 0, vr r122] [(.int 0), (.ref r122)])) rfl (by rw [hml]; rfl) (argsL := [(.ref r122), (.int 0)]) (rest := []) (lenOf own_pd4 rfl) rfl (by show 2 * 0 + _ ≤ _; exact Nat.le_of_eq rfl) (hb hby od196) (fun _ _ => ⟨rfl, rfl, (by decide : 2 + 0 ≤ _), (by decide : 6 + 0 ≤ _)⟩)
  dsimp only [Pt.U, Pt.locs, Pt.cells, Pt.slots] at X124 l124 y124 z124 st124 hQ124
  subst l124 y124 z124
  obtain ⟨rfl, N124q, e124⟩ := hQ124
  have N124 := Fr.app N122 N124q
  have q124 : (F_getC (nar .byte ((c0 >>> ((0 : Int32) &&& 31)).toInt8.toInt32)) (nar .byte ((c0 >>> ((8 : Int32) &&& 31)).toInt8.toInt32))) = c0 := by unfold F_getC; exact own_getc c0 hb_c0
  rw [q124] at st124
  obtain ⟨fs, hr, hrun, hended, hW, hsame⟩ := X124.leave (v := some (.ref r122)) (fun h => by rw [Bd.returns] at h; cases h)
  refine ⟨_, _, pre0 _ ?_, hrun, hended, _, _, rfl, ?_, ⟨_, rfl⟩, hW, hsame.mono (by decide) (by decide)⟩
  · show Steps p.tables e below (s₁.setTop (mkF m 0 #[vr a0, vi 0, vi 2, .unset, .unset, .unset] [])) _
    refine XS.iloadN X0.here hx rfl (hb hby od176) rfl ?_
    refine st119 _ ?_
    refine XS.astoreN X119.here hx rfl (hb hby od178) rfl rfl (l' := #[vr a0, vi 0, vi 2, vr b119, .unset, .unset]) rfl ?_
    refine XS.aloadN X119.here hx rfl (hb hby od179) rfl rfl ?_
    refine XS.iloadN X119.here hx rfl (hb hby od180) rfl ?_
    refine XS.aloadN X119.here hx rfl (hb hby od181) rfl rfl ?_
    refine XS.iconst X119.here hx rfl (hb hby od182) ?_
    refine XS.iloadN X119.here hx rfl (hb hby od183) rfl ?_
    refine st120 _ ?_
    refine XS.istore X120.here hx rfl (hb hby od185) rfl (l' := #[vr a0, vi 0, vi 2, vr b119, vi 0, .unset]) rfl ?_
    refine XS.iload X120.here hx rfl (hb hby od186) rfl ?_
    refine XS.iloadN X120.here hx rfl (hb hby od187) rfl ?_
    refine XS.icmpNo X120.here hx rfl (hb hby od188) rfl (feq (by decide : ¬ ((0 : Int32) = (2 : Int32)))).1 ?_
    refine XS.aloadN X120.here hx rfl (hb hby od189) rfl rfl ?_
    refine XS.iloadN X120.here hx rfl (hb hby od190) rfl ?_
    refine XS.iloadN X120.here hx rfl (hb hby od191) rfl ?_
    refine st122 _ ?_
    refine XS.astore X122.here hx rfl (hb hby od193) rfl rfl (l' := #[vr a0, vi 0, vi 2, vr b119, vi 0, vr r122]) rfl ?_
    refine XS.aload X122.here hx rfl (hb hby od194) rfl rfl ?_
    refine XS.iload X122.here hx rfl (hb hby od195) rfl ?_
    refine st124 _ ?_
    refine XS.sipush X124.here hx rfl (hb hby od197) ?_
    refine XS.icmpYes X124.here hx rfl (pc0 := 38) (pc' := 54) rfl (hb hby od198) rfl (tlt hc_c0).2.2.1 (by decide) (by decide) ?_
    refine XS.aload X124.here hx rfl (hb hby od199) rfl rfl ?_
    exact own_retA X124 hx Bd.returns rfl rfl rfl (hb hby od200) hr
  · show Q_cmpA2_0 Z a0 kc1 c0 c1 h0 n0 _ T124.heap _
    rw [e124]
    exact ⟨_, _, rfl, N124, EX122, sz_r122, V122⟩
theorem own_ef_cmpI2_1 (m : MethodId) (a0 : Addr) (a2 : Addr) : entryFrame m #[(.ref a0), (.int 0), (.ref a2), (.int 0), (.int 2)] 7 = mkF m 0 #[vr a0, vi 0, vr a2, vi 0, vi 2, .unset, .unset] [] := by first | (simp [entryFrame, mkF, argsToLocals, Value.category]; done) | rfl
def Q_cmpI2_1 (Z : State) (a0 : Addr) (a2 : Addr) (kc1 : ClassId) (c0 : Int32) (c1 : Int32) (kb1 : ClassId) (h0 : Heap) (n0 : Nat) (v : Option Value) (h : Heap) (L : List Loc) : Prop := v = some (.int 1) ∧ Fr n0 L ∧ Keep h0 h [a2]
theorem rm_cmpI2_1 (l : Launch) (Z : State) (a0' : Array Value) (hw : ∀ d ∈ tables_1, d.before a0' Z = true) (ws : List Jvm.Cond) (a0 : Addr) (a2 : Addr) (kc1 : ClassId) (c0 : Int32) (c1 : Int32) (kb1 : ClassId) (h0 : Heap) (n0 : Nat) (Z0 : n0 ≤ h0.size) (VA : Arv Z h0 a0 kc1 .char (2 : Int32) [(.int c0), (.int c1)] (.int 0)) (VB : Arv Z h0 a2 kb1 .byte (2 : Int32) [(.int 0), (.int 0)] (.int 0)) (nab : a0 ≠ a2) (g2 : n0 ≤ a2) (hc_c0 : ¬ ((255 : Int32) < c0)) (hc_c1 : (255 : Int32) < c1) :
    MF l nm16 jdk_52_method_21_code 7 (some .int) ws (⟨0, 0, 0, 0⟩ : Room) #[(.ref a0), (.int 0), (.ref a2), (.int 0), (.int 2)] Z h0 (Q_cmpI2_1 Z a0 a2 kc1 c0 c1 kb1 h0 n0) := by
  refine MetFree.of_bodySF (plainFor_of_name own_pn3) hisR ?_
  intro p e s m args below meth c s₁ Bd hml0 hP hK
  obtain ⟨rfl, hZ, hh⟩ := hP
  have hx := Bd.exec
  have hby := Bd.bytes
  have hml : c.maxLocals = 7 := hml0
  have hown : s.vm.findClass "java/lang/StringUTF16" = some m.cls := findClass_of_methodNamed Bd.named
  have hnm := (name_of_methodNamed Bd.named Bd.method).1
  have X0 : Stand p l e (⟨0, 0, 0, 0⟩ : Room) s m #[(.ref a0), (.int 0), (.ref a2), (.int 0), (.int 2)] below meth c s₁ [] 0 0 := Stand.of_body Bd
  have e0 : s₁.heap = h0 := by rw [← hh, Bd.state]; rfl
  have N0 := Fr.nil n0
  have pre0 : PT p e below (s₁.setTop (mkF m 0 #[vr a0, vi 0, vr a2, vi 0, vi 2, .unset, .unset] [])) (s₁.setTop (entryFrame m #[(.ref a0), (.int 0), (.ref a2), (.int 0), (.int 2)] 7)) := fun t k => castTop (own_ef_cmpI2_1 m a0 a2) k
  have Vc126 := VA
  obtain ⟨cl126, Ar126, q126, S126, N_126, H126, G126⟩ := Vc126
  have hin126 : ¬ ((0 : Int32) < 0 ∨ cl126.slots.size ≤ ((0 : Int32)).toNatClampNeg) := inb_of S126 ⟨by decide, by decide⟩
  have hat126 : cl126.slots[((0 : Int32)).toNatClampNeg]? = some (.int c0) := H126 0 (by rw [S126]; decide)
  have Vc127 := VB
  obtain ⟨cl127, Ar127, q127, S127, N_127, H127, G127⟩ := Vc127
  have hin127 : ¬ ((0 : Int32) < 0 ∨ cl127.slots.size ≤ ((0 : Int32)).toNatClampNeg) := inb_of S127 ⟨by decide, by decide⟩
  obtain ⟨T128, h128, X128, e128, W128, st128⟩ := stB X0 hx hZ e0 Ar127 (j := (0 : Int32)) hin127 (g := (mkF m 31 #[vr a0, vi 0, vr a2, vi 0, vi 2, vi 0, vi c0] [(.int (c0.toInt8.toInt32)), (.int 0), (.ref a2)])) rfl rfl (hb hby od241)
  have V_a2_128 : Arv Z h128 a2 kb1 .byte (2 : Int32) [(.int (nar .byte (c0.toInt8.toInt32))), (.int 0)] (.int 0) := Arv.set Ar127 q127 S127 N_127 H127 G127 (fits_nar_byte _) W128 0 rfl (Nat.le_of_ble_eq_true rfl)
  have N128 := Fr.snoc X128 N0 g2
  have KP128 : Keep h0 h128 [a2] := (Keep.refl h0 [a2]).wr W128 (Or.inl (List.mem_of_getElem? (i := 0) rfl))
  have SZ128 : h0.size ≤ h128.size := KP128.1
  have Z128 : n0 ≤ h128.size := Nat.le_trans Z0 SZ128
  have fx129 := (VA.other W128 nab)
  have Vc130 := fx129
  obtain ⟨cl130, Ar130, q130, S130, N_130, H130, G130⟩ := Vc130
  have hin130 : ¬ (((0 : Int32) + (1 : Int32)) < 0 ∨ cl130.slots.size ≤ (((0 : Int32) + (1 : Int32))).toNatClampNeg) := inb_of S130 ⟨by decide, by decide⟩
  have hat130 : cl130.slots[(((0 : Int32) + (1 : Int32))).toNatClampNeg]? = some (.int c1) := H130 1 (by rw [S130]; decide)
  obtain ⟨fs, hr, hrun, hended, hW, hsame⟩ := X128.leave (v := some (.int ((0 : Int32) + (1 : Int32)))) (fun h => by rw [Bd.returns] at h; cases h)
  refine ⟨_, _, pre0 _ ?_, hrun, hended, _, _, rfl, ?_, ⟨_, rfl⟩, hW, hsame.mono (by decide) (by decide)⟩
  · show Steps p.tables e below (s₁.setTop (mkF m 0 #[vr a0, vi 0, vr a2, vi 0, vi 2, .unset, .unset] [])) _
    refine XS.iconst X0.here hx rfl (hb hby od162) ?_
    refine XS.istore X0.here hx rfl (hb hby od163) rfl (l' := #[vr a0, vi 0, vr a2, vi 0, vi 2, vi 0, .unset]) rfl ?_
    refine XS.iload X0.here hx rfl (hb hby od164) rfl ?_
    refine XS.iload X0.here hx rfl (hb hby od165) rfl ?_
    refine XS.icmpNo X0.here hx rfl (hb hby od166) rfl (tlt (by decide : (0 : Int32) < (2 : Int32))).2.1 ?_
    refine XS.aloadN X0.here hx rfl (hb hby od167) rfl rfl ?_
    refine XS.iloadN X0.here hx rfl (hb hby od168) rfl ?_
    refine X0.caload hx (j := (0 : Int32)) (v := (.int c0)) (by rw [e0]; exact Ar126.1) (State.isArrayOf_alike hZ.alike Ar126.2.1) Ar126.2.2 hin126 hat126 (g := (mkF m 12 #[vr a0, vi 0, vr a2, vi 0, vi 2, vi 0, .unset] [(.int 0), (.ref a0)])) rfl rfl (hb hby od169) _ ?_
    refine XS.istore X0.here hx rfl (hb hby od170) rfl (l' := #[vr a0, vi 0, vr a2, vi 0, vi 2, vi 0, vi c0]) rfl ?_
    refine XS.iload X0.here hx rfl (hb hby od171) rfl ?_
    refine XS.sipush X0.here hx rfl (hb hby od172) ?_
    refine XS.icmpYes X0.here hx rfl (pc0 := 20) (pc' := 26) rfl (hb hby od173) rfl (flt hc_c0).2.2.2 (by decide) (by decide) ?_
    refine XS.aloadN X0.here hx rfl (hb hby od237) rfl rfl ?_
    refine XS.iloadN X0.here hx rfl (hb hby od238) rfl ?_
    refine XS.iload X0.here hx rfl (hb hby od239) rfl ?_
    refine XS.i2b X0.here hx rfl (hb hby od240) rfl ?_
    refine st128 _ ?_
    refine XS.iinc X128.here hx rfl (hb hby od242) rfl (l' := #[vr a0, vi ((0 : Int32) + (1 : Int32)), vr a2, vi 0, vi 2, vi 0, vi c0]) rfl ?_
    refine XS.iinc X128.here hx rfl (hb hby od243) rfl (l' := #[vr a0, vi ((0 : Int32) + (1 : Int32)), vr a2, vi ((0 : Int32) + (1 : Int32)), vi 2, vi 0, vi c0]) rfl ?_
    refine XS.iinc X128.here hx rfl (hb hby od244) rfl (l' := #[vr a0, vi ((0 : Int32) + (1 : Int32)), vr a2, vi ((0 : Int32) + (1 : Int32)), vi 2, vi ((0 : Int32) + (1 : Int32)), vi c0]) rfl ?_
    refine XS.goto X128.here hx rfl (pc0 := 41) (pc' := 3) rfl (hb hby od245) (by decide) (by decide) ?_
    refine XS.iload X128.here hx rfl (hb hby od164) rfl ?_
    refine XS.iload X128.here hx rfl (hb hby od165) rfl ?_
    refine XS.icmpNo X128.here hx rfl (hb hby od166) rfl (tlt (by decide : ((0 : Int32) + (1 : Int32)) < (2 : Int32))).2.1 ?_
    refine XS.aloadN X128.here hx rfl (hb hby od167) rfl rfl ?_
    refine XS.iloadN X128.here hx rfl (hb hby od168) rfl ?_
    refine X128.caload hx (j := ((0 : Int32) + (1 : Int32))) (v := (.int c1)) (by rw [e128]; exact Ar130.1) (State.isArrayOf_alike hZ.alike Ar130.2.1) Ar130.2.2 hin130 hat130 (g := (mkF m 12 #[vr a0, vi ((0 : Int32) + (1 : Int32)), vr a2, vi ((0 : Int32) + (1 : Int32)), vi 2, vi ((0 : Int32) + (1 : Int32)), vi c0] [(.int ((0 : Int32) + (1 : Int32))), (.ref a0)])) rfl rfl (hb hby od169) _ ?_
    refine XS.istore X128.here hx rfl (hb hby od170) rfl (l' := #[vr a0, vi ((0 : Int32) + (1 : Int32)), vr a2, vi ((0 : Int32) + (1 : Int32)), vi 2, vi ((0 : Int32) + (1 : Int32)), vi c1]) rfl ?_
    refine XS.iload X128.here hx rfl (hb hby od171) rfl ?_
    refine XS.sipush X128.here hx rfl (hb hby od172) ?_
    refine XS.icmpNo X128.here hx rfl (hb hby od173) rfl (tlt hc_c1).2.2.2 ?_
    refine XS.iload X128.here hx rfl (hb hby od174) rfl ?_
    exact own_retI X128 hx Bd.returns (hb hby od175) hr
  · show Q_cmpI2_1 Z a0 a2 kc1 c0 c1 kb1 h0 n0 _ T128.heap _
    rw [e128]
    exact ⟨rfl, N128, KP128⟩
theorem own_ef_cmpA2_1 (m : MethodId) (a0 : Addr) : entryFrame m #[(.ref a0), (.int 0), (.int 2)] 6 = mkF m 0 #[vr a0, vi 0, vi 2, .unset, .unset, .unset] [] := by first | (simp [entryFrame, mkF, argsToLocals, Value.category]; done) | rfl
def Q_cmpA2_1 (Z : State) (a0 : Addr) (kc1 : ClassId) (c0 : Int32) (c1 : Int32) (h0 : Heap) (n0 : Nat) (v : Option Value) (h : Heap) (L : List Loc) : Prop := ∃ (r : Addr) (k : ClassId), v = some (.ref r) ∧ Fr n0 L ∧ Ext h0 h ∧ h0.size ≤ r ∧ Arv Z h r k .byte (4 : Int32) [(.int (nar .byte ((c0 >>> ((0 : Int32) &&& 31)).toInt8.toInt32))), (.int (nar .byte ((c0 >>> ((8 : Int32) &&& 31)).toInt8.toInt32))), (.int (nar .byte ((c1 >>> ((0 : Int32) &&& 31)).toInt8.toInt32))), (.int (nar .byte ((c1 >>> ((8 : Int32) &&& 31)).toInt8.toInt32)))] (.int 0)
theorem rm_cmpA2_1 (l : Launch) (Z : State) (a0' : Array Value) (hw : ∀ d ∈ tables_1, d.before a0' Z = true) (ws : List Jvm.Cond) (a0 : Addr) (kc1 : ClassId) (c0 : Int32) (c1 : Int32) (h0 : Heap) (n0 : Nat) (Z0 : n0 ≤ h0.size) (VA : Arv Z h0 a0 kc1 .char (2 : Int32) [(.int c0), (.int c1)] (.int 0)) (hc_c0 : ¬ ((255 : Int32) < c0)) (hc_c1 : (255 : Int32) < c1) (hb_c1 : 0 ≤ c1.toInt ∧ c1.toInt ≤ 65535) (S_ad : Sta Z h0 "java/lang/StringUTF16" "$assertionsDisabled" "Z" (.int 1)) (S_hi : Sta Z h0 "java/lang/StringUTF16" "HI_BYTE_SHIFT" "I" (.int 0)) (S_lo : Sta Z h0 "java/lang/StringUTF16" "LO_BYTE_SHIFT" "I" (.int 8)) :
    MF l nm17 jdk_52_method_16_code 6 (some (.array .byte)) ws (⟨3, 2, 6, 40⟩ : Room) #[(.ref a0), (.int 0), (.int 2)] Z h0 (Q_cmpA2_1 Z a0 kc1 c0 c1 h0 n0) := by
  refine MetFree.of_bodySF (plainFor_of_name own_pn3) hisR ?_
  intro p e s m args below meth c s₁ Bd hml0 hP hK
  obtain ⟨rfl, hZ, hh⟩ := hP
  have hx := Bd.exec
  have hby := Bd.bytes
  have hml : c.maxLocals = 6 := hml0
  have hown : s.vm.findClass "java/lang/StringUTF16" = some m.cls := findClass_of_methodNamed Bd.named
  have hnm := (name_of_methodNamed Bd.named Bd.method).1
  have X0 : Stand p l e (⟨3, 2, 6, 40⟩ : Room) s m #[(.ref a0), (.int 0), (.int 2)] below meth c s₁ [] 0 0 := Stand.of_body Bd
  have e0 : s₁.heap = h0 := by rw [← hh, Bd.state]; rfl
  have N0 := Fr.nil n0
  have pre0 : PT p e below (s₁.setTop (mkF m 0 #[vr a0, vi 0, vi 2, .unset, .unset, .unset] [])) (s₁.setTop (entryFrame m #[(.ref a0), (.int 0), (.int 2)] 6)) := fun t k => castTop (own_ef_cmpA2_1 m a0) k
  obtain ⟨T131, h131, k131, X131, e131, E131, A131, st131⟩ := newP X0 hx hZ (ow hw 17 rfl) e0 (g := (mkF m 1 #[vr a0, vi 0, vi 2, .unset, .unset, .unset] [(.int 2)])) rfl (hb hby od177) rfl (by decide) (cap := 2) (by decide) (by decide) (by decide) (by decide)
  obtain ⟨b131, g131⟩ : ∃ z, z = h0.size := ⟨_, rfl⟩
  rw [← g131] at A131 st131
  have ne131_a0_b131 : a0 ≠ b131 := Nat.ne_of_lt (Nat.lt_of_lt_of_le VA.lt (Nat.le_of_eq g131.symm))
  have V_b131 : Arv Z h131 b131 k131 .byte (2 : Int32) [(.int 0), (.int 0)] (.int 0) := (Arv.new A131 (by decide)).pad (pad_rep [] (.int 0) 2)
  have g_b131 : n0 ≤ b131 := Nat.le_trans Z0 (Nat.le_of_eq g131.symm)
  have sz_b131 : h0.size ≤ b131 := Nat.le_trans (Nat.le_refl _) (Nat.le_of_eq g131.symm)
  have EX131 : Ext h0 h131 := E131
  have SZ131 : h0.size ≤ h131.size := EX131.1
  have Z131 : n0 ≤ h131.size := Nat.le_trans Z0 SZ131
  have fx133 := (VA.ext E131)
  obtain ⟨_, _, ⟨T132, L132, k132, n132⟩, -, X132, ⟨Lc132, hQ132, l132, y132, z132⟩, st132⟩ := Jvm.LawKit.callS X131 hx (y := nm16) hown (mvT hZ (ow hw 43 rfl)) (mvT hZ (ow hw 44 rfl)) (mvT hZ (ow hw 41 rfl)) (mvT hZ (ow hw 45 rfl)) (by decide) (backOf (W := 0) (rm_cmpI2_1 l Z a0' hw [] a0 b131 kc1 c0 c1 k131 h131 n0 Z131 fx133 V_b131 ne131_a0_b131 g_b131 hc_c0 hc_c1) hZ (ow hw 45 rfl) (ow hw 41 rfl) (by decide) (by decide)) (g := (mkF m 9 #[vr a0, vi 0, vi 2, vr b131, .unset, .unset] [(.int 2), (.int 0), (.ref b131), (.int 0), (.ref a0)])) rfl (by rw [hml]; rfl) (argsL := [(.ref a0), (.int 0), (.ref b131), (.int 0), (.int 2)]) (rest := []) (lenOf own_pd10 rfl) rfl (by show 2 * 0 + _ ≤ _; exact Nat.le_of_eq rfl) (hb hby od184) (fun _ _ => ⟨rfl, e131, (by decide : 1 + 0 ≤ _), (by decide : 2 + 0 ≤ _)⟩)
  dsimp only [Pt.U, Pt.locs, Pt.cells, Pt.slots] at X132 l132 y132 z132 st132 hQ132
  subst l132 y132 z132
  obtain ⟨rfl, N132q, K132⟩ := hQ132
  have N132 := Fr.app N0 N132q
  have EX132 : Ext h0 T132.heap := own_extkeep EX131 K132 sz_b131
  have SZ132 : h0.size ≤ T132.heap.size := EX132.1
  have Z132 : n0 ≤ T132.heap.size := Nat.le_trans Z0 SZ132
  have fx135 := (fx133.keep K132 (ninS ne131_a0_b131 nin0))
  obtain ⟨_, _, ⟨T134, L134, k134, n134⟩, -, X134, ⟨Lc134, hQ134, l134, y134, z134⟩, st134⟩ := Jvm.LawKit.callS X132 hx (y := nm15) hown (mvT hZ (ow hw 88 rfl)) (mvT hZ (ow hw 89 rfl)) (mvT hZ (ow hw 41 rfl)) (mvT hZ (ow hw 90 rfl)) (by decide) (backOf (W := 0) (rm_tob2 l Z a0' hw [] a0 kc1 c0 c1 T132.heap n0 Z132 fx135 (S_ad.ext EX132) (S_hi.ext EX132) (S_lo.ext EX132)) hZ (ow hw 90 rfl) (ow hw 41 rfl) (by decide) (by decide)) (g := (mkF m 23 #[vr a0, vi 0, vi 2, vr b131, vi 1, .unset] [(.int 2), (.int 0), (.ref a0)])) rfl (by rw [hml]; rfl) (argsL := [(.ref a0), (.int 0), (.int 2)]) (rest := []) (lenOf own_pd11 rfl) rfl (by show 2 * 0 + _ ≤ _; exact Nat.le_of_eq rfl) (hb hby od192) (fun _ _ => ⟨rfl, rfl, (by decide : 1 + 1 ≤ _), (by decide : 2 + 4 ≤ _)⟩)
  dsimp only [Pt.U, Pt.locs, Pt.cells, Pt.slots] at X134 l134 y134 z134 st134 hQ134
  subst l134 y134 z134
  obtain ⟨r134, kk134, rfl, N134q, E134, zz134, V134⟩ := hQ134
  have N134 := Fr.app N132 N134q
  have ne134_a0_r134 : a0 ≠ r134 := Nat.ne_of_lt (Nat.lt_of_lt_of_le fx135.lt zz134)
  have g_r134 : n0 ≤ r134 := Nat.le_trans Z132 zz134
  have sz_r134 : h0.size ≤ r134 := Nat.le_trans SZ132 zz134
  have EX134 : Ext h0 T134.heap := own_exttr EX132 E134
  have SZ134 : h0.size ≤ T134.heap.size := EX134.1
  have Z134 : n0 ≤ T134.heap.size := Nat.le_trans Z0 SZ134
  have Vc137 := V134
  obtain ⟨cl137, Ar137, q137, S137, N_137, H137, G137⟩ := Vc137
  obtain ⟨_, _, ⟨T136, L136, k136, n136⟩, -, X136, ⟨Lc136, hQ136, l136, y136, z136⟩, st136⟩ := Jvm.LawKit.callS X134 hx (y := nm5) hown (mvT hZ (ow hw 104 rfl)) (mvT hZ (ow hw 105 rfl)) (mvT hZ (ow hw 41 rfl)) (mvT hZ (ow hw 106 rfl)) (by decide) (backOf (W := 0) (rm_getC l Z a0' hw [] r134 (1 : Int32) cl137 (nar .byte ((c1 >>> ((0 : Int32) &&& 31)).toInt8.toInt32)) (nar .byte ((c1 >>> ((8 : Int32) &&& 31)).toInt8.toInt32)) T134.heap n0 Z134 Ar137 (inb_of S137 ⟨by decide, by decide⟩) (H137 2 (by rw [S137]; decide)) (inb_of S137 ⟨by decide, by decide⟩) (H137 3 (by rw [S137]; decide)) (S_ad.ext EX134) (S_hi.ext EX134) (S_lo.ext EX134)) hZ (ow hw 106 rfl) (ow hw 41 rfl) (by decide) (by decide)) (g := (mkF m 32 #[vr a0, vi 0, vi 2, vr b131, vi 1, vr r134] [(.int 1), (.ref r134)])) rfl (by rw [hml]; rfl) (argsL := [(.ref r134), (.int 1)]) (rest := []) (lenOf own_pd4 rfl) rfl (by show 2 * 0 + _ ≤ _; exact Nat.le_of_eq rfl) (hb hby od196) (fun _ _ => ⟨rfl, rfl, (by decide : 2 + 0 ≤ _), (by decide : 6 + 0 ≤ _)⟩)
  dsimp only [Pt.U, Pt.locs, Pt.cells, Pt.slots] at X136 l136 y136 z136 st136 hQ136
  subst l136 y136 z136
  obtain ⟨rfl, N136q, e136⟩ := hQ136
  have N136 := Fr.app N134 N136q
  have q136 : (F_getC (nar .byte ((c1 >>> ((0 : Int32) &&& 31)).toInt8.toInt32)) (nar .byte ((c1 >>> ((8 : Int32) &&& 31)).toInt8.toInt32))) = c1 := by unfold F_getC; exact own_getc c1 hb_c1
  rw [q136] at st136
  obtain ⟨fs, hr, hrun, hended, hW, hsame⟩ := X136.leave (v := some (.ref r134)) (fun h => by rw [Bd.returns] at h; cases h)
  refine ⟨_, _, pre0 _ ?_, hrun, hended, _, _, rfl, ?_, ⟨_, rfl⟩, hW, hsame.mono (by decide) (by decide)⟩
  · show Steps p.tables e below (s₁.setTop (mkF m 0 #[vr a0, vi 0, vi 2, .unset, .unset, .unset] [])) _
    refine XS.iloadN X0.here hx rfl (hb hby od176) rfl ?_
    refine st131 _ ?_
    refine XS.astoreN X131.here hx rfl (hb hby od178) rfl rfl (l' := #[vr a0, vi 0, vi 2, vr b131, .unset, .unset]) rfl ?_
    refine XS.aloadN X131.here hx rfl (hb hby od179) rfl rfl ?_
    refine XS.iloadN X131.here hx rfl (hb hby od180) rfl ?_
    refine XS.aloadN X131.here hx rfl (hb hby od181) rfl rfl ?_
    refine XS.iconst X131.here hx rfl (hb hby od182) ?_
    refine XS.iloadN X131.here hx rfl (hb hby od183) rfl ?_
    refine st132 _ ?_
    refine XS.istore X132.here hx rfl (hb hby od185) rfl (l' := #[vr a0, vi 0, vi 2, vr b131, vi 1, .unset]) rfl ?_
    refine XS.iload X132.here hx rfl (hb hby od186) rfl ?_
    refine XS.iloadN X132.here hx rfl (hb hby od187) rfl ?_
    refine XS.icmpNo X132.here hx rfl (hb hby od188) rfl (feq (by decide : ¬ ((1 : Int32) = (2 : Int32)))).1 ?_
    refine XS.aloadN X132.here hx rfl (hb hby od189) rfl rfl ?_
    refine XS.iloadN X132.here hx rfl (hb hby od190) rfl ?_
    refine XS.iloadN X132.here hx rfl (hb hby od191) rfl ?_
    refine st134 _ ?_
    refine XS.astore X134.here hx rfl (hb hby od193) rfl rfl (l' := #[vr a0, vi 0, vi 2, vr b131, vi 1, vr r134]) rfl ?_
    refine XS.aload X134.here hx rfl (hb hby od194) rfl rfl ?_
    refine XS.iload X134.here hx rfl (hb hby od195) rfl ?_
    refine st136 _ ?_
    refine XS.sipush X136.here hx rfl (hb hby od197) ?_
    refine XS.icmpYes X136.here hx rfl (pc0 := 38) (pc' := 54) rfl (hb hby od198) rfl (tlt hc_c1).2.2.1 (by decide) (by decide) ?_
    refine XS.aload X136.here hx rfl (hb hby od199) rfl rfl ?_
    exact own_retA X136 hx Bd.returns rfl rfl rfl (hb hby od200) hr
  · show Q_cmpA2_1 Z a0 kc1 c0 c1 h0 n0 _ T136.heap _
    rw [e136]
    exact ⟨_, _, rfl, N136, EX134, sz_r134, V134⟩
theorem rm_cmpU2 (l : Launch) (Z : State) (a0' : Array Value) (hw : ∀ d ∈ tables_1, d.before a0' Z = true) (ws : List Jvm.Cond) (a0 : Addr) (kc1 : ClassId) (c0 : Int32) (c1 : Int32) (h0 : Heap) (n0 : Nat) (Z0 : n0 ≤ h0.size) (VA : Arv Z h0 a0 kc1 .char (2 : Int32) [(.int c0), (.int c1)] (.int 0)) (hup : ¬ (¬ ((255 : Int32) < c0) ∧ ¬ ((255 : Int32) < c1))) (hb_c0 : 0 ≤ c0.toInt ∧ c0.toInt ≤ 65535) (hb_c1 : 0 ≤ c1.toInt ∧ c1.toInt ≤ 65535) (S_ad : Sta Z h0 "java/lang/StringUTF16" "$assertionsDisabled" "Z" (.int 1)) (S_hi : Sta Z h0 "java/lang/StringUTF16" "HI_BYTE_SHIFT" "I" (.int 0)) (S_lo : Sta Z h0 "java/lang/StringUTF16" "LO_BYTE_SHIFT" "I" (.int 8)) :
    MF l nm17 jdk_52_method_16_code 6 (some (.array .byte)) ws (⟨3, 2, 6, 40⟩ : Room) #[(.ref a0), (.int 0), (.int 2)] Z h0 (Q_cmpA2_0 Z a0 kc1 c0 c1  h0 n0) := by
  by_cases q0 : (255 : Int32) < c0
  · exact rm_cmpA2_0 l Z a0' hw ws a0 kc1 c0 c1  h0 n0 Z0 VA q0 hb_c0 S_ad S_hi S_lo
  by_cases q1 : (255 : Int32) < c1
  · exact rm_cmpA2_1 l Z a0' hw ws a0 kc1 c0 c1  h0 n0 Z0 VA q0 q1 hb_c1 S_ad S_hi S_lo
  exact absurd ⟨q0, q1⟩ hup
def F_cfu2  : Int32 := (nar .byte (((((2 : Int32) - (4 : Int32)).toUInt32 >>> ((31 : Int32) &&& 31).toUInt32).toInt32).toInt8.toInt32))
theorem own_ef_cfu2 (m : MethodId) (a0 : Addr) : entryFrame m #[(.ref a0), (.int 2)] 2 = mkF m 0 #[vr a0, vi 2] [] := by first | (simp [entryFrame, mkF, argsToLocals, Value.category]; done) | rfl
def Q_cfu2 (Z : State) (a0 : Addr) (kb1 : ClassId) (vs1 : List Value) (dv1 : Value) (h0 : Heap) (n0 : Nat) (v : Option Value) (h : Heap) (L : List Loc) : Prop := v = some (.int F_cfu2) ∧ Fr n0 L ∧ h = h0
theorem rm_cfu2 (l : Launch) (Z : State) (a0' : Array Value) (hw : ∀ d ∈ tables_1, d.before a0' Z = true) (ws : List Jvm.Cond) (a0 : Addr) (kb1 : ClassId) (vs1 : List Value) (dv1 : Value) (h0 : Heap) (n0 : Nat) (Z0 : n0 ≤ h0.size) (VB : Arv Z h0 a0 kb1 .byte (4 : Int32) vs1 dv1) :
    MF l nm18 jdk_52_method_15_code 2 (some .byte) ws (⟨0, 0, 0, 0⟩ : Room) #[(.ref a0), (.int 2)] Z h0 (Q_cfu2 Z a0 kb1 vs1 dv1 h0 n0) := by
  refine MetFree.of_bodySF (plainFor_of_name own_pn3) hisR ?_
  intro p e s m args below meth c s₁ Bd hml0 hP hK
  obtain ⟨rfl, hZ, hh⟩ := hP
  have hx := Bd.exec
  have hby := Bd.bytes
  have hml : c.maxLocals = 2 := hml0
  have hown : s.vm.findClass "java/lang/StringUTF16" = some m.cls := findClass_of_methodNamed Bd.named
  have hnm := (name_of_methodNamed Bd.named Bd.method).1
  have X0 : Stand p l e (⟨0, 0, 0, 0⟩ : Room) s m #[(.ref a0), (.int 2)] below meth c s₁ [] 0 0 := Stand.of_body Bd
  have e0 : s₁.heap = h0 := by rw [← hh, Bd.state]; rfl
  have N0 := Fr.nil n0
  have pre0 : PT p e below (s₁.setTop (mkF m 0 #[vr a0, vi 2] [])) (s₁.setTop (entryFrame m #[(.ref a0), (.int 2)] 2)) := fun t k => castTop (own_ef_cfu2 m a0) k
  have Vc138 := VB
  obtain ⟨cl138, Ar138, q138, S138, N_138, H138, G138⟩ := Vc138
  obtain ⟨fs, hr, hrun, hended, hW, hsame⟩ := X0.leave (v := some (.int (nar .byte (((((2 : Int32) - (4 : Int32)).toUInt32 >>> ((31 : Int32) &&& 31).toUInt32).toInt32).toInt8.toInt32)))) (fun h => by rw [Bd.returns] at h; cases h)
  refine ⟨_, _, pre0 _ ?_, hrun, hended, _, _, rfl, ?_, ⟨_, rfl⟩, hW, hsame.mono (by decide) (by decide)⟩
  · show Steps p.tables e below (s₁.setTop (mkF m 0 #[vr a0, vi 2] [])) _
    refine XS.iloadN X0.here hx rfl (hb hby od201) rfl ?_
    refine XS.aloadN X0.here hx rfl (hb hby od202) rfl rfl ?_
    refine X0.arraylength hx (by rw [e0]; exact Ar138.1) (State.isArrayOf_alike hZ.alike Ar138.2.1) (g := (mkF m 2 #[vr a0, vi 2] [(.ref a0), (.int 2)])) rfl rfl (hb hby od203) _ ?_
    rw [len_of S138 N_138]
    refine XS.isub X0.here hx rfl (hb hby od204) rfl ?_
    refine XS.bipush X0.here hx rfl (hb hby od205) ?_
    refine XS.iushr X0.here hx rfl (hb hby od206) rfl ?_
    refine XS.i2b X0.here hx rfl (hb hby od207) rfl ?_
    exact retN X0 hx (t := .byte) Bd.returns (by simp) (hb hby od208) hr
  · show Q_cfu2 Z a0 kb1 vs1 dv1 h0 n0 _ s₁.heap _
    refine ⟨?_, N0, e0⟩
    rw [F_cfu2]
theorem own_ef_in4U2 (m : MethodId) (a0 : Addr) (a1 : Addr) : entryFrame m #[(.ref a0), (.ref a1), (.int 0), (.int 2), .null] 6 = mkF m 0 #[vr a0, vr a1, vi 0, vi 2, .val .null, .unset] [] := by first | (simp [entryFrame, mkF, argsToLocals, Value.category]; done) | rfl
def Q_in4U2 (Z : State) (a0 : Addr) (a1 : Addr) (kc1 : ClassId) (c0 : Int32) (c1 : Int32) (kc : Int32) (h0 : Heap) (n0 : Nat) (v : Option Value) (h : Heap) (L : List Loc) : Prop := v = none ∧ Fr n0 L ∧ Keep h0 h [a0] ∧ Exa Z h a0 "java/lang/String" ∧ Fld Z h a0 "java/lang/String" "coder" "B" (.int 1) ∧ ∃ (b : Addr) (k : ClassId), Fld Z h a0 "java/lang/String" "value" "[B" (.ref b) ∧ Arv Z h b k .byte (4 : Int32) [(.int (nar .byte ((c0 >>> ((0 : Int32) &&& 31)).toInt8.toInt32))), (.int (nar .byte ((c0 >>> ((8 : Int32) &&& 31)).toInt8.toInt32))), (.int (nar .byte ((c1 >>> ((0 : Int32) &&& 31)).toInt8.toInt32))), (.int (nar .byte ((c1 >>> ((8 : Int32) &&& 31)).toInt8.toInt32)))] (.int 0)
theorem rm_in4U2 (l : Launch) (Z : State) (a0' : Array Value) (hw : ∀ d ∈ tables_1, d.before a0' Z = true) (ws : List Jvm.Cond) (a0 : Addr) (a1 : Addr) (kc1 : ClassId) (c0 : Int32) (c1 : Int32) (kc : Int32) (h0 : Heap) (n0 : Nat) (Z0 : n0 ≤ h0.size) (E_t : Exa Z h0 a0 "java/lang/String") (F0v : Fld Z h0 a0 "java/lang/String" "value" "[B" .null) (F0c : Fld Z h0 a0 "java/lang/String" "coder" "B" (.int 0)) (g_t : n0 ≤ a0) (VA : Arv Z h0 a1 kc1 .char (2 : Int32) [(.int c0), (.int c1)] (.int 0)) (na1 : a0 ≠ a1) (hup : ¬ (¬ ((255 : Int32) < c0) ∧ ¬ ((255 : Int32) < c1))) (hb_c0 : 0 ≤ c0.toInt ∧ c0.toInt ≤ 65535) (hb_c1 : 0 ≤ c1.toInt ∧ c1.toInt ≤ 65535) (S_cs : Sta Z h0 "java/lang/String" "COMPACT_STRINGS" "Z" (.int kc)) (hkc : ¬ (kc = (0 : Int32))) (S_ad : Sta Z h0 "java/lang/StringUTF16" "$assertionsDisabled" "Z" (.int 1)) (S_hi : Sta Z h0 "java/lang/StringUTF16" "HI_BYTE_SHIFT" "I" (.int 0)) (S_lo : Sta Z h0 "java/lang/StringUTF16" "LO_BYTE_SHIFT" "I" (.int 8)) :
    MF l nm19 jdk_42_method_149_code 6 none ws (⟨4, 2, 6, 57⟩ : Room) #[(.ref a0), (.ref a1), (.int 0), (.int 2), .null] Z h0 (Q_in4U2 Z a0 a1 kc1 c0 c1 kc h0 n0) := by
  refine MetFree.of_bodySF (plainFor_of_name own_pn1) hisR ?_
  intro p e s m args below meth c s₁ Bd hml0 hP hK
  obtain ⟨rfl, hZ, hh⟩ := hP
  have hx := Bd.exec
  have hby := Bd.bytes
  have hml : c.maxLocals = 6 := hml0
  have hown : s.vm.findClass "java/lang/String" = some m.cls := findClass_of_methodNamed Bd.named
  have hnm := (name_of_methodNamed Bd.named Bd.method).1
  have X0 : Stand p l e (⟨4, 2, 6, 57⟩ : Room) s m #[(.ref a0), (.ref a1), (.int 0), (.int 2), .null] below meth c s₁ [] 0 0 := Stand.of_body Bd
  have e0 : s₁.heap = h0 := by rw [← hh, Bd.state]; rfl
  have N0 := Fr.nil n0
  have pre0 : PT p e below (s₁.setTop (mkF m 0 #[vr a0, vr a1, vi 0, vi 2, .val .null, .unset] [])) (s₁.setTop (entryFrame m #[(.ref a0), (.ref a1), (.int 0), (.int 2), .null] 6)) := fun t k => castTop (own_ef_in4U2 m a0 a1) k
  obtain ⟨T139, X139, e139, st139⟩ := initO X0 hx hZ hown (ow hw 13 rfl) (ow hw 14 rfl) (ow hw 15 rfl) e0 (g := (mkF m 1 #[vr a0, vr a1, vi 0, vi 2, .val .null, .unset] [(.ref a0)])) rfl (by rw [hml]; rfl) rfl (hb hby od210) (by decide) (W := 0) (by show 2 * 0 + _ ≤ _; exact Nat.le_of_eq rfl) (by decide)
  obtain ⟨T140, X140, e140, st140⟩ := getS2 X139 hx hZ hown (host := "") (Or.inl (ow hw 38 rfl)) Via.refl e139 S_cs (g := (mkF m 27 #[vr a0, vr a1, vi 0, vi 2, .val .null, .unset] [])) rfl (hb hby od213)
  obtain ⟨_, _, ⟨T141, L141, k141, n141⟩, -, X141, ⟨Lc141, hQ141, l141, y141, z141⟩, st141⟩ := Jvm.LawKit.callS X140 hx (y := nm17) hown (mvT hZ (ow hw 39 rfl)) (mvT hZ (ow hw 40 rfl)) (mvT hZ (ow hw 41 rfl)) (mvT hZ (ow hw 42 rfl)) (by decide) (backOf (W := 0) (rm_cmpU2 l Z a0' hw [] a1 kc1 c0 c1 h0 n0 Z0 VA hup hb_c0 hb_c1 S_ad S_hi S_lo) hZ (ow hw 42 rfl) (ow hw 41 rfl) (by decide) (by decide)) (g := (mkF m 36 #[vr a0, vr a1, vi 0, vi 2, .val .null, .unset] [(.int 2), (.int 0), (.ref a1)])) rfl (by rw [hml]; rfl) (argsL := [(.ref a1), (.int 0), (.int 2)]) (rest := []) (lenOf own_pd11 rfl) rfl (by show 2 * 0 + _ ≤ _; exact Nat.le_of_eq rfl) (hb hby od218) (fun _ _ => ⟨rfl, e140, (by decide : 0 + 2 ≤ _), (by decide : 0 + 6 ≤ _)⟩)
  dsimp only [Pt.U, Pt.locs, Pt.cells, Pt.slots] at X141 l141 y141 z141 st141 hQ141
  subst l141 y141 z141
  obtain ⟨r141, kk141, rfl, N141q, E141, zz141, V141⟩ := hQ141
  have N141 := Fr.app N0 N141q
  have ne141_a0_r141 : a0 ≠ r141 := Nat.ne_of_lt (Nat.lt_of_lt_of_le E_t.lt zz141)
  have ne141_a1_r141 : a1 ≠ r141 := Nat.ne_of_lt (Nat.lt_of_lt_of_le VA.lt zz141)
  have g_r141 : n0 ≤ r141 := Nat.le_trans Z0 zz141
  have sz_r141 : h0.size ≤ r141 := Nat.le_trans (Nat.le_refl _) zz141
  have KP141 : Keep h0 T141.heap [a0] := (Keep.refl h0 [a0]).ext E141
  have SZ141 : h0.size ≤ T141.heap.size := KP141.1
  have Z141 : n0 ≤ T141.heap.size := Nat.le_trans Z0 SZ141
  obtain ⟨_, _, ⟨T142, L142, k142, n142⟩, -, X142, ⟨Lc142, hQ142, l142, y142, z142⟩, st142⟩ := Jvm.LawKit.callS X141 hx (y := nm18) hown (mvT hZ (ow hw 46 rfl)) (mvT hZ (ow hw 47 rfl)) (mvT hZ (ow hw 41 rfl)) (mvT hZ (ow hw 48 rfl)) (by decide) (backOf (W := 1) (rm_cfu2 l Z a0' hw [] r141 kk141 _ _ T141.heap n0 Z141 V141) hZ (ow hw 48 rfl) (ow hw 41 rfl) (by decide) (by decide)) (g := (mkF m 45 #[vr a0, vr a1, vi 0, vi 2, .val .null, vr r141] [(.int 2), (.ref r141), (.ref a0)])) rfl (by rw [hml]; rfl) (argsL := [(.ref r141), (.int 2)]) (rest := [(.ref a0)]) (lenOf own_pd12 rfl) rfl (by show 2 * 0 + _ ≤ _; exact Nat.le_of_eq rfl) (hb hby od223) (fun _ _ => ⟨rfl, rfl, (by decide : 2 + 0 ≤ _), (by decide : 6 + 0 ≤ _)⟩)
  dsimp only [Pt.U, Pt.locs, Pt.cells, Pt.slots] at X142 l142 y142 z142 st142 hQ142
  subst l142 y142 z142
  obtain ⟨rfl, N142q, e142⟩ := hQ142
  have N142 := Fr.app N141 N142q
  have q142 : F_cfu2 = (1 : Int32) := by decide
  rw [q142] at st142
  have fx144 := (E_t.ext E141)
  have fx145 := (F0c.ext E141)
  have Fo143 := fx145
  obtain ⟨T146, h146, X146, e146, W146, st146⟩ := putFN X142 hx hZ hown (ow hw 23 rfl) Via.refl e142 Fo143 fx144 (Or.inr ⟨(ow hw 19 rfl), rfl, hnm⟩) (ow hw 4 rfl) (ty := .byte) (v' := (.int (nar .byte (1 : Int32)))) (by decide) rfl (fits_nar_byte _) (g := (mkF m 48 #[vr a0, vr a1, vi 0, vi 2, .val .null, vr r141] [(.int 1), (.ref a0)])) rfl rfl (hb hby od224)
  have Fw146 : Fld Z h146 a0 "java/lang/String" "coder" "B" (.int 1) := Fo143.same W146
  have N146 := Fr.snoc X146 N142 g_t
  have KP146 : Keep h0 h146 [a0] := KP141.wr W146 (Or.inl (List.mem_of_getElem? (i := 0) rfl))
  have SZ146 : h0.size ≤ h146.size := KP146.1
  have Z146 : n0 ≤ h146.size := Nat.le_trans Z0 SZ146
  have fx148 := (fx144.wr W146)
  have fx149 := ((F0v.ext E141).other W146 (Or.inr (slot_ne (a0 := a0') (Or.inr (ow hw 18 rfl)) (Or.inr (ow hw 19 rfl)) (by decide) (t := (.array .byte)) (t' := .byte) (by decide) (by decide))))
  have Fo147 := fx149
  obtain ⟨T150, h150, X150, e150, W150, st150⟩ := putF X146 hx hZ hown (host := "") (Or.inl (ow hw 22 rfl)) Via.refl e146 Fo147 fx148 (Or.inr ⟨(ow hw 18 rfl), rfl, hnm⟩) (ow hw 4 rfl) (ty := (.array .byte)) (by decide) rfl rfl (g := (mkF m 54 #[vr a0, vr a1, vi 0, vi 2, .val .null, vr r141] [(.ref r141), (.ref a0)])) rfl rfl (hb hby od227)
  have Fw150 : Fld Z h150 a0 "java/lang/String" "value" "[B" (.ref r141) := Fo147.same W150
  have N150 := Fr.snoc X150 N146 g_t
  have KP150 : Keep h0 h150 [a0] := KP146.wr W150 (Or.inl (List.mem_of_getElem? (i := 0) rfl))
  have SZ150 : h0.size ≤ h150.size := KP150.1
  have Z150 : n0 ≤ h150.size := Nat.le_trans Z0 SZ150
  have fx151 := (fx148.wr W150)
  have fx152 := (Fw146.other W150 (Or.inr (slot_ne (a0 := a0') (Or.inr (ow hw 19 rfl)) (Or.inr (ow hw 18 rfl)) (by decide) (t := .byte) (t' := (.array .byte)) (by decide) (by decide))))
  have fx153 := ((V141.other W146 (Ne.symm ne141_a0_r141)).other W150 (Ne.symm ne141_a0_r141))
  obtain ⟨fs, hr, hrun, hended, hW, hsame⟩ := X150.leave (v := none) (fun _ => rfl)
  refine ⟨_, _, pre0 _ ?_, hrun, hended, _, _, rfl, ?_, ⟨_, rfl⟩, hW, hsame.mono (by decide) (by decide)⟩
  · show Steps p.tables e below (s₁.setTop (mkF m 0 #[vr a0, vr a1, vi 0, vi 2, .val .null, .unset] [])) _
    refine XS.aloadN X0.here hx rfl (hb hby od209) rfl rfl ?_
    refine st139 _ ?_
    refine XS.iloadN X139.here hx rfl (hb hby od211) rfl ?_
    refine XS.ifYes X139.here hx rfl (pc0 := 5) (pc' := 27) rfl (hb hby od212) rfl ((if0 _ _).trans (feq (by decide : ¬ ((2 : Int32) = (0 : Int32)))).2) (by decide) (by decide) ?_
    refine st140 _ ?_
    refine XS.ifNo X140.here hx rfl (hb hby od214) rfl ((if0 _ _).trans (feq hkc).1) ?_
    refine XS.aloadN X140.here hx rfl (hb hby od215) rfl rfl ?_
    refine XS.iloadN X140.here hx rfl (hb hby od216) rfl ?_
    refine XS.iloadN X140.here hx rfl (hb hby od217) rfl ?_
    refine st141 _ ?_
    refine XS.astore X141.here hx rfl (hb hby od219) rfl rfl (l' := #[vr a0, vr a1, vi 0, vi 2, .val .null, vr r141]) rfl ?_
    refine XS.aloadN X141.here hx rfl (hb hby od220) rfl rfl ?_
    refine XS.aload X141.here hx rfl (hb hby od221) rfl rfl ?_
    refine XS.iloadN X141.here hx rfl (hb hby od222) rfl ?_
    refine st142 _ ?_
    refine st146 _ ?_
    refine XS.aloadN X146.here hx rfl (hb hby od225) rfl rfl ?_
    refine XS.aload X146.here hx rfl (hb hby od226) rfl rfl ?_
    refine st150 _ ?_
    exact X150.returnOut hx Bd.returns (hb hby od228) hr
  · show Q_in4U2 Z a0 a1 kc1 c0 c1 kc h0 n0 _ T150.heap _
    rw [e150]
    exact ⟨rfl, N150, KP150, fx151, fx152, _, _, Fw150, fx153⟩
theorem own_ef_in1U2 (m : MethodId) (a0 : Addr) (a1 : Addr) : entryFrame m #[(.ref a0), (.ref a1)] 2 = mkF m 0 #[vr a0, vr a1] [] := by first | (simp [entryFrame, mkF, argsToLocals, Value.category]; done) | rfl
def Q_in1U2 (Z : State) (a0 : Addr) (a1 : Addr) (kc1 : ClassId) (c0 : Int32) (c1 : Int32) (kc : Int32) (h0 : Heap) (n0 : Nat) (v : Option Value) (h : Heap) (L : List Loc) : Prop := v = none ∧ Fr n0 L ∧ Keep h0 h [a0] ∧ Exa Z h a0 "java/lang/String" ∧ Fld Z h a0 "java/lang/String" "coder" "B" (.int 1) ∧ ∃ (b : Addr) (k : ClassId), Fld Z h a0 "java/lang/String" "value" "[B" (.ref b) ∧ Arv Z h b k .byte (4 : Int32) [(.int (nar .byte ((c0 >>> ((0 : Int32) &&& 31)).toInt8.toInt32))), (.int (nar .byte ((c0 >>> ((8 : Int32) &&& 31)).toInt8.toInt32))), (.int (nar .byte ((c1 >>> ((0 : Int32) &&& 31)).toInt8.toInt32))), (.int (nar .byte ((c1 >>> ((8 : Int32) &&& 31)).toInt8.toInt32)))] (.int 0)
theorem rm_in1U2 (l : Launch) (Z : State) (a0' : Array Value) (hw : ∀ d ∈ tables_1, d.before a0' Z = true) (ws : List Jvm.Cond) (a0 : Addr) (a1 : Addr) (kc1 : ClassId) (c0 : Int32) (c1 : Int32) (kc : Int32) (h0 : Heap) (n0 : Nat) (Z0 : n0 ≤ h0.size) (E_t : Exa Z h0 a0 "java/lang/String") (F0v : Fld Z h0 a0 "java/lang/String" "value" "[B" .null) (F0c : Fld Z h0 a0 "java/lang/String" "coder" "B" (.int 0)) (g_t : n0 ≤ a0) (VA : Arv Z h0 a1 kc1 .char (2 : Int32) [(.int c0), (.int c1)] (.int 0)) (na1 : a0 ≠ a1) (hup : ¬ (¬ ((255 : Int32) < c0) ∧ ¬ ((255 : Int32) < c1))) (hb_c0 : 0 ≤ c0.toInt ∧ c0.toInt ≤ 65535) (hb_c1 : 0 ≤ c1.toInt ∧ c1.toInt ≤ 65535) (S_cs : Sta Z h0 "java/lang/String" "COMPACT_STRINGS" "Z" (.int kc)) (hkc : ¬ (kc = (0 : Int32))) (S_ad : Sta Z h0 "java/lang/StringUTF16" "$assertionsDisabled" "Z" (.int 1)) (S_hi : Sta Z h0 "java/lang/StringUTF16" "HI_BYTE_SHIFT" "I" (.int 0)) (S_lo : Sta Z h0 "java/lang/StringUTF16" "LO_BYTE_SHIFT" "I" (.int 8)) :
    MF l nm20 jdk_42_method_3_code 2 none ws (⟨5, 2, 6, 74⟩ : Room) #[(.ref a0), (.ref a1)] Z h0 (Q_in1U2 Z a0 a1 kc1 c0 c1 kc h0 n0) := by
  refine MetFree.of_bodySF (plainFor_of_name own_pn1) hisR ?_
  intro p e s m args below meth c s₁ Bd hml0 hP hK
  obtain ⟨rfl, hZ, hh⟩ := hP
  have hx := Bd.exec
  have hby := Bd.bytes
  have hml : c.maxLocals = 2 := hml0
  have hown : s.vm.findClass "java/lang/String" = some m.cls := findClass_of_methodNamed Bd.named
  have hnm := (name_of_methodNamed Bd.named Bd.method).1
  have X0 : Stand p l e (⟨5, 2, 6, 74⟩ : Room) s m #[(.ref a0), (.ref a1)] below meth c s₁ [] 0 0 := Stand.of_body Bd
  have e0 : s₁.heap = h0 := by rw [← hh, Bd.state]; rfl
  have N0 := Fr.nil n0
  have pre0 : PT p e below (s₁.setTop (mkF m 0 #[vr a0, vr a1] [])) (s₁.setTop (entryFrame m #[(.ref a0), (.ref a1)] 2)) := fun t k => castTop (own_ef_in1U2 m a0 a1) k
  have Vc154 := VA
  obtain ⟨cl154, Ar154, q154, S154, N_154, H154, G154⟩ := Vc154
  obtain ⟨_, _, ⟨T155, L155, k155, n155⟩, -, X155, ⟨Lc155, hQ155, l155, y155, z155⟩, st155⟩ := X0.specialBack hx (y := nm19) rfl hown (mvT hZ (ow hw 9 rfl)) (mvT hZ (ow hw 10 rfl)) (mvT hZ (ow hw 12 rfl)) (by decide) (backOf (W := 0) (rm_in4U2 l Z a0' hw [] a0 a1 kc1 c0 c1 kc h0 n0 Z0 E_t F0v F0c g_t VA na1 hup hb_c0 hb_c1 S_cs hkc S_ad S_hi S_lo) hZ (ow hw 12 rfl) (ow hw 5 rfl) (by decide) (by decide)) (g := (mkF m 6 #[vr a0, vr a1] [.null, (.int 2), (.int 0), (.ref a1), (.ref a0)])) rfl (by rw [hml]; rfl) (Steps.refl _) (a := a0) (argsL := [(.ref a1), (.int 0), (.int 2), .null]) (rest := []) (lenOf own_pd13 rfl) rfl (by show 2 * 0 + _ ≤ _; exact Nat.le_of_eq rfl) (hb hby od235) (fun _ _ => ⟨rfl, e0, (by decide : 0 + 2 ≤ _), (by decide : 0 + 6 ≤ _)⟩)
  dsimp only [Pt.U, Pt.locs, Pt.cells, Pt.slots] at X155 l155 y155 z155 st155 hQ155
  subst l155 y155 z155
  obtain ⟨rfl, N155q, K155, Ei155, Ci155, bi155, ki155, Fi155, Vi155⟩ := hQ155
  have N155 := Fr.app N0 N155q
  have KP155 : Keep h0 T155.heap [a0] := (Keep.refl h0 [a0]).trans K155 (allS (Or.inl (List.mem_of_getElem? (i := 0) rfl)) all0)
  have SZ155 : h0.size ≤ T155.heap.size := KP155.1
  have Z155 : n0 ≤ T155.heap.size := Nat.le_trans Z0 SZ155
  obtain ⟨fs, hr, hrun, hended, hW, hsame⟩ := X155.leave (v := none) (fun _ => rfl)
  refine ⟨_, _, pre0 _ ?_, hrun, hended, _, _, rfl, ?_, ⟨_, rfl⟩, hW, hsame.mono (by decide) (by decide)⟩
  · show Steps p.tables e below (s₁.setTop (mkF m 0 #[vr a0, vr a1] [])) _
    refine XS.aloadN X0.here hx rfl (hb hby od229) rfl rfl ?_
    refine XS.aloadN X0.here hx rfl (hb hby od230) rfl rfl ?_
    refine XS.iconst X0.here hx rfl (hb hby od231) ?_
    refine XS.aloadN X0.here hx rfl (hb hby od232) rfl rfl ?_
    refine X0.arraylength hx (by rw [e0]; exact Ar154.1) (State.isArrayOf_alike hZ.alike Ar154.2.1) (g := (mkF m 4 #[vr a0, vr a1] [(.ref a1), (.int 0), (.ref a1), (.ref a0)])) rfl rfl (hb hby od233) _ ?_
    rw [len_of S154 N_154]
    refine XS.aconstNull X0.here hx rfl (hb hby od234) ?_
    refine st155.trans ?_
    exact X155.returnOut hx Bd.returns (hb hby od236) hr
  · show Q_in1U2 Z a0 a1 kc1 c0 c1 kc h0 n0 _ T155.heap _
    exact ⟨rfl, N155, KP155, Ei155, Ci155, _, _, Fi155, Vi155⟩
theorem own_ef_cmpI2 (m : MethodId) (a0 : Addr) (a2 : Addr) : entryFrame m #[(.ref a0), (.int 0), (.ref a2), (.int 0), (.int 2)] 7 = mkF m 0 #[vr a0, vi 0, vr a2, vi 0, vi 2, .unset, .unset] [] := by first | (simp [entryFrame, mkF, argsToLocals, Value.category]; done) | rfl
def Q_cmpI2 (Z : State) (a0 : Addr) (a2 : Addr) (kc1 : ClassId) (c0 : Int32) (c1 : Int32) (kb1 : ClassId) (h0 : Heap) (n0 : Nat) (v : Option Value) (h : Heap) (L : List Loc) : Prop := v = some (.int 2) ∧ Fr n0 L ∧ Keep h0 h [a2] ∧ Arv Z h a2 kb1 .byte (2 : Int32) [(.int (nar .byte (c0.toInt8.toInt32))), (.int (nar .byte (c1.toInt8.toInt32)))] (.int 0)
theorem rm_cmpI2 (l : Launch) (Z : State) (a0' : Array Value) (hw : ∀ d ∈ tables_1, d.before a0' Z = true) (ws : List Jvm.Cond) (a0 : Addr) (a2 : Addr) (kc1 : ClassId) (c0 : Int32) (c1 : Int32) (kb1 : ClassId) (h0 : Heap) (n0 : Nat) (Z0 : n0 ≤ h0.size) (VA : Arv Z h0 a0 kc1 .char (2 : Int32) [(.int c0), (.int c1)] (.int 0)) (VB : Arv Z h0 a2 kb1 .byte (2 : Int32) [(.int 0), (.int 0)] (.int 0)) (nab : a0 ≠ a2) (g2 : n0 ≤ a2) (hc_c0 : ¬ ((255 : Int32) < c0)) (hc_c1 : ¬ ((255 : Int32) < c1)) :
    MF l nm16 jdk_52_method_21_code 7 (some .int) ws (⟨0, 0, 0, 0⟩ : Room) #[(.ref a0), (.int 0), (.ref a2), (.int 0), (.int 2)] Z h0 (Q_cmpI2 Z a0 a2 kc1 c0 c1 kb1 h0 n0) := by
  refine MetFree.of_bodySF (plainFor_of_name own_pn3) hisR ?_
  intro p e s m args below meth c s₁ Bd hml0 hP hK
  obtain ⟨rfl, hZ, hh⟩ := hP
  have hx := Bd.exec
  have hby := Bd.bytes
  have hml : c.maxLocals = 7 := hml0
  have hown : s.vm.findClass "java/lang/StringUTF16" = some m.cls := findClass_of_methodNamed Bd.named
  have hnm := (name_of_methodNamed Bd.named Bd.method).1
  have X0 : Stand p l e (⟨0, 0, 0, 0⟩ : Room) s m #[(.ref a0), (.int 0), (.ref a2), (.int 0), (.int 2)] below meth c s₁ [] 0 0 := Stand.of_body Bd
  have e0 : s₁.heap = h0 := by rw [← hh, Bd.state]; rfl
  have N0 := Fr.nil n0
  have pre0 : PT p e below (s₁.setTop (mkF m 0 #[vr a0, vi 0, vr a2, vi 0, vi 2, .unset, .unset] [])) (s₁.setTop (entryFrame m #[(.ref a0), (.int 0), (.ref a2), (.int 0), (.int 2)] 7)) := fun t k => castTop (own_ef_cmpI2 m a0 a2) k
  have Vc156 := VA
  obtain ⟨cl156, Ar156, q156, S156, N_156, H156, G156⟩ := Vc156
  have hin156 : ¬ ((0 : Int32) < 0 ∨ cl156.slots.size ≤ ((0 : Int32)).toNatClampNeg) := inb_of S156 ⟨by decide, by decide⟩
  have hat156 : cl156.slots[((0 : Int32)).toNatClampNeg]? = some (.int c0) := H156 0 (by rw [S156]; decide)
  have Vc157 := VB
  obtain ⟨cl157, Ar157, q157, S157, N_157, H157, G157⟩ := Vc157
  have hin157 : ¬ ((0 : Int32) < 0 ∨ cl157.slots.size ≤ ((0 : Int32)).toNatClampNeg) := inb_of S157 ⟨by decide, by decide⟩
  obtain ⟨T158, h158, X158, e158, W158, st158⟩ := stB X0 hx hZ e0 Ar157 (j := (0 : Int32)) hin157 (g := (mkF m 31 #[vr a0, vi 0, vr a2, vi 0, vi 2, vi 0, vi c0] [(.int (c0.toInt8.toInt32)), (.int 0), (.ref a2)])) rfl rfl (hb hby od241)
  have V_a2_158 : Arv Z h158 a2 kb1 .byte (2 : Int32) [(.int (nar .byte (c0.toInt8.toInt32))), (.int 0)] (.int 0) := Arv.set Ar157 q157 S157 N_157 H157 G157 (fits_nar_byte _) W158 0 rfl (Nat.le_of_ble_eq_true rfl)
  have N158 := Fr.snoc X158 N0 g2
  have KP158 : Keep h0 h158 [a2] := (Keep.refl h0 [a2]).wr W158 (Or.inl (List.mem_of_getElem? (i := 0) rfl))
  have SZ158 : h0.size ≤ h158.size := KP158.1
  have Z158 : n0 ≤ h158.size := Nat.le_trans Z0 SZ158
  have fx159 := (VA.other W158 nab)
  have Vc160 := fx159
  obtain ⟨cl160, Ar160, q160, S160, N_160, H160, G160⟩ := Vc160
  have hin160 : ¬ (((0 : Int32) + (1 : Int32)) < 0 ∨ cl160.slots.size ≤ (((0 : Int32) + (1 : Int32))).toNatClampNeg) := inb_of S160 ⟨by decide, by decide⟩
  have hat160 : cl160.slots[(((0 : Int32) + (1 : Int32))).toNatClampNeg]? = some (.int c1) := H160 1 (by rw [S160]; decide)
  have Vc161 := V_a2_158
  obtain ⟨cl161, Ar161, q161, S161, N_161, H161, G161⟩ := Vc161
  have hin161 : ¬ (((0 : Int32) + (1 : Int32)) < 0 ∨ cl161.slots.size ≤ (((0 : Int32) + (1 : Int32))).toNatClampNeg) := inb_of S161 ⟨by decide, by decide⟩
  obtain ⟨T162, h162, X162, e162, W162, st162⟩ := stB X158 hx hZ e158 Ar161 (j := ((0 : Int32) + (1 : Int32))) hin161 (g := (mkF m 31 #[vr a0, vi ((0 : Int32) + (1 : Int32)), vr a2, vi ((0 : Int32) + (1 : Int32)), vi 2, vi ((0 : Int32) + (1 : Int32)), vi c1] [(.int (c1.toInt8.toInt32)), (.int ((0 : Int32) + (1 : Int32))), (.ref a2)])) rfl rfl (hb hby od241)
  have V_a2_162 : Arv Z h162 a2 kb1 .byte (2 : Int32) [(.int (nar .byte (c0.toInt8.toInt32))), (.int (nar .byte (c1.toInt8.toInt32)))] (.int 0) := Arv.set Ar161 q161 S161 N_161 H161 G161 (fits_nar_byte _) W162 1 rfl (Nat.le_of_ble_eq_true rfl)
  have N162 := Fr.snoc X162 N158 g2
  have KP162 : Keep h0 h162 [a2] := KP158.wr W162 (Or.inl (List.mem_of_getElem? (i := 0) rfl))
  have SZ162 : h0.size ≤ h162.size := KP162.1
  have Z162 : n0 ≤ h162.size := Nat.le_trans Z0 SZ162
  obtain ⟨fs, hr, hrun, hended, hW, hsame⟩ := X162.leave (v := some (.int 2)) (fun h => by rw [Bd.returns] at h; cases h)
  refine ⟨_, _, pre0 _ ?_, hrun, hended, _, _, rfl, ?_, ⟨_, rfl⟩, hW, hsame.mono (by decide) (by decide)⟩
  · show Steps p.tables e below (s₁.setTop (mkF m 0 #[vr a0, vi 0, vr a2, vi 0, vi 2, .unset, .unset] [])) _
    refine XS.iconst X0.here hx rfl (hb hby od162) ?_
    refine XS.istore X0.here hx rfl (hb hby od163) rfl (l' := #[vr a0, vi 0, vr a2, vi 0, vi 2, vi 0, .unset]) rfl ?_
    refine XS.iload X0.here hx rfl (hb hby od164) rfl ?_
    refine XS.iload X0.here hx rfl (hb hby od165) rfl ?_
    refine XS.icmpNo X0.here hx rfl (hb hby od166) rfl (tlt (by decide : (0 : Int32) < (2 : Int32))).2.1 ?_
    refine XS.aloadN X0.here hx rfl (hb hby od167) rfl rfl ?_
    refine XS.iloadN X0.here hx rfl (hb hby od168) rfl ?_
    refine X0.caload hx (j := (0 : Int32)) (v := (.int c0)) (by rw [e0]; exact Ar156.1) (State.isArrayOf_alike hZ.alike Ar156.2.1) Ar156.2.2 hin156 hat156 (g := (mkF m 12 #[vr a0, vi 0, vr a2, vi 0, vi 2, vi 0, .unset] [(.int 0), (.ref a0)])) rfl rfl (hb hby od169) _ ?_
    refine XS.istore X0.here hx rfl (hb hby od170) rfl (l' := #[vr a0, vi 0, vr a2, vi 0, vi 2, vi 0, vi c0]) rfl ?_
    refine XS.iload X0.here hx rfl (hb hby od171) rfl ?_
    refine XS.sipush X0.here hx rfl (hb hby od172) ?_
    refine XS.icmpYes X0.here hx rfl (pc0 := 20) (pc' := 26) rfl (hb hby od173) rfl (flt hc_c0).2.2.2 (by decide) (by decide) ?_
    refine XS.aloadN X0.here hx rfl (hb hby od237) rfl rfl ?_
    refine XS.iloadN X0.here hx rfl (hb hby od238) rfl ?_
    refine XS.iload X0.here hx rfl (hb hby od239) rfl ?_
    refine XS.i2b X0.here hx rfl (hb hby od240) rfl ?_
    refine st158 _ ?_
    refine XS.iinc X158.here hx rfl (hb hby od242) rfl (l' := #[vr a0, vi ((0 : Int32) + (1 : Int32)), vr a2, vi 0, vi 2, vi 0, vi c0]) rfl ?_
    refine XS.iinc X158.here hx rfl (hb hby od243) rfl (l' := #[vr a0, vi ((0 : Int32) + (1 : Int32)), vr a2, vi ((0 : Int32) + (1 : Int32)), vi 2, vi 0, vi c0]) rfl ?_
    refine XS.iinc X158.here hx rfl (hb hby od244) rfl (l' := #[vr a0, vi ((0 : Int32) + (1 : Int32)), vr a2, vi ((0 : Int32) + (1 : Int32)), vi 2, vi ((0 : Int32) + (1 : Int32)), vi c0]) rfl ?_
    refine XS.goto X158.here hx rfl (pc0 := 41) (pc' := 3) rfl (hb hby od245) (by decide) (by decide) ?_
    refine XS.iload X158.here hx rfl (hb hby od164) rfl ?_
    refine XS.iload X158.here hx rfl (hb hby od165) rfl ?_
    refine XS.icmpNo X158.here hx rfl (hb hby od166) rfl (tlt (by decide : ((0 : Int32) + (1 : Int32)) < (2 : Int32))).2.1 ?_
    refine XS.aloadN X158.here hx rfl (hb hby od167) rfl rfl ?_
    refine XS.iloadN X158.here hx rfl (hb hby od168) rfl ?_
    refine X158.caload hx (j := ((0 : Int32) + (1 : Int32))) (v := (.int c1)) (by rw [e158]; exact Ar160.1) (State.isArrayOf_alike hZ.alike Ar160.2.1) Ar160.2.2 hin160 hat160 (g := (mkF m 12 #[vr a0, vi ((0 : Int32) + (1 : Int32)), vr a2, vi ((0 : Int32) + (1 : Int32)), vi 2, vi ((0 : Int32) + (1 : Int32)), vi c0] [(.int ((0 : Int32) + (1 : Int32))), (.ref a0)])) rfl rfl (hb hby od169) _ ?_
    refine XS.istore X158.here hx rfl (hb hby od170) rfl (l' := #[vr a0, vi ((0 : Int32) + (1 : Int32)), vr a2, vi ((0 : Int32) + (1 : Int32)), vi 2, vi ((0 : Int32) + (1 : Int32)), vi c1]) rfl ?_
    refine XS.iload X158.here hx rfl (hb hby od171) rfl ?_
    refine XS.sipush X158.here hx rfl (hb hby od172) ?_
    refine XS.icmpYes X158.here hx rfl (pc0 := 20) (pc' := 26) rfl (hb hby od173) rfl (flt hc_c1).2.2.2 (by decide) (by decide) ?_
    refine XS.aloadN X158.here hx rfl (hb hby od237) rfl rfl ?_
    refine XS.iloadN X158.here hx rfl (hb hby od238) rfl ?_
    refine XS.iload X158.here hx rfl (hb hby od239) rfl ?_
    refine XS.i2b X158.here hx rfl (hb hby od240) rfl ?_
    refine st162 _ ?_
    refine XS.iinc X162.here hx rfl (hb hby od242) rfl (l' := #[vr a0, vi (((0 : Int32) + (1 : Int32)) + (1 : Int32)), vr a2, vi ((0 : Int32) + (1 : Int32)), vi 2, vi ((0 : Int32) + (1 : Int32)), vi c1]) rfl ?_
    refine XS.iinc X162.here hx rfl (hb hby od243) rfl (l' := #[vr a0, vi (((0 : Int32) + (1 : Int32)) + (1 : Int32)), vr a2, vi (((0 : Int32) + (1 : Int32)) + (1 : Int32)), vi 2, vi ((0 : Int32) + (1 : Int32)), vi c1]) rfl ?_
    refine XS.iinc X162.here hx rfl (hb hby od244) rfl (l' := #[vr a0, vi (((0 : Int32) + (1 : Int32)) + (1 : Int32)), vr a2, vi (((0 : Int32) + (1 : Int32)) + (1 : Int32)), vi 2, vi (((0 : Int32) + (1 : Int32)) + (1 : Int32)), vi c1]) rfl ?_
    refine XS.goto X162.here hx rfl (pc0 := 41) (pc' := 3) rfl (hb hby od245) (by decide) (by decide) ?_
    refine XS.iload X162.here hx rfl (hb hby od164) rfl ?_
    refine XS.iload X162.here hx rfl (hb hby od165) rfl ?_
    refine XS.icmpYes X162.here hx rfl (pc0 := 7) (pc' := 44) rfl (hb hby od166) rfl (flt (by decide : ¬ ((((0 : Int32) + (1 : Int32)) + (1 : Int32)) < (2 : Int32)))).2.1 (by decide) (by decide) ?_
    refine XS.iload X162.here hx rfl (hb hby od246) rfl ?_
    exact own_retI X162 hx Bd.returns (hb hby od247) hr
  · show Q_cmpI2 Z a0 a2 kc1 c0 c1 kb1 h0 n0 _ T162.heap _
    rw [e162]
    exact ⟨rfl, N162, KP162, V_a2_162⟩
theorem own_ef_cmpA2 (m : MethodId) (a0 : Addr) : entryFrame m #[(.ref a0), (.int 0), (.int 2)] 6 = mkF m 0 #[vr a0, vi 0, vi 2, .unset, .unset, .unset] [] := by first | (simp [entryFrame, mkF, argsToLocals, Value.category]; done) | rfl
def Q_cmpA2 (Z : State) (a0 : Addr) (kc1 : ClassId) (c0 : Int32) (c1 : Int32) (h0 : Heap) (n0 : Nat) (v : Option Value) (h : Heap) (L : List Loc) : Prop := ∃ (r : Addr) (k : ClassId), v = some (.ref r) ∧ Fr n0 L ∧ Ext h0 h ∧ h0.size ≤ r ∧ Arv Z h r k .byte (2 : Int32) [(.int (nar .byte (c0.toInt8.toInt32))), (.int (nar .byte (c1.toInt8.toInt32)))] (.int 0)
theorem rm_cmpA2 (l : Launch) (Z : State) (a0' : Array Value) (hw : ∀ d ∈ tables_1, d.before a0' Z = true) (ws : List Jvm.Cond) (a0 : Addr) (kc1 : ClassId) (c0 : Int32) (c1 : Int32) (h0 : Heap) (n0 : Nat) (Z0 : n0 ≤ h0.size) (VA : Arv Z h0 a0 kc1 .char (2 : Int32) [(.int c0), (.int c1)] (.int 0)) (hc_c0 : ¬ ((255 : Int32) < c0)) (hc_c1 : ¬ ((255 : Int32) < c1)) :
    MF l nm17 jdk_52_method_16_code 6 (some (.array .byte)) ws (⟨1, 1, 2, 18⟩ : Room) #[(.ref a0), (.int 0), (.int 2)] Z h0 (Q_cmpA2 Z a0 kc1 c0 c1 h0 n0) := by
  refine MetFree.of_bodySF (plainFor_of_name own_pn3) hisR ?_
  intro p e s m args below meth c s₁ Bd hml0 hP hK
  obtain ⟨rfl, hZ, hh⟩ := hP
  have hx := Bd.exec
  have hby := Bd.bytes
  have hml : c.maxLocals = 6 := hml0
  have hown : s.vm.findClass "java/lang/StringUTF16" = some m.cls := findClass_of_methodNamed Bd.named
  have hnm := (name_of_methodNamed Bd.named Bd.method).1
  have X0 : Stand p l e (⟨1, 1, 2, 18⟩ : Room) s m #[(.ref a0), (.int 0), (.int 2)] below meth c s₁ [] 0 0 := Stand.of_body Bd
  have e0 : s₁.heap = h0 := by rw [← hh, Bd.state]; rfl
  have N0 := Fr.nil n0
  have pre0 : PT p e below (s₁.setTop (mkF m 0 #[vr a0, vi 0, vi 2, .unset, .unset, .unset] [])) (s₁.setTop (entryFrame m #[(.ref a0), (.int 0), (.int 2)] 6)) := fun t k => castTop (own_ef_cmpA2 m a0) k
  obtain ⟨T163, h163, k163, X163, e163, E163, A163, st163⟩ := newP X0 hx hZ (ow hw 17 rfl) e0 (g := (mkF m 1 #[vr a0, vi 0, vi 2, .unset, .unset, .unset] [(.int 2)])) rfl (hb hby od177) rfl (by decide) (cap := 2) (by decide) (by decide) (by decide) (by decide)
  obtain ⟨b163, g163⟩ : ∃ z, z = h0.size := ⟨_, rfl⟩
  rw [← g163] at A163 st163
  have ne163_a0_b163 : a0 ≠ b163 := Nat.ne_of_lt (Nat.lt_of_lt_of_le VA.lt (Nat.le_of_eq g163.symm))
  have V_b163 : Arv Z h163 b163 k163 .byte (2 : Int32) [(.int 0), (.int 0)] (.int 0) := (Arv.new A163 (by decide)).pad (pad_rep [] (.int 0) 2)
  have g_b163 : n0 ≤ b163 := Nat.le_trans Z0 (Nat.le_of_eq g163.symm)
  have sz_b163 : h0.size ≤ b163 := Nat.le_trans (Nat.le_refl _) (Nat.le_of_eq g163.symm)
  have EX163 : Ext h0 h163 := E163
  have SZ163 : h0.size ≤ h163.size := EX163.1
  have Z163 : n0 ≤ h163.size := Nat.le_trans Z0 SZ163
  have fx165 := (VA.ext E163)
  obtain ⟨_, _, ⟨T164, L164, k164, n164⟩, -, X164, ⟨Lc164, hQ164, l164, y164, z164⟩, st164⟩ := Jvm.LawKit.callS X163 hx (y := nm16) hown (mvT hZ (ow hw 43 rfl)) (mvT hZ (ow hw 44 rfl)) (mvT hZ (ow hw 41 rfl)) (mvT hZ (ow hw 45 rfl)) (by decide) (backOf (W := 0) (rm_cmpI2 l Z a0' hw [] a0 b163 kc1 c0 c1 k163 h163 n0 Z163 fx165 V_b163 ne163_a0_b163 g_b163 hc_c0 hc_c1) hZ (ow hw 45 rfl) (ow hw 41 rfl) (by decide) (by decide)) (g := (mkF m 9 #[vr a0, vi 0, vi 2, vr b163, .unset, .unset] [(.int 2), (.int 0), (.ref b163), (.int 0), (.ref a0)])) rfl (by rw [hml]; rfl) (argsL := [(.ref a0), (.int 0), (.ref b163), (.int 0), (.int 2)]) (rest := []) (lenOf own_pd10 rfl) rfl (by show 2 * 0 + _ ≤ _; exact Nat.le_of_eq rfl) (hb hby od184) (fun _ _ => ⟨rfl, e163, (by decide : 1 + 0 ≤ _), (by decide : 2 + 0 ≤ _)⟩)
  dsimp only [Pt.U, Pt.locs, Pt.cells, Pt.slots] at X164 l164 y164 z164 st164 hQ164
  subst l164 y164 z164
  obtain ⟨rfl, N164q, K164, V164⟩ := hQ164
  have N164 := Fr.app N0 N164q
  have EX164 : Ext h0 T164.heap := own_extkeep EX163 K164 sz_b163
  have SZ164 : h0.size ≤ T164.heap.size := EX164.1
  have Z164 : n0 ≤ T164.heap.size := Nat.le_trans Z0 SZ164
  obtain ⟨fs, hr, hrun, hended, hW, hsame⟩ := X164.leave (v := some (.ref b163)) (fun h => by rw [Bd.returns] at h; cases h)
  refine ⟨_, _, pre0 _ ?_, hrun, hended, _, _, rfl, ?_, ⟨_, rfl⟩, hW, hsame.mono (by decide) (by decide)⟩
  · show Steps p.tables e below (s₁.setTop (mkF m 0 #[vr a0, vi 0, vi 2, .unset, .unset, .unset] [])) _
    refine XS.iloadN X0.here hx rfl (hb hby od176) rfl ?_
    refine st163 _ ?_
    refine XS.astoreN X163.here hx rfl (hb hby od178) rfl rfl (l' := #[vr a0, vi 0, vi 2, vr b163, .unset, .unset]) rfl ?_
    refine XS.aloadN X163.here hx rfl (hb hby od179) rfl rfl ?_
    refine XS.iloadN X163.here hx rfl (hb hby od180) rfl ?_
    refine XS.aloadN X163.here hx rfl (hb hby od181) rfl rfl ?_
    refine XS.iconst X163.here hx rfl (hb hby od182) ?_
    refine XS.iloadN X163.here hx rfl (hb hby od183) rfl ?_
    refine st164 _ ?_
    refine XS.istore X164.here hx rfl (hb hby od185) rfl (l' := #[vr a0, vi 0, vi 2, vr b163, vi 2, .unset]) rfl ?_
    refine XS.iload X164.here hx rfl (hb hby od186) rfl ?_
    refine XS.iloadN X164.here hx rfl (hb hby od187) rfl ?_
    refine XS.icmpYes X164.here hx rfl (pc0 := 17) (pc' := 57) rfl (hb hby od188) rfl (teq (by decide : (2 : Int32) = (2 : Int32))).1 (by decide) (by decide) ?_
    refine XS.aloadN X164.here hx rfl (hb hby od248) rfl rfl ?_
    exact own_retA X164 hx Bd.returns rfl rfl rfl (hb hby od249) hr
  · show Q_cmpA2 Z a0 kc1 c0 c1 h0 n0 _ T164.heap _
    exact ⟨_, _, rfl, N164, EX164, sz_b163, V164⟩
def F_cfl2  : Int32 := (nar .byte (((((2 : Int32) - (2 : Int32)).toUInt32 >>> ((31 : Int32) &&& 31).toUInt32).toInt32).toInt8.toInt32))
theorem own_ef_cfl2 (m : MethodId) (a0 : Addr) : entryFrame m #[(.ref a0), (.int 2)] 2 = mkF m 0 #[vr a0, vi 2] [] := by first | (simp [entryFrame, mkF, argsToLocals, Value.category]; done) | rfl
def Q_cfl2 (Z : State) (a0 : Addr) (kb1 : ClassId) (vs1 : List Value) (dv1 : Value) (h0 : Heap) (n0 : Nat) (v : Option Value) (h : Heap) (L : List Loc) : Prop := v = some (.int F_cfl2) ∧ Fr n0 L ∧ h = h0
theorem rm_cfl2 (l : Launch) (Z : State) (a0' : Array Value) (hw : ∀ d ∈ tables_1, d.before a0' Z = true) (ws : List Jvm.Cond) (a0 : Addr) (kb1 : ClassId) (vs1 : List Value) (dv1 : Value) (h0 : Heap) (n0 : Nat) (Z0 : n0 ≤ h0.size) (VB : Arv Z h0 a0 kb1 .byte (2 : Int32) vs1 dv1) :
    MF l nm18 jdk_52_method_15_code 2 (some .byte) ws (⟨0, 0, 0, 0⟩ : Room) #[(.ref a0), (.int 2)] Z h0 (Q_cfl2 Z a0 kb1 vs1 dv1 h0 n0) := by
  refine MetFree.of_bodySF (plainFor_of_name own_pn3) hisR ?_
  intro p e s m args below meth c s₁ Bd hml0 hP hK
  obtain ⟨rfl, hZ, hh⟩ := hP
  have hx := Bd.exec
  have hby := Bd.bytes
  have hml : c.maxLocals = 2 := hml0
  have hown : s.vm.findClass "java/lang/StringUTF16" = some m.cls := findClass_of_methodNamed Bd.named
  have hnm := (name_of_methodNamed Bd.named Bd.method).1
  have X0 : Stand p l e (⟨0, 0, 0, 0⟩ : Room) s m #[(.ref a0), (.int 2)] below meth c s₁ [] 0 0 := Stand.of_body Bd
  have e0 : s₁.heap = h0 := by rw [← hh, Bd.state]; rfl
  have N0 := Fr.nil n0
  have pre0 : PT p e below (s₁.setTop (mkF m 0 #[vr a0, vi 2] [])) (s₁.setTop (entryFrame m #[(.ref a0), (.int 2)] 2)) := fun t k => castTop (own_ef_cfl2 m a0) k
  have Vc166 := VB
  obtain ⟨cl166, Ar166, q166, S166, N_166, H166, G166⟩ := Vc166
  obtain ⟨fs, hr, hrun, hended, hW, hsame⟩ := X0.leave (v := some (.int (nar .byte (((((2 : Int32) - (2 : Int32)).toUInt32 >>> ((31 : Int32) &&& 31).toUInt32).toInt32).toInt8.toInt32)))) (fun h => by rw [Bd.returns] at h; cases h)
  refine ⟨_, _, pre0 _ ?_, hrun, hended, _, _, rfl, ?_, ⟨_, rfl⟩, hW, hsame.mono (by decide) (by decide)⟩
  · show Steps p.tables e below (s₁.setTop (mkF m 0 #[vr a0, vi 2] [])) _
    refine XS.iloadN X0.here hx rfl (hb hby od201) rfl ?_
    refine XS.aloadN X0.here hx rfl (hb hby od202) rfl rfl ?_
    refine X0.arraylength hx (by rw [e0]; exact Ar166.1) (State.isArrayOf_alike hZ.alike Ar166.2.1) (g := (mkF m 2 #[vr a0, vi 2] [(.ref a0), (.int 2)])) rfl rfl (hb hby od203) _ ?_
    rw [len_of S166 N_166]
    refine XS.isub X0.here hx rfl (hb hby od204) rfl ?_
    refine XS.bipush X0.here hx rfl (hb hby od205) ?_
    refine XS.iushr X0.here hx rfl (hb hby od206) rfl ?_
    refine XS.i2b X0.here hx rfl (hb hby od207) rfl ?_
    exact retN X0 hx (t := .byte) Bd.returns (by simp) (hb hby od208) hr
  · show Q_cfl2 Z a0 kb1 vs1 dv1 h0 n0 _ s₁.heap _
    refine ⟨?_, N0, e0⟩
    rw [F_cfl2]
theorem own_ef_in4_2 (m : MethodId) (a0 : Addr) (a1 : Addr) : entryFrame m #[(.ref a0), (.ref a1), (.int 0), (.int 2), .null] 6 = mkF m 0 #[vr a0, vr a1, vi 0, vi 2, .val .null, .unset] [] := by first | (simp [entryFrame, mkF, argsToLocals, Value.category]; done) | rfl
def Q_in4_2 (Z : State) (a0 : Addr) (a1 : Addr) (kc1 : ClassId) (c0 : Int32) (c1 : Int32) (kc : Int32) (h0 : Heap) (n0 : Nat) (v : Option Value) (h : Heap) (L : List Loc) : Prop := v = none ∧ Fr n0 L ∧ Keep h0 h [a0] ∧ Exa Z h a0 "java/lang/String" ∧ Fld Z h a0 "java/lang/String" "coder" "B" (.int 0) ∧ ∃ (b : Addr) (k : ClassId), Fld Z h a0 "java/lang/String" "value" "[B" (.ref b) ∧ Arv Z h b k .byte (2 : Int32) [(.int (nar .byte (c0.toInt8.toInt32))), (.int (nar .byte (c1.toInt8.toInt32)))] (.int 0)
theorem rm_in4_2 (l : Launch) (Z : State) (a0' : Array Value) (hw : ∀ d ∈ tables_1, d.before a0' Z = true) (ws : List Jvm.Cond) (a0 : Addr) (a1 : Addr) (kc1 : ClassId) (c0 : Int32) (c1 : Int32) (kc : Int32) (h0 : Heap) (n0 : Nat) (Z0 : n0 ≤ h0.size) (E_t : Exa Z h0 a0 "java/lang/String") (F0v : Fld Z h0 a0 "java/lang/String" "value" "[B" .null) (F0c : Fld Z h0 a0 "java/lang/String" "coder" "B" (.int 0)) (g_t : n0 ≤ a0) (VA : Arv Z h0 a1 kc1 .char (2 : Int32) [(.int c0), (.int c1)] (.int 0)) (na1 : a0 ≠ a1) (hc_c0 : ¬ ((255 : Int32) < c0)) (hc_c1 : ¬ ((255 : Int32) < c1)) (S_cs : Sta Z h0 "java/lang/String" "COMPACT_STRINGS" "Z" (.int kc)) (hkc : ¬ (kc = (0 : Int32))) :
    MF l nm19 jdk_42_method_149_code 6 none ws (⟨2, 1, 2, 35⟩ : Room) #[(.ref a0), (.ref a1), (.int 0), (.int 2), .null] Z h0 (Q_in4_2 Z a0 a1 kc1 c0 c1 kc h0 n0) := by
  refine MetFree.of_bodySF (plainFor_of_name own_pn1) hisR ?_
  intro p e s m args below meth c s₁ Bd hml0 hP hK
  obtain ⟨rfl, hZ, hh⟩ := hP
  have hx := Bd.exec
  have hby := Bd.bytes
  have hml : c.maxLocals = 6 := hml0
  have hown : s.vm.findClass "java/lang/String" = some m.cls := findClass_of_methodNamed Bd.named
  have hnm := (name_of_methodNamed Bd.named Bd.method).1
  have X0 : Stand p l e (⟨2, 1, 2, 35⟩ : Room) s m #[(.ref a0), (.ref a1), (.int 0), (.int 2), .null] below meth c s₁ [] 0 0 := Stand.of_body Bd
  have e0 : s₁.heap = h0 := by rw [← hh, Bd.state]; rfl
  have N0 := Fr.nil n0
  have pre0 : PT p e below (s₁.setTop (mkF m 0 #[vr a0, vr a1, vi 0, vi 2, .val .null, .unset] [])) (s₁.setTop (entryFrame m #[(.ref a0), (.ref a1), (.int 0), (.int 2), .null] 6)) := fun t k => castTop (own_ef_in4_2 m a0 a1) k
  obtain ⟨T167, X167, e167, st167⟩ := initO X0 hx hZ hown (ow hw 13 rfl) (ow hw 14 rfl) (ow hw 15 rfl) e0 (g := (mkF m 1 #[vr a0, vr a1, vi 0, vi 2, .val .null, .unset] [(.ref a0)])) rfl (by rw [hml]; rfl) rfl (hb hby od210) (by decide) (W := 0) (by show 2 * 0 + _ ≤ _; exact Nat.le_of_eq rfl) (by decide)
  obtain ⟨T168, X168, e168, st168⟩ := getS2 X167 hx hZ hown (host := "") (Or.inl (ow hw 38 rfl)) Via.refl e167 S_cs (g := (mkF m 27 #[vr a0, vr a1, vi 0, vi 2, .val .null, .unset] [])) rfl (hb hby od213)
  obtain ⟨_, _, ⟨T169, L169, k169, n169⟩, -, X169, ⟨Lc169, hQ169, l169, y169, z169⟩, st169⟩ := Jvm.LawKit.callS X168 hx (y := nm17) hown (mvT hZ (ow hw 39 rfl)) (mvT hZ (ow hw 40 rfl)) (mvT hZ (ow hw 41 rfl)) (mvT hZ (ow hw 42 rfl)) (by decide) (backOf (W := 0) (rm_cmpA2 l Z a0' hw [] a1 kc1 c0 c1 h0 n0 Z0 VA hc_c0 hc_c1) hZ (ow hw 42 rfl) (ow hw 41 rfl) (by decide) (by decide)) (g := (mkF m 36 #[vr a0, vr a1, vi 0, vi 2, .val .null, .unset] [(.int 2), (.int 0), (.ref a1)])) rfl (by rw [hml]; rfl) (argsL := [(.ref a1), (.int 0), (.int 2)]) (rest := []) (lenOf own_pd11 rfl) rfl (by show 2 * 0 + _ ≤ _; exact Nat.le_of_eq rfl) (hb hby od218) (fun _ _ => ⟨rfl, e168, (by decide : 0 + 1 ≤ _), (by decide : 0 + 2 ≤ _)⟩)
  dsimp only [Pt.U, Pt.locs, Pt.cells, Pt.slots] at X169 l169 y169 z169 st169 hQ169
  subst l169 y169 z169
  obtain ⟨r169, kk169, rfl, N169q, E169, zz169, V169⟩ := hQ169
  have N169 := Fr.app N0 N169q
  have ne169_a0_r169 : a0 ≠ r169 := Nat.ne_of_lt (Nat.lt_of_lt_of_le E_t.lt zz169)
  have ne169_a1_r169 : a1 ≠ r169 := Nat.ne_of_lt (Nat.lt_of_lt_of_le VA.lt zz169)
  have g_r169 : n0 ≤ r169 := Nat.le_trans Z0 zz169
  have sz_r169 : h0.size ≤ r169 := Nat.le_trans (Nat.le_refl _) zz169
  have KP169 : Keep h0 T169.heap [a0] := (Keep.refl h0 [a0]).ext E169
  have SZ169 : h0.size ≤ T169.heap.size := KP169.1
  have Z169 : n0 ≤ T169.heap.size := Nat.le_trans Z0 SZ169
  obtain ⟨_, _, ⟨T170, L170, k170, n170⟩, -, X170, ⟨Lc170, hQ170, l170, y170, z170⟩, st170⟩ := Jvm.LawKit.callS X169 hx (y := nm18) hown (mvT hZ (ow hw 46 rfl)) (mvT hZ (ow hw 47 rfl)) (mvT hZ (ow hw 41 rfl)) (mvT hZ (ow hw 48 rfl)) (by decide) (backOf (W := 1) (rm_cfl2 l Z a0' hw [] r169 kk169 _ _ T169.heap n0 Z169 V169) hZ (ow hw 48 rfl) (ow hw 41 rfl) (by decide) (by decide)) (g := (mkF m 45 #[vr a0, vr a1, vi 0, vi 2, .val .null, vr r169] [(.int 2), (.ref r169), (.ref a0)])) rfl (by rw [hml]; rfl) (argsL := [(.ref r169), (.int 2)]) (rest := [(.ref a0)]) (lenOf own_pd12 rfl) rfl (by show 2 * 0 + _ ≤ _; exact Nat.le_of_eq rfl) (hb hby od223) (fun _ _ => ⟨rfl, rfl, (by decide : 1 + 0 ≤ _), (by decide : 2 + 0 ≤ _)⟩)
  dsimp only [Pt.U, Pt.locs, Pt.cells, Pt.slots] at X170 l170 y170 z170 st170 hQ170
  subst l170 y170 z170
  obtain ⟨rfl, N170q, e170⟩ := hQ170
  have N170 := Fr.app N169 N170q
  have q170 : F_cfl2 = (0 : Int32) := by decide
  rw [q170] at st170
  have fx172 := (E_t.ext E169)
  have fx173 := (F0c.ext E169)
  have Fo171 := fx173
  obtain ⟨T174, h174, X174, e174, W174, st174⟩ := putFN X170 hx hZ hown (ow hw 23 rfl) Via.refl e170 Fo171 fx172 (Or.inr ⟨(ow hw 19 rfl), rfl, hnm⟩) (ow hw 4 rfl) (ty := .byte) (v' := (.int (nar .byte (0 : Int32)))) (by decide) rfl (fits_nar_byte _) (g := (mkF m 48 #[vr a0, vr a1, vi 0, vi 2, .val .null, vr r169] [(.int 0), (.ref a0)])) rfl rfl (hb hby od224)
  have Fw174 : Fld Z h174 a0 "java/lang/String" "coder" "B" (.int 0) := Fo171.same W174
  have N174 := Fr.snoc X174 N170 g_t
  have KP174 : Keep h0 h174 [a0] := KP169.wr W174 (Or.inl (List.mem_of_getElem? (i := 0) rfl))
  have SZ174 : h0.size ≤ h174.size := KP174.1
  have Z174 : n0 ≤ h174.size := Nat.le_trans Z0 SZ174
  have fx176 := (fx172.wr W174)
  have fx177 := ((F0v.ext E169).other W174 (Or.inr (slot_ne (a0 := a0') (Or.inr (ow hw 18 rfl)) (Or.inr (ow hw 19 rfl)) (by decide) (t := (.array .byte)) (t' := .byte) (by decide) (by decide))))
  have Fo175 := fx177
  obtain ⟨T178, h178, X178, e178, W178, st178⟩ := putF X174 hx hZ hown (host := "") (Or.inl (ow hw 22 rfl)) Via.refl e174 Fo175 fx176 (Or.inr ⟨(ow hw 18 rfl), rfl, hnm⟩) (ow hw 4 rfl) (ty := (.array .byte)) (by decide) rfl rfl (g := (mkF m 54 #[vr a0, vr a1, vi 0, vi 2, .val .null, vr r169] [(.ref r169), (.ref a0)])) rfl rfl (hb hby od227)
  have Fw178 : Fld Z h178 a0 "java/lang/String" "value" "[B" (.ref r169) := Fo175.same W178
  have N178 := Fr.snoc X178 N174 g_t
  have KP178 : Keep h0 h178 [a0] := KP174.wr W178 (Or.inl (List.mem_of_getElem? (i := 0) rfl))
  have SZ178 : h0.size ≤ h178.size := KP178.1
  have Z178 : n0 ≤ h178.size := Nat.le_trans Z0 SZ178
  have fx179 := (fx176.wr W178)
  have fx180 := (Fw174.other W178 (Or.inr (slot_ne (a0 := a0') (Or.inr (ow hw 19 rfl)) (Or.inr (ow hw 18 rfl)) (by decide) (t := .byte) (t' := (.array .byte)) (by decide) (by decide))))
  have fx181 := ((V169.other W174 (Ne.symm ne169_a0_r169)).other W178 (Ne.symm ne169_a0_r169))
  obtain ⟨fs, hr, hrun, hended, hW, hsame⟩ := X178.leave (v := none) (fun _ => rfl)
  refine ⟨_, _, pre0 _ ?_, hrun, hended, _, _, rfl, ?_, ⟨_, rfl⟩, hW, hsame.mono (by decide) (by decide)⟩
  · show Steps p.tables e below (s₁.setTop (mkF m 0 #[vr a0, vr a1, vi 0, vi 2, .val .null, .unset] [])) _
    refine XS.aloadN X0.here hx rfl (hb hby od209) rfl rfl ?_
    refine st167 _ ?_
    refine XS.iloadN X167.here hx rfl (hb hby od211) rfl ?_
    refine XS.ifYes X167.here hx rfl (pc0 := 5) (pc' := 27) rfl (hb hby od212) rfl ((if0 _ _).trans (feq (by decide : ¬ ((2 : Int32) = (0 : Int32)))).2) (by decide) (by decide) ?_
    refine st168 _ ?_
    refine XS.ifNo X168.here hx rfl (hb hby od214) rfl ((if0 _ _).trans (feq hkc).1) ?_
    refine XS.aloadN X168.here hx rfl (hb hby od215) rfl rfl ?_
    refine XS.iloadN X168.here hx rfl (hb hby od216) rfl ?_
    refine XS.iloadN X168.here hx rfl (hb hby od217) rfl ?_
    refine st169 _ ?_
    refine XS.astore X169.here hx rfl (hb hby od219) rfl rfl (l' := #[vr a0, vr a1, vi 0, vi 2, .val .null, vr r169]) rfl ?_
    refine XS.aloadN X169.here hx rfl (hb hby od220) rfl rfl ?_
    refine XS.aload X169.here hx rfl (hb hby od221) rfl rfl ?_
    refine XS.iloadN X169.here hx rfl (hb hby od222) rfl ?_
    refine st170 _ ?_
    refine st174 _ ?_
    refine XS.aloadN X174.here hx rfl (hb hby od225) rfl rfl ?_
    refine XS.aload X174.here hx rfl (hb hby od226) rfl rfl ?_
    refine st178 _ ?_
    exact X178.returnOut hx Bd.returns (hb hby od228) hr
  · show Q_in4_2 Z a0 a1 kc1 c0 c1 kc h0 n0 _ T178.heap _
    rw [e178]
    exact ⟨rfl, N178, KP178, fx179, fx180, _, _, Fw178, fx181⟩
theorem own_ef_in1_2 (m : MethodId) (a0 : Addr) (a1 : Addr) : entryFrame m #[(.ref a0), (.ref a1)] 2 = mkF m 0 #[vr a0, vr a1] [] := by first | (simp [entryFrame, mkF, argsToLocals, Value.category]; done) | rfl
def Q_in1_2 (Z : State) (a0 : Addr) (a1 : Addr) (kc1 : ClassId) (c0 : Int32) (c1 : Int32) (kc : Int32) (h0 : Heap) (n0 : Nat) (v : Option Value) (h : Heap) (L : List Loc) : Prop := v = none ∧ Fr n0 L ∧ Keep h0 h [a0] ∧ Exa Z h a0 "java/lang/String" ∧ Fld Z h a0 "java/lang/String" "coder" "B" (.int 0) ∧ ∃ (b : Addr) (k : ClassId), Fld Z h a0 "java/lang/String" "value" "[B" (.ref b) ∧ Arv Z h b k .byte (2 : Int32) [(.int (nar .byte (c0.toInt8.toInt32))), (.int (nar .byte (c1.toInt8.toInt32)))] (.int 0)
theorem rm_in1_2 (l : Launch) (Z : State) (a0' : Array Value) (hw : ∀ d ∈ tables_1, d.before a0' Z = true) (ws : List Jvm.Cond) (a0 : Addr) (a1 : Addr) (kc1 : ClassId) (c0 : Int32) (c1 : Int32) (kc : Int32) (h0 : Heap) (n0 : Nat) (Z0 : n0 ≤ h0.size) (E_t : Exa Z h0 a0 "java/lang/String") (F0v : Fld Z h0 a0 "java/lang/String" "value" "[B" .null) (F0c : Fld Z h0 a0 "java/lang/String" "coder" "B" (.int 0)) (g_t : n0 ≤ a0) (VA : Arv Z h0 a1 kc1 .char (2 : Int32) [(.int c0), (.int c1)] (.int 0)) (na1 : a0 ≠ a1) (hc_c0 : ¬ ((255 : Int32) < c0)) (hc_c1 : ¬ ((255 : Int32) < c1)) (S_cs : Sta Z h0 "java/lang/String" "COMPACT_STRINGS" "Z" (.int kc)) (hkc : ¬ (kc = (0 : Int32))) :
    MF l nm20 jdk_42_method_3_code 2 none ws (⟨5, 2, 6, 74⟩ : Room) #[(.ref a0), (.ref a1)] Z h0 (Q_in1_2 Z a0 a1 kc1 c0 c1 kc h0 n0) := by
  refine MetFree.of_bodySF (plainFor_of_name own_pn1) hisR ?_
  intro p e s m args below meth c s₁ Bd hml0 hP hK
  obtain ⟨rfl, hZ, hh⟩ := hP
  have hx := Bd.exec
  have hby := Bd.bytes
  have hml : c.maxLocals = 2 := hml0
  have hown : s.vm.findClass "java/lang/String" = some m.cls := findClass_of_methodNamed Bd.named
  have hnm := (name_of_methodNamed Bd.named Bd.method).1
  have X0 : Stand p l e (⟨5, 2, 6, 74⟩ : Room) s m #[(.ref a0), (.ref a1)] below meth c s₁ [] 0 0 := Stand.of_body Bd
  have e0 : s₁.heap = h0 := by rw [← hh, Bd.state]; rfl
  have N0 := Fr.nil n0
  have pre0 : PT p e below (s₁.setTop (mkF m 0 #[vr a0, vr a1] [])) (s₁.setTop (entryFrame m #[(.ref a0), (.ref a1)] 2)) := fun t k => castTop (own_ef_in1_2 m a0 a1) k
  have Vc182 := VA
  obtain ⟨cl182, Ar182, q182, S182, N_182, H182, G182⟩ := Vc182
  obtain ⟨_, _, ⟨T183, L183, k183, n183⟩, -, X183, ⟨Lc183, hQ183, l183, y183, z183⟩, st183⟩ := X0.specialBack hx (y := nm19) rfl hown (mvT hZ (ow hw 9 rfl)) (mvT hZ (ow hw 10 rfl)) (mvT hZ (ow hw 12 rfl)) (by decide) (backOf (W := 0) (rm_in4_2 l Z a0' hw [] a0 a1 kc1 c0 c1 kc h0 n0 Z0 E_t F0v F0c g_t VA na1 hc_c0 hc_c1 S_cs hkc) hZ (ow hw 12 rfl) (ow hw 5 rfl) (by decide) (by decide)) (g := (mkF m 6 #[vr a0, vr a1] [.null, (.int 2), (.int 0), (.ref a1), (.ref a0)])) rfl (by rw [hml]; rfl) (Steps.refl _) (a := a0) (argsL := [(.ref a1), (.int 0), (.int 2), .null]) (rest := []) (lenOf own_pd13 rfl) rfl (by show 2 * 0 + _ ≤ _; exact Nat.le_of_eq rfl) (hb hby od235) (fun _ _ => ⟨rfl, e0, (by decide : 0 + 1 ≤ _), (by decide : 0 + 2 ≤ _)⟩)
  dsimp only [Pt.U, Pt.locs, Pt.cells, Pt.slots] at X183 l183 y183 z183 st183 hQ183
  subst l183 y183 z183
  obtain ⟨rfl, N183q, K183, Ei183, Ci183, bi183, ki183, Fi183, Vi183⟩ := hQ183
  have N183 := Fr.app N0 N183q
  have KP183 : Keep h0 T183.heap [a0] := (Keep.refl h0 [a0]).trans K183 (allS (Or.inl (List.mem_of_getElem? (i := 0) rfl)) all0)
  have SZ183 : h0.size ≤ T183.heap.size := KP183.1
  have Z183 : n0 ≤ T183.heap.size := Nat.le_trans Z0 SZ183
  obtain ⟨fs, hr, hrun, hended, hW, hsame⟩ := X183.leave (v := none) (fun _ => rfl)
  refine ⟨_, _, pre0 _ ?_, hrun, hended, _, _, rfl, ?_, ⟨_, rfl⟩, hW, hsame.mono (by decide) (by decide)⟩
  · show Steps p.tables e below (s₁.setTop (mkF m 0 #[vr a0, vr a1] [])) _
    refine XS.aloadN X0.here hx rfl (hb hby od229) rfl rfl ?_
    refine XS.aloadN X0.here hx rfl (hb hby od230) rfl rfl ?_
    refine XS.iconst X0.here hx rfl (hb hby od231) ?_
    refine XS.aloadN X0.here hx rfl (hb hby od232) rfl rfl ?_
    refine X0.arraylength hx (by rw [e0]; exact Ar182.1) (State.isArrayOf_alike hZ.alike Ar182.2.1) (g := (mkF m 4 #[vr a0, vr a1] [(.ref a1), (.int 0), (.ref a1), (.ref a0)])) rfl rfl (hb hby od233) _ ?_
    rw [len_of S182 N_182]
    refine XS.aconstNull X0.here hx rfl (hb hby od234) ?_
    refine st183.trans ?_
    exact X183.returnOut hx Bd.returns (hb hby od236) hr
  · show Q_in1_2 Z a0 a1 kc1 c0 c1 kc h0 n0 _ T183.heap _
    exact ⟨rfl, N183, KP183, Ei183, Ci183, _, _, Fi183, Vi183⟩
def Q_in1C2 (Z : State) (a0 : Addr) (c0 : Int32) (c1 : Int32) (h0 : Heap) (n0 : Nat) (v : Option Value) (h : Heap) (L : List Loc) : Prop := v = none ∧ Fr n0 L ∧ Keep h0 h [a0] ∧ CS Z h a0 [c0, c1]
theorem rm_in1C2 (l : Launch) (Z : State) (a0' : Array Value) (hw : ∀ d ∈ tables_1, d.before a0' Z = true) (ws : List Jvm.Cond) (a0 : Addr) (a1 : Addr) (kc1 : ClassId) (c0 : Int32) (c1 : Int32) (kc : Int32) (h0 : Heap) (n0 : Nat) (Z0 : n0 ≤ h0.size) (E_t : Exa Z h0 a0 "java/lang/String") (F0v : Fld Z h0 a0 "java/lang/String" "value" "[B" .null) (F0c : Fld Z h0 a0 "java/lang/String" "coder" "B" (.int 0)) (g_t : n0 ≤ a0) (VA : Arv Z h0 a1 kc1 .char (2 : Int32) [(.int c0), (.int c1)] (.int 0)) (na1 : a0 ≠ a1) (hb_c0 : 0 ≤ c0.toInt ∧ c0.toInt ≤ 65535) (hb_c1 : 0 ≤ c1.toInt ∧ c1.toInt ≤ 65535) (S_cs : Sta Z h0 "java/lang/String" "COMPACT_STRINGS" "Z" (.int kc)) (hkc : ¬ (kc = (0 : Int32))) (S_ad : Sta Z h0 "java/lang/StringUTF16" "$assertionsDisabled" "Z" (.int 1)) (S_hi : Sta Z h0 "java/lang/StringUTF16" "HI_BYTE_SHIFT" "I" (.int 0)) (S_lo : Sta Z h0 "java/lang/StringUTF16" "LO_BYTE_SHIFT" "I" (.int 8)) :
    MF l nm20 jdk_42_method_3_code 2 none ws (⟨5, 2, 6, 74⟩ : Room) #[(.ref a0), (.ref a1)] Z h0 (Q_in1C2 Z a0 c0 c1 h0 n0) := by
  by_cases hup : ¬ ((255 : Int32) < c0) ∧ ¬ ((255 : Int32) < c1)
  · obtain ⟨p0, p1⟩ := hup
    simp only [Int32.lt_iff_toInt_lt, Int32.reduceToInt] at *
    exact own_mono (rm_in1_2 l Z a0' hw ws a0 a1 kc1 c0 c1 kc h0 n0 Z0 E_t F0v F0c g_t VA na1 (by simp only [Int32.lt_iff_toInt_lt, Int32.reduceToInt]; exact p0) (by simp only [Int32.lt_iff_toInt_lt, Int32.reduceToInt]; exact p1) S_cs hkc) (fun _ _ _ _ ⟨v, L, q1, ⟨r1, r2, r3, r4, r5, b, k, r6, r7⟩, q5⟩ => ⟨v, L, q1, ⟨r1, r2, r3, r4, b, k, r6, Or.inl ⟨r5, (by intro c hc; simp only [List.mem_cons, List.not_mem_nil, or_false] at hc; rcases hc with rfl | rfl <;> omega), r7⟩⟩, q5⟩)
  · exact own_mono (rm_in1U2 l Z a0' hw ws a0 a1 kc1 c0 c1 kc h0 n0 Z0 E_t F0v F0c g_t VA na1 hup hb_c0 hb_c1 S_cs hkc S_ad S_hi S_lo) (fun _ _ _ _ ⟨v, L, q1, ⟨r1, r2, r3, r4, r5, b, k, r6, r7⟩, q5⟩ => ⟨v, L, q1, ⟨r1, r2, r3, r4, b, k, r6, Or.inr ⟨r5, (by intro c hc; simp only [List.mem_cons, List.not_mem_nil, or_false] at hc; rcases hc with rfl | rfl <;> omega), by simp, r7⟩⟩, q5⟩)
def F_nbl3  : Int32 := ((3 : Int32) <<< ((1 : Int32) &&& 31))
theorem own_ef_nbl3 (m : MethodId)  : entryFrame m #[(.int 3)] 1 = mkF m 0 #[vi 3] [] := by first | (simp [entryFrame, mkF, argsToLocals, Value.category]; done) | rfl
def Q_nbl3 (Z : State)  (h0 : Heap) (n0 : Nat) (v : Option Value) (h : Heap) (L : List Loc) : Prop := v = some (.int F_nbl3) ∧ Fr n0 L ∧ h = h0
theorem rm_nbl3 (l : Launch) (Z : State) (a0' : Array Value) (hw : ∀ d ∈ tables_1, d.before a0' Z = true) (ws : List Jvm.Cond)  (h0 : Heap) (n0 : Nat) (Z0 : n0 ≤ h0.size) :
    MF l nm12 jdk_52_method_3_code 1 (some .int) ws (⟨0, 0, 0, 0⟩ : Room) #[(.int 3)] Z h0 (Q_nbl3 Z  h0 n0) := by
  refine MetFree.of_bodySF (plainFor_of_name own_pn3) hisR ?_
  intro p e s m args below meth c s₁ Bd hml0 hP hK
  obtain ⟨rfl, hZ, hh⟩ := hP
  have hx := Bd.exec
  have hby := Bd.bytes
  have hml : c.maxLocals = 1 := hml0
  have hown : s.vm.findClass "java/lang/StringUTF16" = some m.cls := findClass_of_methodNamed Bd.named
  have hnm := (name_of_methodNamed Bd.named Bd.method).1
  have X0 : Stand p l e (⟨0, 0, 0, 0⟩ : Room) s m #[(.int 3)] below meth c s₁ [] 0 0 := Stand.of_body Bd
  have e0 : s₁.heap = h0 := by rw [← hh, Bd.state]; rfl
  have N0 := Fr.nil n0
  have pre0 : PT p e below (s₁.setTop (mkF m 0 #[vi 3] [])) (s₁.setTop (entryFrame m #[(.int 3)] 1)) := fun t k => castTop (own_ef_nbl3 m ) k
  obtain ⟨fs, hr, hrun, hended, hW, hsame⟩ := X0.leave (v := some (.int ((3 : Int32) <<< ((1 : Int32) &&& 31)))) (fun h => by rw [Bd.returns] at h; cases h)
  refine ⟨_, _, pre0 _ ?_, hrun, hended, _, _, rfl, ?_, ⟨_, rfl⟩, hW, hsame.mono (by decide) (by decide)⟩
  · show Steps p.tables e below (s₁.setTop (mkF m 0 #[vi 3] [])) _
    refine XS.iloadN X0.here hx rfl (hb hby od108) rfl ?_
    refine XS.ifYes X0.here hx rfl (pc0 := 1) (pc' := 12) rfl (hb hby od109) rfl ((if0 _ _).trans (flt (by decide : ¬ ((3 : Int32) < (0 : Int32)))).2.1) (by decide) (by decide) ?_
    refine XS.iloadN X0.here hx rfl (hb hby od110) rfl ?_
    refine X0.ldcInt hx hown (mvT hZ (ow hw 97 rfl)) (g := (mkF m 13 #[vi 3] [(.int 3)])) rfl (hb hby od111) _ ?_
    refine XS.icmpYes X0.here hx rfl (pc0 := 15) (pc' := 55) rfl (hb hby od112) rfl (tlt (by decide : (3 : Int32) < (1073741823 : Int32))).1 (by decide) (by decide) ?_
    refine XS.iloadN X0.here hx rfl (hb hby od113) rfl ?_
    refine XS.iconst X0.here hx rfl (hb hby od114) ?_
    refine XS.ishl X0.here hx rfl (hb hby od115) rfl ?_
    exact own_retI X0 hx Bd.returns (hb hby od116) hr
  · show Q_nbl3 Z  h0 n0 _ s₁.heap _
    refine ⟨?_, N0, e0⟩
    rw [F_nbl3]
theorem own_ef_nbf3 (m : MethodId)  : entryFrame m #[(.int 3)] 1 = mkF m 0 #[vi 3] [] := by first | (simp [entryFrame, mkF, argsToLocals, Value.category]; done) | rfl
def Q_nbf3 (Z : State)  (h0 : Heap) (n0 : Nat) (v : Option Value) (h : Heap) (L : List Loc) : Prop := ∃ (r : Addr) (k : ClassId), v = some (.ref r) ∧ Fr n0 L ∧ Ext h0 h ∧ h0.size ≤ r ∧ Arv Z h r k .byte (6 : Int32) [(.int 0), (.int 0), (.int 0), (.int 0), (.int 0), (.int 0)] (.int 0)
theorem rm_nbf3 (l : Launch) (Z : State) (a0' : Array Value) (hw : ∀ d ∈ tables_1, d.before a0' Z = true) (ws : List Jvm.Cond)  (h0 : Heap) (n0 : Nat) (Z0 : n0 ≤ h0.size) :
    MF l nm13 jdk_52_method_2_code 1 (some (.array .byte)) ws (⟨1, 1, 6, 12⟩ : Room) #[(.int 3)] Z h0 (Q_nbf3 Z  h0 n0) := by
  refine MetFree.of_bodySF (plainFor_of_name own_pn3) hisR ?_
  intro p e s m args below meth c s₁ Bd hml0 hP hK
  obtain ⟨rfl, hZ, hh⟩ := hP
  have hx := Bd.exec
  have hby := Bd.bytes
  have hml : c.maxLocals = 1 := hml0
  have hown : s.vm.findClass "java/lang/StringUTF16" = some m.cls := findClass_of_methodNamed Bd.named
  have hnm := (name_of_methodNamed Bd.named Bd.method).1
  have X0 : Stand p l e (⟨1, 1, 6, 12⟩ : Room) s m #[(.int 3)] below meth c s₁ [] 0 0 := Stand.of_body Bd
  have e0 : s₁.heap = h0 := by rw [← hh, Bd.state]; rfl
  have N0 := Fr.nil n0
  have pre0 : PT p e below (s₁.setTop (mkF m 0 #[vi 3] [])) (s₁.setTop (entryFrame m #[(.int 3)] 1)) := fun t k => castTop (own_ef_nbf3 m ) k
  obtain ⟨_, _, ⟨T184, L184, k184, n184⟩, -, X184, ⟨Lc184, hQ184, l184, y184, z184⟩, st184⟩ := Jvm.LawKit.callS X0 hx (y := nm12) hown (mvT hZ (ow hw 94 rfl)) (mvT hZ (ow hw 95 rfl)) (mvT hZ (ow hw 41 rfl)) (mvT hZ (ow hw 96 rfl)) (by decide) (backOf (W := 0) (rm_nbl3 l Z a0' hw []  h0 n0 Z0) hZ (ow hw 96 rfl) (ow hw 41 rfl) (by decide) (by decide)) (g := (mkF m 1 #[vi 3] [(.int 3)])) rfl (by rw [hml]; rfl) (argsL := [(.int 3)]) (rest := []) (lenOf own_pd7 rfl) rfl (by show 2 * 0 + _ ≤ _; exact Nat.le_of_eq rfl) (hb hby od118) (fun _ _ => ⟨rfl, e0, (by decide : 0 + 0 ≤ _), (by decide : 0 + 0 ≤ _)⟩)
  dsimp only [Pt.U, Pt.locs, Pt.cells, Pt.slots] at X184 l184 y184 z184 st184 hQ184
  subst l184 y184 z184
  obtain ⟨rfl, N184q, e184⟩ := hQ184
  have N184 := Fr.app N0 N184q
  have q184 : F_nbl3 = (6 : Int32) := by decide
  rw [q184] at st184
  obtain ⟨T185, h185, k185, X185, e185, E185, A185, st185⟩ := newP X184 hx hZ (ow hw 17 rfl) e184 (g := (mkF m 4 #[vi 3] [(.int 6)])) rfl (hb hby od119) rfl (by decide) (cap := 6) (by decide) (by decide) (by decide) (by decide)
  obtain ⟨b185, g185⟩ : ∃ z, z = h0.size := ⟨_, rfl⟩
  rw [← g185] at A185 st185
  have V_b185 : Arv Z h185 b185 k185 .byte (6 : Int32) [(.int 0), (.int 0), (.int 0), (.int 0), (.int 0), (.int 0)] (.int 0) := (Arv.new A185 (by decide)).pad (pad_rep [] (.int 0) 6)
  have g_b185 : n0 ≤ b185 := Nat.le_trans Z0 (Nat.le_of_eq g185.symm)
  have sz_b185 : h0.size ≤ b185 := Nat.le_trans (Nat.le_refl _) (Nat.le_of_eq g185.symm)
  have EX185 : Ext h0 h185 := E185
  have SZ185 : h0.size ≤ h185.size := EX185.1
  have Z185 : n0 ≤ h185.size := Nat.le_trans Z0 SZ185
  obtain ⟨fs, hr, hrun, hended, hW, hsame⟩ := X185.leave (v := some (.ref b185)) (fun h => by rw [Bd.returns] at h; cases h)
  refine ⟨_, _, pre0 _ ?_, hrun, hended, _, _, rfl, ?_, ⟨_, rfl⟩, hW, hsame.mono (by decide) (by decide)⟩
  · show Steps p.tables e below (s₁.setTop (mkF m 0 #[vi 3] [])) _
    refine XS.iloadN X0.here hx rfl (hb hby od117) rfl ?_
    refine st184 _ ?_
    refine st185 _ ?_
    exact own_retA X185 hx Bd.returns rfl rfl rfl (hb hby od120) hr
  · show Q_nbf3 Z  h0 n0 _ T185.heap _
    rw [e185]
    exact ⟨_, _, rfl, N184, EX185, sz_b185, V_b185⟩
theorem own_ef_put3_0 (m : MethodId) (a0 : Addr) (p2 : Int32) : entryFrame m #[(.ref a0), (.int 0), (.int p2)] 3 = mkF m 0 #[vr a0, vi 0, vi p2] [] := by first | (simp [entryFrame, mkF, argsToLocals, Value.category]; done) | rfl
def Q_put3_0 (Z : State) (a0 : Addr) (p2 : Int32) (kb1 : ClassId) (x0 : Int32) (x1 : Int32) (x2 : Int32) (x3 : Int32) (x4 : Int32) (x5 : Int32) (h0 : Heap) (n0 : Nat) (v : Option Value) (h : Heap) (L : List Loc) : Prop := v = none ∧ Fr n0 L ∧ Keep h0 h [a0] ∧ Arv Z h a0 kb1 .byte (6 : Int32) [(.int (nar .byte ((p2 >>> ((0 : Int32) &&& 31)).toInt8.toInt32))), (.int (nar .byte ((p2 >>> ((8 : Int32) &&& 31)).toInt8.toInt32))), (.int x2), (.int x3), (.int x4), (.int x5)] (.int 0)
theorem rm_put3_0 (l : Launch) (Z : State) (a0' : Array Value) (hw : ∀ d ∈ tables_1, d.before a0' Z = true) (ws : List Jvm.Cond) (a0 : Addr) (p2 : Int32) (kb1 : ClassId) (x0 : Int32) (x1 : Int32) (x2 : Int32) (x3 : Int32) (x4 : Int32) (x5 : Int32) (h0 : Heap) (n0 : Nat) (Z0 : n0 ≤ h0.size) (VB : Arv Z h0 a0 kb1 .byte (6 : Int32) [(.int x0), (.int x1), (.int x2), (.int x3), (.int x4), (.int x5)] (.int 0)) (g0 : n0 ≤ a0) (S_ad : Sta Z h0 "java/lang/StringUTF16" "$assertionsDisabled" "Z" (.int 1)) (S_hi : Sta Z h0 "java/lang/StringUTF16" "HI_BYTE_SHIFT" "I" (.int 0)) (S_lo : Sta Z h0 "java/lang/StringUTF16" "LO_BYTE_SHIFT" "I" (.int 8)) :
    MF l nm14 jdk_52_method_4_code 3 none ws (⟨0, 0, 0, 0⟩ : Room) #[(.ref a0), (.int 0), (.int p2)] Z h0 (Q_put3_0 Z a0 p2 kb1 x0 x1 x2 x3 x4 x5 h0 n0) := by
  refine MetFree.of_bodySF (plainFor_of_name own_pn3) hisR ?_
  intro p e s m args below meth c s₁ Bd hml0 hP hK
  obtain ⟨rfl, hZ, hh⟩ := hP
  have hx := Bd.exec
  have hby := Bd.bytes
  have hml : c.maxLocals = 3 := hml0
  have hown : s.vm.findClass "java/lang/StringUTF16" = some m.cls := findClass_of_methodNamed Bd.named
  have hnm := (name_of_methodNamed Bd.named Bd.method).1
  have X0 : Stand p l e (⟨0, 0, 0, 0⟩ : Room) s m #[(.ref a0), (.int 0), (.int p2)] below meth c s₁ [] 0 0 := Stand.of_body Bd
  have e0 : s₁.heap = h0 := by rw [← hh, Bd.state]; rfl
  have N0 := Fr.nil n0
  have pre0 : PT p e below (s₁.setTop (mkF m 0 #[vr a0, vi 0, vi p2] [])) (s₁.setTop (entryFrame m #[(.ref a0), (.int 0), (.int p2)] 3)) := fun t k => castTop (own_ef_put3_0 m a0 p2) k
  obtain ⟨T186, X186, e186, st186⟩ := getS2 X0 hx hZ hown (host := "") (Or.inl (ow hw 101 rfl)) Via.refl e0 S_ad (g := (mkF m 0 #[vr a0, vi 0, vi p2] [])) rfl (hb hby od121)
  obtain ⟨T187, X187, e187, st187⟩ := getS2 X186 hx hZ hown (host := "") (Or.inl (ow hw 102 rfl)) Via.refl e186 S_hi (g := (mkF m 38 #[vr a0, vi (((0 : Int32) <<< ((1 : Int32) &&& 31)) + (1 : Int32)), vi p2] [(.int p2), (.int ((0 : Int32) <<< ((1 : Int32) &&& 31))), (.ref a0)])) rfl (hb hby od131)
  have Vc188 := VB
  obtain ⟨cl188, Ar188, q188, S188, N_188, H188, G188⟩ := Vc188
  have hin188 : ¬ (((0 : Int32) <<< ((1 : Int32) &&& 31)) < 0 ∨ cl188.slots.size ≤ (((0 : Int32) <<< ((1 : Int32) &&& 31))).toNatClampNeg) := inb_of S188 ⟨by decide, by decide⟩
  obtain ⟨T189, h189, X189, e189, W189, st189⟩ := stB X187 hx hZ e187 Ar188 (j := ((0 : Int32) <<< ((1 : Int32) &&& 31))) hin188 (g := (mkF m 43 #[vr a0, vi (((0 : Int32) <<< ((1 : Int32) &&& 31)) + (1 : Int32)), vi p2] [(.int ((p2 >>> ((0 : Int32) &&& 31)).toInt8.toInt32)), (.int ((0 : Int32) <<< ((1 : Int32) &&& 31))), (.ref a0)])) rfl rfl (hb hby od134)
  have V_a0_189 : Arv Z h189 a0 kb1 .byte (6 : Int32) [(.int (nar .byte ((p2 >>> ((0 : Int32) &&& 31)).toInt8.toInt32))), (.int x1), (.int x2), (.int x3), (.int x4), (.int x5)] (.int 0) := Arv.set Ar188 q188 S188 N_188 H188 G188 (fits_nar_byte _) W189 0 rfl (Nat.le_of_ble_eq_true rfl)
  have N189 := Fr.snoc X189 N0 g0
  have KP189 : Keep h0 h189 [a0] := (Keep.refl h0 [a0]).wr W189 (Or.inl (List.mem_of_getElem? (i := 0) rfl))
  have SZ189 : h0.size ≤ h189.size := KP189.1
  have Z189 : n0 ≤ h189.size := Nat.le_trans Z0 SZ189
  obtain ⟨T190, X190, e190, st190⟩ := getS2 X189 hx hZ hown (host := "") (Or.inl (ow hw 103 rfl)) Via.refl e189 (S_lo.wr W189) (g := (mkF m 47 #[vr a0, vi (((0 : Int32) <<< ((1 : Int32) &&& 31)) + (1 : Int32)), vi p2] [(.int p2), (.int (((0 : Int32) <<< ((1 : Int32) &&& 31)) + (1 : Int32))), (.ref a0)])) rfl (hb hby od138)
  have Vc191 := V_a0_189
  obtain ⟨cl191, Ar191, q191, S191, N_191, H191, G191⟩ := Vc191
  have hin191 : ¬ ((((0 : Int32) <<< ((1 : Int32) &&& 31)) + (1 : Int32)) < 0 ∨ cl191.slots.size ≤ ((((0 : Int32) <<< ((1 : Int32) &&& 31)) + (1 : Int32))).toNatClampNeg) := inb_of S191 ⟨by decide, by decide⟩
  obtain ⟨T192, h192, X192, e192, W192, st192⟩ := stB X190 hx hZ e190 Ar191 (j := (((0 : Int32) <<< ((1 : Int32) &&& 31)) + (1 : Int32))) hin191 (g := (mkF m 52 #[vr a0, vi (((0 : Int32) <<< ((1 : Int32) &&& 31)) + (1 : Int32)), vi p2] [(.int ((p2 >>> ((8 : Int32) &&& 31)).toInt8.toInt32)), (.int (((0 : Int32) <<< ((1 : Int32) &&& 31)) + (1 : Int32))), (.ref a0)])) rfl rfl (hb hby od141)
  have V_a0_192 : Arv Z h192 a0 kb1 .byte (6 : Int32) [(.int (nar .byte ((p2 >>> ((0 : Int32) &&& 31)).toInt8.toInt32))), (.int (nar .byte ((p2 >>> ((8 : Int32) &&& 31)).toInt8.toInt32))), (.int x2), (.int x3), (.int x4), (.int x5)] (.int 0) := Arv.set Ar191 q191 S191 N_191 H191 G191 (fits_nar_byte _) W192 1 rfl (Nat.le_of_ble_eq_true rfl)
  have N192 := Fr.snoc X192 N189 g0
  have KP192 : Keep h0 h192 [a0] := KP189.wr W192 (Or.inl (List.mem_of_getElem? (i := 0) rfl))
  have SZ192 : h0.size ≤ h192.size := KP192.1
  have Z192 : n0 ≤ h192.size := Nat.le_trans Z0 SZ192
  obtain ⟨fs, hr, hrun, hended, hW, hsame⟩ := X192.leave (v := none) (fun _ => rfl)
  refine ⟨_, _, pre0 _ ?_, hrun, hended, _, _, rfl, ?_, ⟨_, rfl⟩, hW, hsame.mono (by decide) (by decide)⟩
  · show Steps p.tables e below (s₁.setTop (mkF m 0 #[vr a0, vi 0, vi p2] [])) _
    refine st186 _ ?_
    refine XS.ifYes X186.here hx rfl (pc0 := 3) (pc' := 28) rfl (hb hby od122) rfl ((if0 _ _).trans (feq (by decide : ¬ ((1 : Int32) = (0 : Int32)))).2) (by decide) (by decide) ?_
    refine XS.iloadN X186.here hx rfl (hb hby od123) rfl ?_
    refine XS.iconst X186.here hx rfl (hb hby od124) ?_
    refine XS.ishl X186.here hx rfl (hb hby od125) rfl ?_
    refine XS.istoreN X186.here hx rfl (hb hby od126) rfl (l' := #[vr a0, vi ((0 : Int32) <<< ((1 : Int32) &&& 31)), vi p2]) rfl ?_
    refine XS.aloadN X186.here hx rfl (hb hby od127) rfl rfl ?_
    refine XS.iloadN X186.here hx rfl (hb hby od128) rfl ?_
    refine XS.iinc X186.here hx rfl (hb hby od129) rfl (l' := #[vr a0, vi (((0 : Int32) <<< ((1 : Int32) &&& 31)) + (1 : Int32)), vi p2]) rfl ?_
    refine XS.iloadN X186.here hx rfl (hb hby od130) rfl ?_
    refine st187 _ ?_
    refine XS.ishr X187.here hx rfl (hb hby od132) rfl ?_
    refine XS.i2b X187.here hx rfl (hb hby od133) rfl ?_
    refine st189 _ ?_
    refine XS.aloadN X189.here hx rfl (hb hby od135) rfl rfl ?_
    refine XS.iloadN X189.here hx rfl (hb hby od136) rfl ?_
    refine XS.iloadN X189.here hx rfl (hb hby od137) rfl ?_
    refine st190 _ ?_
    refine XS.ishr X190.here hx rfl (hb hby od139) rfl ?_
    refine XS.i2b X190.here hx rfl (hb hby od140) rfl ?_
    refine st192 _ ?_
    exact X192.returnOut hx Bd.returns (hb hby od142) hr
  · show Q_put3_0 Z a0 p2 kb1 x0 x1 x2 x3 x4 x5 h0 n0 _ T192.heap _
    rw [e192]
    exact ⟨rfl, N192, KP192, V_a0_192⟩
theorem own_ef_put3_1 (m : MethodId) (a0 : Addr) (p2 : Int32) : entryFrame m #[(.ref a0), (.int 1), (.int p2)] 3 = mkF m 0 #[vr a0, vi 1, vi p2] [] := by first | (simp [entryFrame, mkF, argsToLocals, Value.category]; done) | rfl
def Q_put3_1 (Z : State) (a0 : Addr) (p2 : Int32) (kb1 : ClassId) (x0 : Int32) (x1 : Int32) (x2 : Int32) (x3 : Int32) (x4 : Int32) (x5 : Int32) (h0 : Heap) (n0 : Nat) (v : Option Value) (h : Heap) (L : List Loc) : Prop := v = none ∧ Fr n0 L ∧ Keep h0 h [a0] ∧ Arv Z h a0 kb1 .byte (6 : Int32) [(.int x0), (.int x1), (.int (nar .byte ((p2 >>> ((0 : Int32) &&& 31)).toInt8.toInt32))), (.int (nar .byte ((p2 >>> ((8 : Int32) &&& 31)).toInt8.toInt32))), (.int x4), (.int x5)] (.int 0)
theorem rm_put3_1 (l : Launch) (Z : State) (a0' : Array Value) (hw : ∀ d ∈ tables_1, d.before a0' Z = true) (ws : List Jvm.Cond) (a0 : Addr) (p2 : Int32) (kb1 : ClassId) (x0 : Int32) (x1 : Int32) (x2 : Int32) (x3 : Int32) (x4 : Int32) (x5 : Int32) (h0 : Heap) (n0 : Nat) (Z0 : n0 ≤ h0.size) (VB : Arv Z h0 a0 kb1 .byte (6 : Int32) [(.int x0), (.int x1), (.int x2), (.int x3), (.int x4), (.int x5)] (.int 0)) (g0 : n0 ≤ a0) (S_ad : Sta Z h0 "java/lang/StringUTF16" "$assertionsDisabled" "Z" (.int 1)) (S_hi : Sta Z h0 "java/lang/StringUTF16" "HI_BYTE_SHIFT" "I" (.int 0)) (S_lo : Sta Z h0 "java/lang/StringUTF16" "LO_BYTE_SHIFT" "I" (.int 8)) :
    MF l nm14 jdk_52_method_4_code 3 none ws (⟨0, 0, 0, 0⟩ : Room) #[(.ref a0), (.int 1), (.int p2)] Z h0 (Q_put3_1 Z a0 p2 kb1 x0 x1 x2 x3 x4 x5 h0 n0) := by
  refine MetFree.of_bodySF (plainFor_of_name own_pn3) hisR ?_
  intro p e s m args below meth c s₁ Bd hml0 hP hK
  obtain ⟨rfl, hZ, hh⟩ := hP
  have hx := Bd.exec
  have hby := Bd.bytes
  have hml : c.maxLocals = 3 := hml0
  have hown : s.vm.findClass "java/lang/StringUTF16" = some m.cls := findClass_of_methodNamed Bd.named
  have hnm := (name_of_methodNamed Bd.named Bd.method).1
  have X0 : Stand p l e (⟨0, 0, 0, 0⟩ : Room) s m #[(.ref a0), (.int 1), (.int p2)] below meth c s₁ [] 0 0 := Stand.of_body Bd
  have e0 : s₁.heap = h0 := by rw [← hh, Bd.state]; rfl
  have N0 := Fr.nil n0
  have pre0 : PT p e below (s₁.setTop (mkF m 0 #[vr a0, vi 1, vi p2] [])) (s₁.setTop (entryFrame m #[(.ref a0), (.int 1), (.int p2)] 3)) := fun t k => castTop (own_ef_put3_1 m a0 p2) k
  obtain ⟨T193, X193, e193, st193⟩ := getS2 X0 hx hZ hown (host := "") (Or.inl (ow hw 101 rfl)) Via.refl e0 S_ad (g := (mkF m 0 #[vr a0, vi 1, vi p2] [])) rfl (hb hby od121)
  obtain ⟨T194, X194, e194, st194⟩ := getS2 X193 hx hZ hown (host := "") (Or.inl (ow hw 102 rfl)) Via.refl e193 S_hi (g := (mkF m 38 #[vr a0, vi (((1 : Int32) <<< ((1 : Int32) &&& 31)) + (1 : Int32)), vi p2] [(.int p2), (.int ((1 : Int32) <<< ((1 : Int32) &&& 31))), (.ref a0)])) rfl (hb hby od131)
  have Vc195 := VB
  obtain ⟨cl195, Ar195, q195, S195, N_195, H195, G195⟩ := Vc195
  have hin195 : ¬ (((1 : Int32) <<< ((1 : Int32) &&& 31)) < 0 ∨ cl195.slots.size ≤ (((1 : Int32) <<< ((1 : Int32) &&& 31))).toNatClampNeg) := inb_of S195 ⟨by decide, by decide⟩
  obtain ⟨T196, h196, X196, e196, W196, st196⟩ := stB X194 hx hZ e194 Ar195 (j := ((1 : Int32) <<< ((1 : Int32) &&& 31))) hin195 (g := (mkF m 43 #[vr a0, vi (((1 : Int32) <<< ((1 : Int32) &&& 31)) + (1 : Int32)), vi p2] [(.int ((p2 >>> ((0 : Int32) &&& 31)).toInt8.toInt32)), (.int ((1 : Int32) <<< ((1 : Int32) &&& 31))), (.ref a0)])) rfl rfl (hb hby od134)
  have V_a0_196 : Arv Z h196 a0 kb1 .byte (6 : Int32) [(.int x0), (.int x1), (.int (nar .byte ((p2 >>> ((0 : Int32) &&& 31)).toInt8.toInt32))), (.int x3), (.int x4), (.int x5)] (.int 0) := Arv.set Ar195 q195 S195 N_195 H195 G195 (fits_nar_byte _) W196 2 rfl (Nat.le_of_ble_eq_true rfl)
  have N196 := Fr.snoc X196 N0 g0
  have KP196 : Keep h0 h196 [a0] := (Keep.refl h0 [a0]).wr W196 (Or.inl (List.mem_of_getElem? (i := 0) rfl))
  have SZ196 : h0.size ≤ h196.size := KP196.1
  have Z196 : n0 ≤ h196.size := Nat.le_trans Z0 SZ196
  obtain ⟨T197, X197, e197, st197⟩ := getS2 X196 hx hZ hown (host := "") (Or.inl (ow hw 103 rfl)) Via.refl e196 (S_lo.wr W196) (g := (mkF m 47 #[vr a0, vi (((1 : Int32) <<< ((1 : Int32) &&& 31)) + (1 : Int32)), vi p2] [(.int p2), (.int (((1 : Int32) <<< ((1 : Int32) &&& 31)) + (1 : Int32))), (.ref a0)])) rfl (hb hby od138)
  have Vc198 := V_a0_196
  obtain ⟨cl198, Ar198, q198, S198, N_198, H198, G198⟩ := Vc198
  have hin198 : ¬ ((((1 : Int32) <<< ((1 : Int32) &&& 31)) + (1 : Int32)) < 0 ∨ cl198.slots.size ≤ ((((1 : Int32) <<< ((1 : Int32) &&& 31)) + (1 : Int32))).toNatClampNeg) := inb_of S198 ⟨by decide, by decide⟩
  obtain ⟨T199, h199, X199, e199, W199, st199⟩ := stB X197 hx hZ e197 Ar198 (j := (((1 : Int32) <<< ((1 : Int32) &&& 31)) + (1 : Int32))) hin198 (g := (mkF m 52 #[vr a0, vi (((1 : Int32) <<< ((1 : Int32) &&& 31)) + (1 : Int32)), vi p2] [(.int ((p2 >>> ((8 : Int32) &&& 31)).toInt8.toInt32)), (.int (((1 : Int32) <<< ((1 : Int32) &&& 31)) + (1 : Int32))), (.ref a0)])) rfl rfl (hb hby od141)
  have V_a0_199 : Arv Z h199 a0 kb1 .byte (6 : Int32) [(.int x0), (.int x1), (.int (nar .byte ((p2 >>> ((0 : Int32) &&& 31)).toInt8.toInt32))), (.int (nar .byte ((p2 >>> ((8 : Int32) &&& 31)).toInt8.toInt32))), (.int x4), (.int x5)] (.int 0) := Arv.set Ar198 q198 S198 N_198 H198 G198 (fits_nar_byte _) W199 3 rfl (Nat.le_of_ble_eq_true rfl)
  have N199 := Fr.snoc X199 N196 g0
  have KP199 : Keep h0 h199 [a0] := KP196.wr W199 (Or.inl (List.mem_of_getElem? (i := 0) rfl))
  have SZ199 : h0.size ≤ h199.size := KP199.1
  have Z199 : n0 ≤ h199.size := Nat.le_trans Z0 SZ199
  obtain ⟨fs, hr, hrun, hended, hW, hsame⟩ := X199.leave (v := none) (fun _ => rfl)
  refine ⟨_, _, pre0 _ ?_, hrun, hended, _, _, rfl, ?_, ⟨_, rfl⟩, hW, hsame.mono (by decide) (by decide)⟩
  · show Steps p.tables e below (s₁.setTop (mkF m 0 #[vr a0, vi 1, vi p2] [])) _
    refine st193 _ ?_
    refine XS.ifYes X193.here hx rfl (pc0 := 3) (pc' := 28) rfl (hb hby od122) rfl ((if0 _ _).trans (feq (by decide : ¬ ((1 : Int32) = (0 : Int32)))).2) (by decide) (by decide) ?_
    refine XS.iloadN X193.here hx rfl (hb hby od123) rfl ?_
    refine XS.iconst X193.here hx rfl (hb hby od124) ?_
    refine XS.ishl X193.here hx rfl (hb hby od125) rfl ?_
    refine XS.istoreN X193.here hx rfl (hb hby od126) rfl (l' := #[vr a0, vi ((1 : Int32) <<< ((1 : Int32) &&& 31)), vi p2]) rfl ?_
    refine XS.aloadN X193.here hx rfl (hb hby od127) rfl rfl ?_
    refine XS.iloadN X193.here hx rfl (hb hby od128) rfl ?_
    refine XS.iinc X193.here hx rfl (hb hby od129) rfl (l' := #[vr a0, vi (((1 : Int32) <<< ((1 : Int32) &&& 31)) + (1 : Int32)), vi p2]) rfl ?_
    refine XS.iloadN X193.here hx rfl (hb hby od130) rfl ?_
    refine st194 _ ?_
    refine XS.ishr X194.here hx rfl (hb hby od132) rfl ?_
    refine XS.i2b X194.here hx rfl (hb hby od133) rfl ?_
    refine st196 _ ?_
    refine XS.aloadN X196.here hx rfl (hb hby od135) rfl rfl ?_
    refine XS.iloadN X196.here hx rfl (hb hby od136) rfl ?_
    refine XS.iloadN X196.here hx rfl (hb hby od137) rfl ?_
    refine st197 _ ?_
    refine XS.ishr X197.here hx rfl (hb hby od139) rfl ?_
    refine XS.i2b X197.here hx rfl (hb hby od140) rfl ?_
    refine st199 _ ?_
    exact X199.returnOut hx Bd.returns (hb hby od142) hr
  · show Q_put3_1 Z a0 p2 kb1 x0 x1 x2 x3 x4 x5 h0 n0 _ T199.heap _
    rw [e199]
    exact ⟨rfl, N199, KP199, V_a0_199⟩
theorem own_ef_put3_2 (m : MethodId) (a0 : Addr) (p2 : Int32) : entryFrame m #[(.ref a0), (.int 2), (.int p2)] 3 = mkF m 0 #[vr a0, vi 2, vi p2] [] := by first | (simp [entryFrame, mkF, argsToLocals, Value.category]; done) | rfl
def Q_put3_2 (Z : State) (a0 : Addr) (p2 : Int32) (kb1 : ClassId) (x0 : Int32) (x1 : Int32) (x2 : Int32) (x3 : Int32) (x4 : Int32) (x5 : Int32) (h0 : Heap) (n0 : Nat) (v : Option Value) (h : Heap) (L : List Loc) : Prop := v = none ∧ Fr n0 L ∧ Keep h0 h [a0] ∧ Arv Z h a0 kb1 .byte (6 : Int32) [(.int x0), (.int x1), (.int x2), (.int x3), (.int (nar .byte ((p2 >>> ((0 : Int32) &&& 31)).toInt8.toInt32))), (.int (nar .byte ((p2 >>> ((8 : Int32) &&& 31)).toInt8.toInt32)))] (.int 0)
theorem rm_put3_2 (l : Launch) (Z : State) (a0' : Array Value) (hw : ∀ d ∈ tables_1, d.before a0' Z = true) (ws : List Jvm.Cond) (a0 : Addr) (p2 : Int32) (kb1 : ClassId) (x0 : Int32) (x1 : Int32) (x2 : Int32) (x3 : Int32) (x4 : Int32) (x5 : Int32) (h0 : Heap) (n0 : Nat) (Z0 : n0 ≤ h0.size) (VB : Arv Z h0 a0 kb1 .byte (6 : Int32) [(.int x0), (.int x1), (.int x2), (.int x3), (.int x4), (.int x5)] (.int 0)) (g0 : n0 ≤ a0) (S_ad : Sta Z h0 "java/lang/StringUTF16" "$assertionsDisabled" "Z" (.int 1)) (S_hi : Sta Z h0 "java/lang/StringUTF16" "HI_BYTE_SHIFT" "I" (.int 0)) (S_lo : Sta Z h0 "java/lang/StringUTF16" "LO_BYTE_SHIFT" "I" (.int 8)) :
    MF l nm14 jdk_52_method_4_code 3 none ws (⟨0, 0, 0, 0⟩ : Room) #[(.ref a0), (.int 2), (.int p2)] Z h0 (Q_put3_2 Z a0 p2 kb1 x0 x1 x2 x3 x4 x5 h0 n0) := by
  refine MetFree.of_bodySF (plainFor_of_name own_pn3) hisR ?_
  intro p e s m args below meth c s₁ Bd hml0 hP hK
  obtain ⟨rfl, hZ, hh⟩ := hP
  have hx := Bd.exec
  have hby := Bd.bytes
  have hml : c.maxLocals = 3 := hml0
  have hown : s.vm.findClass "java/lang/StringUTF16" = some m.cls := findClass_of_methodNamed Bd.named
  have hnm := (name_of_methodNamed Bd.named Bd.method).1
  have X0 : Stand p l e (⟨0, 0, 0, 0⟩ : Room) s m #[(.ref a0), (.int 2), (.int p2)] below meth c s₁ [] 0 0 := Stand.of_body Bd
  have e0 : s₁.heap = h0 := by rw [← hh, Bd.state]; rfl
  have N0 := Fr.nil n0
  have pre0 : PT p e below (s₁.setTop (mkF m 0 #[vr a0, vi 2, vi p2] [])) (s₁.setTop (entryFrame m #[(.ref a0), (.int 2), (.int p2)] 3)) := fun t k => castTop (own_ef_put3_2 m a0 p2) k
  obtain ⟨T200, X200, e200, st200⟩ := getS2 X0 hx hZ hown (host := "") (Or.inl (ow hw 101 rfl)) Via.refl e0 S_ad (g := (mkF m 0 #[vr a0, vi 2, vi p2] [])) rfl (hb hby od121)
  obtain ⟨T201, X201, e201, st201⟩ := getS2 X200 hx hZ hown (host := "") (Or.inl (ow hw 102 rfl)) Via.refl e200 S_hi (g := (mkF m 38 #[vr a0, vi (((2 : Int32) <<< ((1 : Int32) &&& 31)) + (1 : Int32)), vi p2] [(.int p2), (.int ((2 : Int32) <<< ((1 : Int32) &&& 31))), (.ref a0)])) rfl (hb hby od131)
  have Vc202 := VB
  obtain ⟨cl202, Ar202, q202, S202, N_202, H202, G202⟩ := Vc202
  have hin202 : ¬ (((2 : Int32) <<< ((1 : Int32) &&& 31)) < 0 ∨ cl202.slots.size ≤ (((2 : Int32) <<< ((1 : Int32) &&& 31))).toNatClampNeg) := inb_of S202 ⟨by decide, by decide⟩
  obtain ⟨T203, h203, X203, e203, W203, st203⟩ := stB X201 hx hZ e201 Ar202 (j := ((2 : Int32) <<< ((1 : Int32) &&& 31))) hin202 (g := (mkF m 43 #[vr a0, vi (((2 : Int32) <<< ((1 : Int32) &&& 31)) + (1 : Int32)), vi p2] [(.int ((p2 >>> ((0 : Int32) &&& 31)).toInt8.toInt32)), (.int ((2 : Int32) <<< ((1 : Int32) &&& 31))), (.ref a0)])) rfl rfl (hb hby od134)
  have V_a0_203 : Arv Z h203 a0 kb1 .byte (6 : Int32) [(.int x0), (.int x1), (.int x2), (.int x3), (.int (nar .byte ((p2 >>> ((0 : Int32) &&& 31)).toInt8.toInt32))), (.int x5)] (.int 0) := Arv.set Ar202 q202 S202 N_202 H202 G202 (fits_nar_byte _) W203 4 rfl (Nat.le_of_ble_eq_true rfl)
  have N203 := Fr.snoc X203 N0 g0
  have KP203 : Keep h0 h203 [a0] := (Keep.refl h0 [a0]).wr W203 (Or.inl (List.mem_of_getElem? (i := 0) rfl))
  have SZ203 : h0.size ≤ h203.size := KP203.1
  have Z203 : n0 ≤ h203.size := Nat.le_trans Z0 SZ203
  obtain ⟨T204, X204, e204, st204⟩ := getS2 X203 hx hZ hown (host := "") (Or.inl (ow hw 103 rfl)) Via.refl e203 (S_lo.wr W203) (g := (mkF m 47 #[vr a0, vi (((2 : Int32) <<< ((1 : Int32) &&& 31)) + (1 : Int32)), vi p2] [(.int p2), (.int (((2 : Int32) <<< ((1 : Int32) &&& 31)) + (1 : Int32))), (.ref a0)])) rfl (hb hby od138)
  have Vc205 := V_a0_203
  obtain ⟨cl205, Ar205, q205, S205, N_205, H205, G205⟩ := Vc205
  have hin205 : ¬ ((((2 : Int32) <<< ((1 : Int32) &&& 31)) + (1 : Int32)) < 0 ∨ cl205.slots.size ≤ ((((2 : Int32) <<< ((1 : Int32) &&& 31)) + (1 : Int32))).toNatClampNeg) := inb_of S205 ⟨by decide, by decide⟩
  obtain ⟨T206, h206, X206, e206, W206, st206⟩ := stB X204 hx hZ e204 Ar205 (j := (((2 : Int32) <<< ((1 : Int32) &&& 31)) + (1 : Int32))) hin205 (g := (mkF m 52 #[vr a0, vi (((2 : Int32) <<< ((1 : Int32) &&& 31)) + (1 : Int32)), vi p2] [(.int ((p2 >>> ((8 : Int32) &&& 31)).toInt8.toInt32)), (.int (((2 : Int32) <<< ((1 : Int32) &&& 31)) + (1 : Int32))), (.ref a0)])) rfl rfl (hb hby od141)
  have V_a0_206 : Arv Z h206 a0 kb1 .byte (6 : Int32) [(.int x0), (.int x1), (.int x2), (.int x3), (.int (nar .byte ((p2 >>> ((0 : Int32) &&& 31)).toInt8.toInt32))), (.int (nar .byte ((p2 >>> ((8 : Int32) &&& 31)).toInt8.toInt32)))] (.int 0) := Arv.set Ar205 q205 S205 N_205 H205 G205 (fits_nar_byte _) W206 5 rfl (Nat.le_of_ble_eq_true rfl)
  have N206 := Fr.snoc X206 N203 g0
  have KP206 : Keep h0 h206 [a0] := KP203.wr W206 (Or.inl (List.mem_of_getElem? (i := 0) rfl))
  have SZ206 : h0.size ≤ h206.size := KP206.1
  have Z206 : n0 ≤ h206.size := Nat.le_trans Z0 SZ206
  obtain ⟨fs, hr, hrun, hended, hW, hsame⟩ := X206.leave (v := none) (fun _ => rfl)
  refine ⟨_, _, pre0 _ ?_, hrun, hended, _, _, rfl, ?_, ⟨_, rfl⟩, hW, hsame.mono (by decide) (by decide)⟩
  · show Steps p.tables e below (s₁.setTop (mkF m 0 #[vr a0, vi 2, vi p2] [])) _
    refine st200 _ ?_
    refine XS.ifYes X200.here hx rfl (pc0 := 3) (pc' := 28) rfl (hb hby od122) rfl ((if0 _ _).trans (feq (by decide : ¬ ((1 : Int32) = (0 : Int32)))).2) (by decide) (by decide) ?_
    refine XS.iloadN X200.here hx rfl (hb hby od123) rfl ?_
    refine XS.iconst X200.here hx rfl (hb hby od124) ?_
    refine XS.ishl X200.here hx rfl (hb hby od125) rfl ?_
    refine XS.istoreN X200.here hx rfl (hb hby od126) rfl (l' := #[vr a0, vi ((2 : Int32) <<< ((1 : Int32) &&& 31)), vi p2]) rfl ?_
    refine XS.aloadN X200.here hx rfl (hb hby od127) rfl rfl ?_
    refine XS.iloadN X200.here hx rfl (hb hby od128) rfl ?_
    refine XS.iinc X200.here hx rfl (hb hby od129) rfl (l' := #[vr a0, vi (((2 : Int32) <<< ((1 : Int32) &&& 31)) + (1 : Int32)), vi p2]) rfl ?_
    refine XS.iloadN X200.here hx rfl (hb hby od130) rfl ?_
    refine st201 _ ?_
    refine XS.ishr X201.here hx rfl (hb hby od132) rfl ?_
    refine XS.i2b X201.here hx rfl (hb hby od133) rfl ?_
    refine st203 _ ?_
    refine XS.aloadN X203.here hx rfl (hb hby od135) rfl rfl ?_
    refine XS.iloadN X203.here hx rfl (hb hby od136) rfl ?_
    refine XS.iloadN X203.here hx rfl (hb hby od137) rfl ?_
    refine st204 _ ?_
    refine XS.ishr X204.here hx rfl (hb hby od139) rfl ?_
    refine XS.i2b X204.here hx rfl (hb hby od140) rfl ?_
    refine st206 _ ?_
    exact X206.returnOut hx Bd.returns (hb hby od142) hr
  · show Q_put3_2 Z a0 p2 kb1 x0 x1 x2 x3 x4 x5 h0 n0 _ T206.heap _
    rw [e206]
    exact ⟨rfl, N206, KP206, V_a0_206⟩
theorem own_ef_tob3 (m : MethodId) (a0 : Addr) : entryFrame m #[(.ref a0), (.int 0), (.int 3)] 5 = mkF m 0 #[vr a0, vi 0, vi 3, .unset, .unset] [] := by first | (simp [entryFrame, mkF, argsToLocals, Value.category]; done) | rfl
def Q_tob3 (Z : State) (a0 : Addr) (kc1 : ClassId) (c0 : Int32) (c1 : Int32) (c2 : Int32) (h0 : Heap) (n0 : Nat) (v : Option Value) (h : Heap) (L : List Loc) : Prop := ∃ (r : Addr) (k : ClassId), v = some (.ref r) ∧ Fr n0 L ∧ Ext h0 h ∧ h0.size ≤ r ∧ Arv Z h r k .byte (6 : Int32) [(.int (nar .byte ((c0 >>> ((0 : Int32) &&& 31)).toInt8.toInt32))), (.int (nar .byte ((c0 >>> ((8 : Int32) &&& 31)).toInt8.toInt32))), (.int (nar .byte ((c1 >>> ((0 : Int32) &&& 31)).toInt8.toInt32))), (.int (nar .byte ((c1 >>> ((8 : Int32) &&& 31)).toInt8.toInt32))), (.int (nar .byte ((c2 >>> ((0 : Int32) &&& 31)).toInt8.toInt32))), (.int (nar .byte ((c2 >>> ((8 : Int32) &&& 31)).toInt8.toInt32)))] (.int 0)
theorem rm_tob3 (l : Launch) (Z : State) (a0' : Array Value) (hw : ∀ d ∈ tables_1, d.before a0' Z = true) (ws : List Jvm.Cond) (a0 : Addr) (kc1 : ClassId) (c0 : Int32) (c1 : Int32) (c2 : Int32) (h0 : Heap) (n0 : Nat) (Z0 : n0 ≤ h0.size) (VA : Arv Z h0 a0 kc1 .char (3 : Int32) [(.int c0), (.int c1), (.int c2)] (.int 0)) (S_ad : Sta Z h0 "java/lang/StringUTF16" "$assertionsDisabled" "Z" (.int 1)) (S_hi : Sta Z h0 "java/lang/StringUTF16" "HI_BYTE_SHIFT" "I" (.int 0)) (S_lo : Sta Z h0 "java/lang/StringUTF16" "LO_BYTE_SHIFT" "I" (.int 8)) :
    MF l nm15 jdk_52_method_14_code 5 (some (.array .byte)) ws (⟨2, 1, 6, 24⟩ : Room) #[(.ref a0), (.int 0), (.int 3)] Z h0 (Q_tob3 Z a0 kc1 c0 c1 c2 h0 n0) := by
  refine MetFree.of_bodySF (plainFor_of_name own_pn3) hisR ?_
  intro p e s m args below meth c s₁ Bd hml0 hP hK
  obtain ⟨rfl, hZ, hh⟩ := hP
  have hx := Bd.exec
  have hby := Bd.bytes
  have hml : c.maxLocals = 5 := hml0
  have hown : s.vm.findClass "java/lang/StringUTF16" = some m.cls := findClass_of_methodNamed Bd.named
  have hnm := (name_of_methodNamed Bd.named Bd.method).1
  have X0 : Stand p l e (⟨2, 1, 6, 24⟩ : Room) s m #[(.ref a0), (.int 0), (.int 3)] below meth c s₁ [] 0 0 := Stand.of_body Bd
  have e0 : s₁.heap = h0 := by rw [← hh, Bd.state]; rfl
  have N0 := Fr.nil n0
  have pre0 : PT p e below (s₁.setTop (mkF m 0 #[vr a0, vi 0, vi 3, .unset, .unset] [])) (s₁.setTop (entryFrame m #[(.ref a0), (.int 0), (.int 3)] 5)) := fun t k => castTop (own_ef_tob3 m a0) k
  obtain ⟨_, _, ⟨T207, L207, k207, n207⟩, -, X207, ⟨Lc207, hQ207, l207, y207, z207⟩, st207⟩ := Jvm.LawKit.callS X0 hx (y := nm13) hown (mvT hZ (ow hw 91 rfl)) (mvT hZ (ow hw 92 rfl)) (mvT hZ (ow hw 41 rfl)) (mvT hZ (ow hw 93 rfl)) (by decide) (backOf (W := 0) (rm_nbf3 l Z a0' hw []  h0 n0 Z0) hZ (ow hw 93 rfl) (ow hw 41 rfl) (by decide) (by decide)) (g := (mkF m 1 #[vr a0, vi 0, vi 3, .unset, .unset] [(.int 3)])) rfl (by rw [hml]; rfl) (argsL := [(.int 3)]) (rest := []) (lenOf own_pd8 rfl) rfl (by show 2 * 0 + _ ≤ _; exact Nat.le_of_eq rfl) (hb hby od144) (fun _ _ => ⟨rfl, e0, (by decide : 0 + 1 ≤ _), (by decide : 0 + 6 ≤ _)⟩)
  dsimp only [Pt.U, Pt.locs, Pt.cells, Pt.slots] at X207 l207 y207 z207 st207 hQ207
  subst l207 y207 z207
  obtain ⟨r207, kk207, rfl, N207q, E207, zz207, V207⟩ := hQ207
  have N207 := Fr.app N0 N207q
  have ne207_a0_r207 : a0 ≠ r207 := Nat.ne_of_lt (Nat.lt_of_lt_of_le VA.lt zz207)
  have g_r207 : n0 ≤ r207 := Nat.le_trans Z0 zz207
  have sz_r207 : h0.size ≤ r207 := Nat.le_trans (Nat.le_refl _) zz207
  have EX207 : Ext h0 T207.heap := E207
  have SZ207 : h0.size ≤ T207.heap.size := EX207.1
  have Z207 : n0 ≤ T207.heap.size := Nat.le_trans Z0 SZ207
  have fx208 := (VA.ext E207)
  have Vc209 := fx208
  obtain ⟨cl209, Ar209, q209, S209, N_209, H209, G209⟩ := Vc209
  have hin209 : ¬ ((0 : Int32) < 0 ∨ cl209.slots.size ≤ ((0 : Int32)).toNatClampNeg) := inb_of S209 ⟨by decide, by decide⟩
  have hat209 : cl209.slots[((0 : Int32)).toNatClampNeg]? = some (.int c0) := H209 0 (by rw [S209]; decide)
  obtain ⟨_, _, ⟨T210, L210, k210, n210⟩, -, X210, ⟨Lc210, hQ210, l210, y210, z210⟩, st210⟩ := Jvm.LawKit.callS X207 hx (y := nm14) hown (mvT hZ (ow hw 98 rfl)) (mvT hZ (ow hw 99 rfl)) (mvT hZ (ow hw 41 rfl)) (mvT hZ (ow hw 100 rfl)) (by decide) (backOf (W := 0) (rm_put3_0 l Z a0' hw [] r207 c0 kk207 (0 : Int32) (0 : Int32) (0 : Int32) (0 : Int32) (0 : Int32) (0 : Int32) T207.heap n0 Z207 V207 g_r207 (S_ad.ext EX207) (S_hi.ext EX207) (S_lo.ext EX207)) hZ (ow hw 100 rfl) (ow hw 41 rfl) (by decide) (by decide)) (g := (mkF m 20 #[vr a0, vi 0, vi 3, vr r207, vi 0] [(.int c0), (.int 0), (.ref r207)])) rfl (by rw [hml]; rfl) (argsL := [(.ref r207), (.int 0), (.int c0)]) (rest := []) (lenOf own_pd9 rfl) rfl (by show 2 * 0 + _ ≤ _; exact Nat.le_of_eq rfl) (hb hby od156) (fun _ _ => ⟨rfl, rfl, (by decide : 1 + 0 ≤ _), (by decide : 6 + 0 ≤ _)⟩)
  dsimp only [Pt.U, Pt.locs, Pt.cells, Pt.slots] at X210 l210 y210 z210 st210 hQ210
  subst l210 y210 z210
  obtain ⟨rfl, N210q, K210, V210⟩ := hQ210
  have N210 := Fr.app N207 N210q
  have EX210 : Ext h0 T210.heap := own_extkeep EX207 K210 sz_r207
  have SZ210 : h0.size ≤ T210.heap.size := EX210.1
  have Z210 : n0 ≤ T210.heap.size := Nat.le_trans Z0 SZ210
  have fx211 := (fx208.keep K210 (ninS ne207_a0_r207 nin0))
  have Vc212 := fx211
  obtain ⟨cl212, Ar212, q212, S212, N_212, H212, G212⟩ := Vc212
  have hin212 : ¬ (((0 : Int32) + (1 : Int32)) < 0 ∨ cl212.slots.size ≤ (((0 : Int32) + (1 : Int32))).toNatClampNeg) := inb_of S212 ⟨by decide, by decide⟩
  have hat212 : cl212.slots[(((0 : Int32) + (1 : Int32))).toNatClampNeg]? = some (.int c1) := H212 1 (by rw [S212]; decide)
  obtain ⟨_, _, ⟨T213, L213, k213, n213⟩, -, X213, ⟨Lc213, hQ213, l213, y213, z213⟩, st213⟩ := Jvm.LawKit.callS X210 hx (y := nm14) hown (mvT hZ (ow hw 98 rfl)) (mvT hZ (ow hw 99 rfl)) (mvT hZ (ow hw 41 rfl)) (mvT hZ (ow hw 100 rfl)) (by decide) (backOf (W := 0) (rm_put3_1 l Z a0' hw [] r207 c1 kk207 (nar .byte ((c0 >>> ((0 : Int32) &&& 31)).toInt8.toInt32)) (nar .byte ((c0 >>> ((8 : Int32) &&& 31)).toInt8.toInt32)) (0 : Int32) (0 : Int32) (0 : Int32) (0 : Int32) T210.heap n0 Z210 V210 g_r207 (S_ad.ext EX210) (S_hi.ext EX210) (S_lo.ext EX210)) hZ (ow hw 100 rfl) (ow hw 41 rfl) (by decide) (by decide)) (g := (mkF m 20 #[vr a0, vi ((0 : Int32) + (1 : Int32)), vi 3, vr r207, vi ((0 : Int32) + (1 : Int32))] [(.int c1), (.int ((0 : Int32) + (1 : Int32))), (.ref r207)])) rfl (by rw [hml]; rfl) (argsL := [(.ref r207), (.int ((0 : Int32) + (1 : Int32))), (.int c1)]) (rest := []) (lenOf own_pd9 rfl) rfl (by show 2 * 0 + _ ≤ _; exact Nat.le_of_eq rfl) (hb hby od156) (fun _ _ => ⟨rfl, rfl, (by decide : 1 + 0 ≤ _), (by decide : 6 + 0 ≤ _)⟩)
  dsimp only [Pt.U, Pt.locs, Pt.cells, Pt.slots] at X213 l213 y213 z213 st213 hQ213
  subst l213 y213 z213
  obtain ⟨rfl, N213q, K213, V213⟩ := hQ213
  have N213 := Fr.app N210 N213q
  have EX213 : Ext h0 T213.heap := own_extkeep EX210 K213 sz_r207
  have SZ213 : h0.size ≤ T213.heap.size := EX213.1
  have Z213 : n0 ≤ T213.heap.size := Nat.le_trans Z0 SZ213
  have fx214 := (fx211.keep K213 (ninS ne207_a0_r207 nin0))
  have Vc215 := fx214
  obtain ⟨cl215, Ar215, q215, S215, N_215, H215, G215⟩ := Vc215
  have hin215 : ¬ ((((0 : Int32) + (1 : Int32)) + (1 : Int32)) < 0 ∨ cl215.slots.size ≤ ((((0 : Int32) + (1 : Int32)) + (1 : Int32))).toNatClampNeg) := inb_of S215 ⟨by decide, by decide⟩
  have hat215 : cl215.slots[((((0 : Int32) + (1 : Int32)) + (1 : Int32))).toNatClampNeg]? = some (.int c2) := H215 2 (by rw [S215]; decide)
  obtain ⟨_, _, ⟨T216, L216, k216, n216⟩, -, X216, ⟨Lc216, hQ216, l216, y216, z216⟩, st216⟩ := Jvm.LawKit.callS X213 hx (y := nm14) hown (mvT hZ (ow hw 98 rfl)) (mvT hZ (ow hw 99 rfl)) (mvT hZ (ow hw 41 rfl)) (mvT hZ (ow hw 100 rfl)) (by decide) (backOf (W := 0) (rm_put3_2 l Z a0' hw [] r207 c2 kk207 (nar .byte ((c0 >>> ((0 : Int32) &&& 31)).toInt8.toInt32)) (nar .byte ((c0 >>> ((8 : Int32) &&& 31)).toInt8.toInt32)) (nar .byte ((c1 >>> ((0 : Int32) &&& 31)).toInt8.toInt32)) (nar .byte ((c1 >>> ((8 : Int32) &&& 31)).toInt8.toInt32)) (0 : Int32) (0 : Int32) T213.heap n0 Z213 V213 g_r207 (S_ad.ext EX213) (S_hi.ext EX213) (S_lo.ext EX213)) hZ (ow hw 100 rfl) (ow hw 41 rfl) (by decide) (by decide)) (g := (mkF m 20 #[vr a0, vi (((0 : Int32) + (1 : Int32)) + (1 : Int32)), vi 3, vr r207, vi (((0 : Int32) + (1 : Int32)) + (1 : Int32))] [(.int c2), (.int (((0 : Int32) + (1 : Int32)) + (1 : Int32))), (.ref r207)])) rfl (by rw [hml]; rfl) (argsL := [(.ref r207), (.int (((0 : Int32) + (1 : Int32)) + (1 : Int32))), (.int c2)]) (rest := []) (lenOf own_pd9 rfl) rfl (by show 2 * 0 + _ ≤ _; exact Nat.le_of_eq rfl) (hb hby od156) (fun _ _ => ⟨rfl, rfl, (by decide : 1 + 0 ≤ _), (by decide : 6 + 0 ≤ _)⟩)
  dsimp only [Pt.U, Pt.locs, Pt.cells, Pt.slots] at X216 l216 y216 z216 st216 hQ216
  subst l216 y216 z216
  obtain ⟨rfl, N216q, K216, V216⟩ := hQ216
  have N216 := Fr.app N213 N216q
  have EX216 : Ext h0 T216.heap := own_extkeep EX213 K216 sz_r207
  have SZ216 : h0.size ≤ T216.heap.size := EX216.1
  have Z216 : n0 ≤ T216.heap.size := Nat.le_trans Z0 SZ216
  obtain ⟨fs, hr, hrun, hended, hW, hsame⟩ := X216.leave (v := some (.ref r207)) (fun h => by rw [Bd.returns] at h; cases h)
  refine ⟨_, _, pre0 _ ?_, hrun, hended, _, _, rfl, ?_, ⟨_, rfl⟩, hW, hsame.mono (by decide) (by decide)⟩
  · show Steps p.tables e below (s₁.setTop (mkF m 0 #[vr a0, vi 0, vi 3, .unset, .unset] [])) _
    refine XS.iloadN X0.here hx rfl (hb hby od143) rfl ?_
    refine st207 _ ?_
    refine XS.astoreN X207.here hx rfl (hb hby od145) rfl rfl (l' := #[vr a0, vi 0, vi 3, vr r207, .unset]) rfl ?_
    refine XS.iconst X207.here hx rfl (hb hby od146) ?_
    refine XS.istore X207.here hx rfl (hb hby od147) rfl (l' := #[vr a0, vi 0, vi 3, vr r207, vi 0]) rfl ?_
    refine XS.iload X207.here hx rfl (hb hby od148) rfl ?_
    refine XS.iloadN X207.here hx rfl (hb hby od149) rfl ?_
    refine XS.icmpNo X207.here hx rfl (hb hby od150) rfl (tlt (by decide : (0 : Int32) < (3 : Int32))).2.1 ?_
    refine XS.aloadN X207.here hx rfl (hb hby od151) rfl rfl ?_
    refine XS.iload X207.here hx rfl (hb hby od152) rfl ?_
    refine XS.aloadN X207.here hx rfl (hb hby od153) rfl rfl ?_
    refine XS.iloadN X207.here hx rfl (hb hby od154) rfl ?_
    refine X207.caload hx (j := (0 : Int32)) (v := (.int c0)) (by exact Ar209.1) (State.isArrayOf_alike hZ.alike Ar209.2.1) Ar209.2.2 hin209 hat209 (g := (mkF m 19 #[vr a0, vi 0, vi 3, vr r207, vi 0] [(.int 0), (.ref a0), (.int 0), (.ref r207)])) rfl rfl (hb hby od155) _ ?_
    refine st210 _ ?_
    refine XS.iinc X210.here hx rfl (hb hby od157) rfl (l' := #[vr a0, vi ((0 : Int32) + (1 : Int32)), vi 3, vr r207, vi 0]) rfl ?_
    refine XS.iinc X210.here hx rfl (hb hby od158) rfl (l' := #[vr a0, vi ((0 : Int32) + (1 : Int32)), vi 3, vr r207, vi ((0 : Int32) + (1 : Int32))]) rfl ?_
    refine XS.goto X210.here hx rfl (pc0 := 29) (pc' := 8) rfl (hb hby od159) (by decide) (by decide) ?_
    refine XS.iload X210.here hx rfl (hb hby od148) rfl ?_
    refine XS.iloadN X210.here hx rfl (hb hby od149) rfl ?_
    refine XS.icmpNo X210.here hx rfl (hb hby od150) rfl (tlt (by decide : ((0 : Int32) + (1 : Int32)) < (3 : Int32))).2.1 ?_
    refine XS.aloadN X210.here hx rfl (hb hby od151) rfl rfl ?_
    refine XS.iload X210.here hx rfl (hb hby od152) rfl ?_
    refine XS.aloadN X210.here hx rfl (hb hby od153) rfl rfl ?_
    refine XS.iloadN X210.here hx rfl (hb hby od154) rfl ?_
    refine X210.caload hx (j := ((0 : Int32) + (1 : Int32))) (v := (.int c1)) (by exact Ar212.1) (State.isArrayOf_alike hZ.alike Ar212.2.1) Ar212.2.2 hin212 hat212 (g := (mkF m 19 #[vr a0, vi ((0 : Int32) + (1 : Int32)), vi 3, vr r207, vi ((0 : Int32) + (1 : Int32))] [(.int ((0 : Int32) + (1 : Int32))), (.ref a0), (.int ((0 : Int32) + (1 : Int32))), (.ref r207)])) rfl rfl (hb hby od155) _ ?_
    refine st213 _ ?_
    refine XS.iinc X213.here hx rfl (hb hby od157) rfl (l' := #[vr a0, vi (((0 : Int32) + (1 : Int32)) + (1 : Int32)), vi 3, vr r207, vi ((0 : Int32) + (1 : Int32))]) rfl ?_
    refine XS.iinc X213.here hx rfl (hb hby od158) rfl (l' := #[vr a0, vi (((0 : Int32) + (1 : Int32)) + (1 : Int32)), vi 3, vr r207, vi (((0 : Int32) + (1 : Int32)) + (1 : Int32))]) rfl ?_
    refine XS.goto X213.here hx rfl (pc0 := 29) (pc' := 8) rfl (hb hby od159) (by decide) (by decide) ?_
    refine XS.iload X213.here hx rfl (hb hby od148) rfl ?_
    refine XS.iloadN X213.here hx rfl (hb hby od149) rfl ?_
    refine XS.icmpNo X213.here hx rfl (hb hby od150) rfl (tlt (by decide : (((0 : Int32) + (1 : Int32)) + (1 : Int32)) < (3 : Int32))).2.1 ?_
    refine XS.aloadN X213.here hx rfl (hb hby od151) rfl rfl ?_
    refine XS.iload X213.here hx rfl (hb hby od152) rfl ?_
    refine XS.aloadN X213.here hx rfl (hb hby od153) rfl rfl ?_
    refine XS.iloadN X213.here hx rfl (hb hby od154) rfl ?_
    refine X213.caload hx (j := (((0 : Int32) + (1 : Int32)) + (1 : Int32))) (v := (.int c2)) (by exact Ar215.1) (State.isArrayOf_alike hZ.alike Ar215.2.1) Ar215.2.2 hin215 hat215 (g := (mkF m 19 #[vr a0, vi (((0 : Int32) + (1 : Int32)) + (1 : Int32)), vi 3, vr r207, vi (((0 : Int32) + (1 : Int32)) + (1 : Int32))] [(.int (((0 : Int32) + (1 : Int32)) + (1 : Int32))), (.ref a0), (.int (((0 : Int32) + (1 : Int32)) + (1 : Int32))), (.ref r207)])) rfl rfl (hb hby od155) _ ?_
    refine st216 _ ?_
    refine XS.iinc X216.here hx rfl (hb hby od157) rfl (l' := #[vr a0, vi ((((0 : Int32) + (1 : Int32)) + (1 : Int32)) + (1 : Int32)), vi 3, vr r207, vi (((0 : Int32) + (1 : Int32)) + (1 : Int32))]) rfl ?_
    refine XS.iinc X216.here hx rfl (hb hby od158) rfl (l' := #[vr a0, vi ((((0 : Int32) + (1 : Int32)) + (1 : Int32)) + (1 : Int32)), vi 3, vr r207, vi ((((0 : Int32) + (1 : Int32)) + (1 : Int32)) + (1 : Int32))]) rfl ?_
    refine XS.goto X216.here hx rfl (pc0 := 29) (pc' := 8) rfl (hb hby od159) (by decide) (by decide) ?_
    refine XS.iload X216.here hx rfl (hb hby od148) rfl ?_
    refine XS.iloadN X216.here hx rfl (hb hby od149) rfl ?_
    refine XS.icmpYes X216.here hx rfl (pc0 := 11) (pc' := 32) rfl (hb hby od150) rfl (flt (by decide : ¬ (((((0 : Int32) + (1 : Int32)) + (1 : Int32)) + (1 : Int32)) < (3 : Int32)))).2.1 (by decide) (by decide) ?_
    refine XS.aloadN X216.here hx rfl (hb hby od160) rfl rfl ?_
    exact own_retA X216 hx Bd.returns rfl rfl rfl (hb hby od161) hr
  · show Q_tob3 Z a0 kc1 c0 c1 c2 h0 n0 _ T216.heap _
    exact ⟨_, _, rfl, N216, EX216, sz_r207, V216⟩
theorem own_ef_cmpI3_0 (m : MethodId) (a0 : Addr) (a2 : Addr) : entryFrame m #[(.ref a0), (.int 0), (.ref a2), (.int 0), (.int 3)] 7 = mkF m 0 #[vr a0, vi 0, vr a2, vi 0, vi 3, .unset, .unset] [] := by first | (simp [entryFrame, mkF, argsToLocals, Value.category]; done) | rfl
def Q_cmpI3_0 (Z : State) (a0 : Addr) (a2 : Addr) (kc1 : ClassId) (c0 : Int32) (c1 : Int32) (c2 : Int32) (kb1 : ClassId) (h0 : Heap) (n0 : Nat) (v : Option Value) (h : Heap) (L : List Loc) : Prop := v = some (.int 0) ∧ Fr n0 L ∧ Keep h0 h [a2]
theorem rm_cmpI3_0 (l : Launch) (Z : State) (a0' : Array Value) (hw : ∀ d ∈ tables_1, d.before a0' Z = true) (ws : List Jvm.Cond) (a0 : Addr) (a2 : Addr) (kc1 : ClassId) (c0 : Int32) (c1 : Int32) (c2 : Int32) (kb1 : ClassId) (h0 : Heap) (n0 : Nat) (Z0 : n0 ≤ h0.size) (VA : Arv Z h0 a0 kc1 .char (3 : Int32) [(.int c0), (.int c1), (.int c2)] (.int 0)) (VB : Arv Z h0 a2 kb1 .byte (3 : Int32) [(.int 0), (.int 0), (.int 0)] (.int 0)) (nab : a0 ≠ a2) (g2 : n0 ≤ a2) (hc_c0 : (255 : Int32) < c0) :
    MF l nm16 jdk_52_method_21_code 7 (some .int) ws (⟨0, 0, 0, 0⟩ : Room) #[(.ref a0), (.int 0), (.ref a2), (.int 0), (.int 3)] Z h0 (Q_cmpI3_0 Z a0 a2 kc1 c0 c1 c2 kb1 h0 n0) := by
  refine MetFree.of_bodySF (plainFor_of_name own_pn3) hisR ?_
  intro p e s m args below meth c s₁ Bd hml0 hP hK
  obtain ⟨rfl, hZ, hh⟩ := hP
  have hx := Bd.exec
  have hby := Bd.bytes
  have hml : c.maxLocals = 7 := hml0
  have hown : s.vm.findClass "java/lang/StringUTF16" = some m.cls := findClass_of_methodNamed Bd.named
  have hnm := (name_of_methodNamed Bd.named Bd.method).1
  have X0 : Stand p l e (⟨0, 0, 0, 0⟩ : Room) s m #[(.ref a0), (.int 0), (.ref a2), (.int 0), (.int 3)] below meth c s₁ [] 0 0 := Stand.of_body Bd
  have e0 : s₁.heap = h0 := by rw [← hh, Bd.state]; rfl
  have N0 := Fr.nil n0
  have pre0 : PT p e below (s₁.setTop (mkF m 0 #[vr a0, vi 0, vr a2, vi 0, vi 3, .unset, .unset] [])) (s₁.setTop (entryFrame m #[(.ref a0), (.int 0), (.ref a2), (.int 0), (.int 3)] 7)) := fun t k => castTop (own_ef_cmpI3_0 m a0 a2) k
  have Vc217 := VA
  obtain ⟨cl217, Ar217, q217, S217, N_217, H217, G217⟩ := Vc217
  have hin217 : ¬ ((0 : Int32) < 0 ∨ cl217.slots.size ≤ ((0 : Int32)).toNatClampNeg) := inb_of S217 ⟨by decide, by decide⟩
  have hat217 : cl217.slots[((0 : Int32)).toNatClampNeg]? = some (.int c0) := H217 0 (by rw [S217]; decide)
  obtain ⟨fs, hr, hrun, hended, hW, hsame⟩ := X0.leave (v := some (.int 0)) (fun h => by rw [Bd.returns] at h; cases h)
  refine ⟨_, _, pre0 _ ?_, hrun, hended, _, _, rfl, ?_, ⟨_, rfl⟩, hW, hsame.mono (by decide) (by decide)⟩
  · show Steps p.tables e below (s₁.setTop (mkF m 0 #[vr a0, vi 0, vr a2, vi 0, vi 3, .unset, .unset] [])) _
    refine XS.iconst X0.here hx rfl (hb hby od162) ?_
    refine XS.istore X0.here hx rfl (hb hby od163) rfl (l' := #[vr a0, vi 0, vr a2, vi 0, vi 3, vi 0, .unset]) rfl ?_
    refine XS.iload X0.here hx rfl (hb hby od164) rfl ?_
    refine XS.iload X0.here hx rfl (hb hby od165) rfl ?_
    refine XS.icmpNo X0.here hx rfl (hb hby od166) rfl (tlt (by decide : (0 : Int32) < (3 : Int32))).2.1 ?_
    refine XS.aloadN X0.here hx rfl (hb hby od167) rfl rfl ?_
    refine XS.iloadN X0.here hx rfl (hb hby od168) rfl ?_
    refine X0.caload hx (j := (0 : Int32)) (v := (.int c0)) (by rw [e0]; exact Ar217.1) (State.isArrayOf_alike hZ.alike Ar217.2.1) Ar217.2.2 hin217 hat217 (g := (mkF m 12 #[vr a0, vi 0, vr a2, vi 0, vi 3, vi 0, .unset] [(.int 0), (.ref a0)])) rfl rfl (hb hby od169) _ ?_
    refine XS.istore X0.here hx rfl (hb hby od170) rfl (l' := #[vr a0, vi 0, vr a2, vi 0, vi 3, vi 0, vi c0]) rfl ?_
    refine XS.iload X0.here hx rfl (hb hby od171) rfl ?_
    refine XS.sipush X0.here hx rfl (hb hby od172) ?_
    refine XS.icmpNo X0.here hx rfl (hb hby od173) rfl (tlt hc_c0).2.2.2 ?_
    refine XS.iload X0.here hx rfl (hb hby od174) rfl ?_
    exact own_retI X0 hx Bd.returns (hb hby od175) hr
  · show Q_cmpI3_0 Z a0 a2 kc1 c0 c1 c2 kb1 h0 n0 _ s₁.heap _
    rw [e0]
    exact ⟨rfl, N0, (Keep.refl h0 [a2])⟩
theorem own_ef_cmpA3_0 (m : MethodId) (a0 : Addr) : entryFrame m #[(.ref a0), (.int 0), (.int 3)] 6 = mkF m 0 #[vr a0, vi 0, vi 3, .unset, .unset, .unset] [] := by first | (simp [entryFrame, mkF, argsToLocals, Value.category]; done) | rfl
def Q_cmpA3_0 (Z : State) (a0 : Addr) (kc1 : ClassId) (c0 : Int32) (c1 : Int32) (c2 : Int32) (h0 : Heap) (n0 : Nat) (v : Option Value) (h : Heap) (L : List Loc) : Prop := ∃ (r : Addr) (k : ClassId), v = some (.ref r) ∧ Fr n0 L ∧ Ext h0 h ∧ h0.size ≤ r ∧ Arv Z h r k .byte (6 : Int32) [(.int (nar .byte ((c0 >>> ((0 : Int32) &&& 31)).toInt8.toInt32))), (.int (nar .byte ((c0 >>> ((8 : Int32) &&& 31)).toInt8.toInt32))), (.int (nar .byte ((c1 >>> ((0 : Int32) &&& 31)).toInt8.toInt32))), (.int (nar .byte ((c1 >>> ((8 : Int32) &&& 31)).toInt8.toInt32))), (.int (nar .byte ((c2 >>> ((0 : Int32) &&& 31)).toInt8.toInt32))), (.int (nar .byte ((c2 >>> ((8 : Int32) &&& 31)).toInt8.toInt32)))] (.int 0)
theorem rm_cmpA3_0 (l : Launch) (Z : State) (a0' : Array Value) (hw : ∀ d ∈ tables_1, d.before a0' Z = true) (ws : List Jvm.Cond) (a0 : Addr) (kc1 : ClassId) (c0 : Int32) (c1 : Int32) (c2 : Int32) (h0 : Heap) (n0 : Nat) (Z0 : n0 ≤ h0.size) (VA : Arv Z h0 a0 kc1 .char (3 : Int32) [(.int c0), (.int c1), (.int c2)] (.int 0)) (hc_c0 : (255 : Int32) < c0) (hb_c0 : 0 ≤ c0.toInt ∧ c0.toInt ≤ 65535) (S_ad : Sta Z h0 "java/lang/StringUTF16" "$assertionsDisabled" "Z" (.int 1)) (S_hi : Sta Z h0 "java/lang/StringUTF16" "HI_BYTE_SHIFT" "I" (.int 0)) (S_lo : Sta Z h0 "java/lang/StringUTF16" "LO_BYTE_SHIFT" "I" (.int 8)) :
    MF l nm17 jdk_52_method_16_code 6 (some (.array .byte)) ws (⟨3, 2, 9, 40⟩ : Room) #[(.ref a0), (.int 0), (.int 3)] Z h0 (Q_cmpA3_0 Z a0 kc1 c0 c1 c2 h0 n0) := by
  refine MetFree.of_bodySF (plainFor_of_name own_pn3) hisR ?_
  intro p e s m args below meth c s₁ Bd hml0 hP hK
  obtain ⟨rfl, hZ, hh⟩ := hP
  have hx := Bd.exec
  have hby := Bd.bytes
  have hml : c.maxLocals = 6 := hml0
  have hown : s.vm.findClass "java/lang/StringUTF16" = some m.cls := findClass_of_methodNamed Bd.named
  have hnm := (name_of_methodNamed Bd.named Bd.method).1
  have X0 : Stand p l e (⟨3, 2, 9, 40⟩ : Room) s m #[(.ref a0), (.int 0), (.int 3)] below meth c s₁ [] 0 0 := Stand.of_body Bd
  have e0 : s₁.heap = h0 := by rw [← hh, Bd.state]; rfl
  have N0 := Fr.nil n0
  have pre0 : PT p e below (s₁.setTop (mkF m 0 #[vr a0, vi 0, vi 3, .unset, .unset, .unset] [])) (s₁.setTop (entryFrame m #[(.ref a0), (.int 0), (.int 3)] 6)) := fun t k => castTop (own_ef_cmpA3_0 m a0) k
  obtain ⟨T218, h218, k218, X218, e218, E218, A218, st218⟩ := newP X0 hx hZ (ow hw 17 rfl) e0 (g := (mkF m 1 #[vr a0, vi 0, vi 3, .unset, .unset, .unset] [(.int 3)])) rfl (hb hby od177) rfl (by decide) (cap := 3) (by decide) (by decide) (by decide) (by decide)
  obtain ⟨b218, g218⟩ : ∃ z, z = h0.size := ⟨_, rfl⟩
  rw [← g218] at A218 st218
  have ne218_a0_b218 : a0 ≠ b218 := Nat.ne_of_lt (Nat.lt_of_lt_of_le VA.lt (Nat.le_of_eq g218.symm))
  have V_b218 : Arv Z h218 b218 k218 .byte (3 : Int32) [(.int 0), (.int 0), (.int 0)] (.int 0) := (Arv.new A218 (by decide)).pad (pad_rep [] (.int 0) 3)
  have g_b218 : n0 ≤ b218 := Nat.le_trans Z0 (Nat.le_of_eq g218.symm)
  have sz_b218 : h0.size ≤ b218 := Nat.le_trans (Nat.le_refl _) (Nat.le_of_eq g218.symm)
  have EX218 : Ext h0 h218 := E218
  have SZ218 : h0.size ≤ h218.size := EX218.1
  have Z218 : n0 ≤ h218.size := Nat.le_trans Z0 SZ218
  have fx220 := (VA.ext E218)
  obtain ⟨_, _, ⟨T219, L219, k219, n219⟩, -, X219, ⟨Lc219, hQ219, l219, y219, z219⟩, st219⟩ := Jvm.LawKit.callS X218 hx (y := nm16) hown (mvT hZ (ow hw 43 rfl)) (mvT hZ (ow hw 44 rfl)) (mvT hZ (ow hw 41 rfl)) (mvT hZ (ow hw 45 rfl)) (by decide) (backOf (W := 0) (rm_cmpI3_0 l Z a0' hw [] a0 b218 kc1 c0 c1 c2 k218 h218 n0 Z218 fx220 V_b218 ne218_a0_b218 g_b218 hc_c0) hZ (ow hw 45 rfl) (ow hw 41 rfl) (by decide) (by decide)) (g := (mkF m 9 #[vr a0, vi 0, vi 3, vr b218, .unset, .unset] [(.int 3), (.int 0), (.ref b218), (.int 0), (.ref a0)])) rfl (by rw [hml]; rfl) (argsL := [(.ref a0), (.int 0), (.ref b218), (.int 0), (.int 3)]) (rest := []) (lenOf own_pd10 rfl) rfl (by show 2 * 0 + _ ≤ _; exact Nat.le_of_eq rfl) (hb hby od184) (fun _ _ => ⟨rfl, e218, (by decide : 1 + 0 ≤ _), (by decide : 3 + 0 ≤ _)⟩)
  dsimp only [Pt.U, Pt.locs, Pt.cells, Pt.slots] at X219 l219 y219 z219 st219 hQ219
  subst l219 y219 z219
  obtain ⟨rfl, N219q, K219⟩ := hQ219
  have N219 := Fr.app N0 N219q
  have EX219 : Ext h0 T219.heap := own_extkeep EX218 K219 sz_b218
  have SZ219 : h0.size ≤ T219.heap.size := EX219.1
  have Z219 : n0 ≤ T219.heap.size := Nat.le_trans Z0 SZ219
  have fx222 := (fx220.keep K219 (ninS ne218_a0_b218 nin0))
  obtain ⟨_, _, ⟨T221, L221, k221, n221⟩, -, X221, ⟨Lc221, hQ221, l221, y221, z221⟩, st221⟩ := Jvm.LawKit.callS X219 hx (y := nm15) hown (mvT hZ (ow hw 88 rfl)) (mvT hZ (ow hw 89 rfl)) (mvT hZ (ow hw 41 rfl)) (mvT hZ (ow hw 90 rfl)) (by decide) (backOf (W := 0) (rm_tob3 l Z a0' hw [] a0 kc1 c0 c1 c2 T219.heap n0 Z219 fx222 (S_ad.ext EX219) (S_hi.ext EX219) (S_lo.ext EX219)) hZ (ow hw 90 rfl) (ow hw 41 rfl) (by decide) (by decide)) (g := (mkF m 23 #[vr a0, vi 0, vi 3, vr b218, vi 0, .unset] [(.int 3), (.int 0), (.ref a0)])) rfl (by rw [hml]; rfl) (argsL := [(.ref a0), (.int 0), (.int 3)]) (rest := []) (lenOf own_pd11 rfl) rfl (by show 2 * 0 + _ ≤ _; exact Nat.le_of_eq rfl) (hb hby od192) (fun _ _ => ⟨rfl, rfl, (by decide : 1 + 1 ≤ _), (by decide : 3 + 6 ≤ _)⟩)
  dsimp only [Pt.U, Pt.locs, Pt.cells, Pt.slots] at X221 l221 y221 z221 st221 hQ221
  subst l221 y221 z221
  obtain ⟨r221, kk221, rfl, N221q, E221, zz221, V221⟩ := hQ221
  have N221 := Fr.app N219 N221q
  have ne221_a0_r221 : a0 ≠ r221 := Nat.ne_of_lt (Nat.lt_of_lt_of_le fx222.lt zz221)
  have g_r221 : n0 ≤ r221 := Nat.le_trans Z219 zz221
  have sz_r221 : h0.size ≤ r221 := Nat.le_trans SZ219 zz221
  have EX221 : Ext h0 T221.heap := own_exttr EX219 E221
  have SZ221 : h0.size ≤ T221.heap.size := EX221.1
  have Z221 : n0 ≤ T221.heap.size := Nat.le_trans Z0 SZ221
  have Vc224 := V221
  obtain ⟨cl224, Ar224, q224, S224, N_224, H224, G224⟩ := Vc224
  obtain ⟨_, _, ⟨T223, L223, k223, n223⟩, -, X223, ⟨Lc223, hQ223, l223, y223, z223⟩, st223⟩ := Jvm.LawKit.callS X221 hx (y := nm5) hown (mvT hZ (ow hw 104 rfl)) (mvT hZ (ow hw 105 rfl)) (mvT hZ (ow hw 41 rfl)) (mvT hZ (ow hw 106 rfl)) (by decide) (backOf (W := 0) (rm_getC l Z a0' hw [] r221 (0 : Int32) cl224 (nar .byte ((c0 >>> ((0 : Int32) &&& 31)).toInt8.toInt32)) (nar .byte ((c0 >>> ((8 : Int32) &&& 31)).toInt8.toInt32)) T221.heap n0 Z221 Ar224 (inb_of S224 ⟨by decide, by decide⟩) (H224 0 (by rw [S224]; decide)) (inb_of S224 ⟨by decide, by decide⟩) (H224 1 (by rw [S224]; decide)) (S_ad.ext EX221) (S_hi.ext EX221) (S_lo.ext EX221)) hZ (ow hw 106 rfl) (ow hw 41 rfl) (by decide) (by decide)) (g := (mkF m 32 #[vr a0, vi 0, vi 3, vr b218, vi 0, vr r221] [(.int 0), (.ref r221)])) rfl (by rw [hml]; rfl) (argsL := [(.ref r221), (.int 0)]) (rest := []) (lenOf own_pd4 rfl) rfl (by show 2 * 0 + _ ≤ _; exact Nat.le_of_eq rfl) (hb hby od196) (fun _ _ => ⟨rfl, rfl, (by decide : 2 + 0 ≤ _), (by decide : 9 + 0 ≤ _)⟩)
  dsimp only [Pt.U, Pt.locs, Pt.cells, Pt.slots] at X223 l223 y223 z223 st223 hQ223
  subst l223 y223 z223
  obtain ⟨rfl, N223q, e223⟩ := hQ223
  have N223 := Fr.app N221 N223q
  have q223 : (F_getC (nar .byte ((c0 >>> ((0 : Int32) &&& 31)).toInt8.toInt32)) (nar .byte ((c0 >>> ((8 : Int32) &&& 31)).toInt8.toInt32))) = c0 := by unfold F_getC; exact own_getc c0 hb_c0
  rw [q223] at st223
  obtain ⟨fs, hr, hrun, hended, hW, hsame⟩ := X223.leave (v := some (.ref r221)) (fun h => by rw [Bd.returns] at h; cases h)
  refine ⟨_, _, pre0 _ ?_, hrun, hended, _, _, rfl, ?_, ⟨_, rfl⟩, hW, hsame.mono (by decide) (by decide)⟩
  · show Steps p.tables e below (s₁.setTop (mkF m 0 #[vr a0, vi 0, vi 3, .unset, .unset, .unset] [])) _
    refine XS.iloadN X0.here hx rfl (hb hby od176) rfl ?_
    refine st218 _ ?_
    refine XS.astoreN X218.here hx rfl (hb hby od178) rfl rfl (l' := #[vr a0, vi 0, vi 3, vr b218, .unset, .unset]) rfl ?_
    refine XS.aloadN X218.here hx rfl (hb hby od179) rfl rfl ?_
    refine XS.iloadN X218.here hx rfl (hb hby od180) rfl ?_
    refine XS.aloadN X218.here hx rfl (hb hby od181) rfl rfl ?_
    refine XS.iconst X218.here hx rfl (hb hby od182) ?_
    refine XS.iloadN X218.here hx rfl (hb hby od183) rfl ?_
    refine st219 _ ?_
    refine XS.istore X219.here hx rfl (hb hby od185) rfl (l' := #[vr a0, vi 0, vi 3, vr b218, vi 0, .unset]) rfl ?_
    refine XS.iload X219.here hx rfl (hb hby od186) rfl ?_
    refine XS.iloadN X219.here hx rfl (hb hby od187) rfl ?_
    refine XS.icmpNo X219.here hx rfl (hb hby od188) rfl (feq (by decide : ¬ ((0 : Int32) = (3 : Int32)))).1 ?_
    refine XS.aloadN X219.here hx rfl (hb hby od189) rfl rfl ?_
    refine XS.iloadN X219.here hx rfl (hb hby od190) rfl ?_
    refine XS.iloadN X219.here hx rfl (hb hby od191) rfl ?_
    refine st221 _ ?_
    refine XS.astore X221.here hx rfl (hb hby od193) rfl rfl (l' := #[vr a0, vi 0, vi 3, vr b218, vi 0, vr r221]) rfl ?_
    refine XS.aload X221.here hx rfl (hb hby od194) rfl rfl ?_
    refine XS.iload X221.here hx rfl (hb hby od195) rfl ?_
    refine st223 _ ?_
    refine XS.sipush X223.here hx rfl (hb hby od197) ?_
    refine XS.icmpYes X223.here hx rfl (pc0 := 38) (pc' := 54) rfl (hb hby od198) rfl (tlt hc_c0).2.2.1 (by decide) (by decide) ?_
    refine XS.aload X223.here hx rfl (hb hby od199) rfl rfl ?_
    exact own_retA X223 hx Bd.returns rfl rfl rfl (hb hby od200) hr
  · show Q_cmpA3_0 Z a0 kc1 c0 c1 c2 h0 n0 _ T223.heap _
    rw [e223]
    exact ⟨_, _, rfl, N223, EX221, sz_r221, V221⟩
theorem own_ef_cmpI3_1 (m : MethodId) (a0 : Addr) (a2 : Addr) : entryFrame m #[(.ref a0), (.int 0), (.ref a2), (.int 0), (.int 3)] 7 = mkF m 0 #[vr a0, vi 0, vr a2, vi 0, vi 3, .unset, .unset] [] := by first | (simp [entryFrame, mkF, argsToLocals, Value.category]; done) | rfl
def Q_cmpI3_1 (Z : State) (a0 : Addr) (a2 : Addr) (kc1 : ClassId) (c0 : Int32) (c1 : Int32) (c2 : Int32) (kb1 : ClassId) (h0 : Heap) (n0 : Nat) (v : Option Value) (h : Heap) (L : List Loc) : Prop := v = some (.int 1) ∧ Fr n0 L ∧ Keep h0 h [a2]
theorem rm_cmpI3_1 (l : Launch) (Z : State) (a0' : Array Value) (hw : ∀ d ∈ tables_1, d.before a0' Z = true) (ws : List Jvm.Cond) (a0 : Addr) (a2 : Addr) (kc1 : ClassId) (c0 : Int32) (c1 : Int32) (c2 : Int32) (kb1 : ClassId) (h0 : Heap) (n0 : Nat) (Z0 : n0 ≤ h0.size) (VA : Arv Z h0 a0 kc1 .char (3 : Int32) [(.int c0), (.int c1), (.int c2)] (.int 0)) (VB : Arv Z h0 a2 kb1 .byte (3 : Int32) [(.int 0), (.int 0), (.int 0)] (.int 0)) (nab : a0 ≠ a2) (g2 : n0 ≤ a2) (hc_c0 : ¬ ((255 : Int32) < c0)) (hc_c1 : (255 : Int32) < c1) :
    MF l nm16 jdk_52_method_21_code 7 (some .int) ws (⟨0, 0, 0, 0⟩ : Room) #[(.ref a0), (.int 0), (.ref a2), (.int 0), (.int 3)] Z h0 (Q_cmpI3_1 Z a0 a2 kc1 c0 c1 c2 kb1 h0 n0) := by
  refine MetFree.of_bodySF (plainFor_of_name own_pn3) hisR ?_
  intro p e s m args below meth c s₁ Bd hml0 hP hK
  obtain ⟨rfl, hZ, hh⟩ := hP
  have hx := Bd.exec
  have hby := Bd.bytes
  have hml : c.maxLocals = 7 := hml0
  have hown : s.vm.findClass "java/lang/StringUTF16" = some m.cls := findClass_of_methodNamed Bd.named
  have hnm := (name_of_methodNamed Bd.named Bd.method).1
  have X0 : Stand p l e (⟨0, 0, 0, 0⟩ : Room) s m #[(.ref a0), (.int 0), (.ref a2), (.int 0), (.int 3)] below meth c s₁ [] 0 0 := Stand.of_body Bd
  have e0 : s₁.heap = h0 := by rw [← hh, Bd.state]; rfl
  have N0 := Fr.nil n0
  have pre0 : PT p e below (s₁.setTop (mkF m 0 #[vr a0, vi 0, vr a2, vi 0, vi 3, .unset, .unset] [])) (s₁.setTop (entryFrame m #[(.ref a0), (.int 0), (.ref a2), (.int 0), (.int 3)] 7)) := fun t k => castTop (own_ef_cmpI3_1 m a0 a2) k
  have Vc225 := VA
  obtain ⟨cl225, Ar225, q225, S225, N_225, H225, G225⟩ := Vc225
  have hin225 : ¬ ((0 : Int32) < 0 ∨ cl225.slots.size ≤ ((0 : Int32)).toNatClampNeg) := inb_of S225 ⟨by decide, by decide⟩
  have hat225 : cl225.slots[((0 : Int32)).toNatClampNeg]? = some (.int c0) := H225 0 (by rw [S225]; decide)
  have Vc226 := VB
  obtain ⟨cl226, Ar226, q226, S226, N_226, H226, G226⟩ := Vc226
  have hin226 : ¬ ((0 : Int32) < 0 ∨ cl226.slots.size ≤ ((0 : Int32)).toNatClampNeg) := inb_of S226 ⟨by decide, by decide⟩
  obtain ⟨T227, h227, X227, e227, W227, st227⟩ := stB X0 hx hZ e0 Ar226 (j := (0 : Int32)) hin226 (g := (mkF m 31 #[vr a0, vi 0, vr a2, vi 0, vi 3, vi 0, vi c0] [(.int (c0.toInt8.toInt32)), (.int 0), (.ref a2)])) rfl rfl (hb hby od241)
  have V_a2_227 : Arv Z h227 a2 kb1 .byte (3 : Int32) [(.int (nar .byte (c0.toInt8.toInt32))), (.int 0), (.int 0)] (.int 0) := Arv.set Ar226 q226 S226 N_226 H226 G226 (fits_nar_byte _) W227 0 rfl (Nat.le_of_ble_eq_true rfl)
  have N227 := Fr.snoc X227 N0 g2
  have KP227 : Keep h0 h227 [a2] := (Keep.refl h0 [a2]).wr W227 (Or.inl (List.mem_of_getElem? (i := 0) rfl))
  have SZ227 : h0.size ≤ h227.size := KP227.1
  have Z227 : n0 ≤ h227.size := Nat.le_trans Z0 SZ227
  have fx228 := (VA.other W227 nab)
  have Vc229 := fx228
  obtain ⟨cl229, Ar229, q229, S229, N_229, H229, G229⟩ := Vc229
  have hin229 : ¬ (((0 : Int32) + (1 : Int32)) < 0 ∨ cl229.slots.size ≤ (((0 : Int32) + (1 : Int32))).toNatClampNeg) := inb_of S229 ⟨by decide, by decide⟩
  have hat229 : cl229.slots[(((0 : Int32) + (1 : Int32))).toNatClampNeg]? = some (.int c1) := H229 1 (by rw [S229]; decide)
  obtain ⟨fs, hr, hrun, hended, hW, hsame⟩ := X227.leave (v := some (.int ((0 : Int32) + (1 : Int32)))) (fun h => by rw [Bd.returns] at h; cases h)
  refine ⟨_, _, pre0 _ ?_, hrun, hended, _, _, rfl, ?_, ⟨_, rfl⟩, hW, hsame.mono (by decide) (by decide)⟩
  · show Steps p.tables e below (s₁.setTop (mkF m 0 #[vr a0, vi 0, vr a2, vi 0, vi 3, .unset, .unset] [])) _
    refine XS.iconst X0.here hx rfl (hb hby od162) ?_
    refine XS.istore X0.here hx rfl (hb hby od163) rfl (l' := #[vr a0, vi 0, vr a2, vi 0, vi 3, vi 0, .unset]) rfl ?_
    refine XS.iload X0.here hx rfl (hb hby od164) rfl ?_
    refine XS.iload X0.here hx rfl (hb hby od165) rfl ?_
    refine XS.icmpNo X0.here hx rfl (hb hby od166) rfl (tlt (by decide : (0 : Int32) < (3 : Int32))).2.1 ?_
    refine XS.aloadN X0.here hx rfl (hb hby od167) rfl rfl ?_
    refine XS.iloadN X0.here hx rfl (hb hby od168) rfl ?_
    refine X0.caload hx (j := (0 : Int32)) (v := (.int c0)) (by rw [e0]; exact Ar225.1) (State.isArrayOf_alike hZ.alike Ar225.2.1) Ar225.2.2 hin225 hat225 (g := (mkF m 12 #[vr a0, vi 0, vr a2, vi 0, vi 3, vi 0, .unset] [(.int 0), (.ref a0)])) rfl rfl (hb hby od169) _ ?_
    refine XS.istore X0.here hx rfl (hb hby od170) rfl (l' := #[vr a0, vi 0, vr a2, vi 0, vi 3, vi 0, vi c0]) rfl ?_
    refine XS.iload X0.here hx rfl (hb hby od171) rfl ?_
    refine XS.sipush X0.here hx rfl (hb hby od172) ?_
    refine XS.icmpYes X0.here hx rfl (pc0 := 20) (pc' := 26) rfl (hb hby od173) rfl (flt hc_c0).2.2.2 (by decide) (by decide) ?_
    refine XS.aloadN X0.here hx rfl (hb hby od237) rfl rfl ?_
    refine XS.iloadN X0.here hx rfl (hb hby od238) rfl ?_
    refine XS.iload X0.here hx rfl (hb hby od239) rfl ?_
    refine XS.i2b X0.here hx rfl (hb hby od240) rfl ?_
    refine st227 _ ?_
    refine XS.iinc X227.here hx rfl (hb hby od242) rfl (l' := #[vr a0, vi ((0 : Int32) + (1 : Int32)), vr a2, vi 0, vi 3, vi 0, vi c0]) rfl ?_
    refine XS.iinc X227.here hx rfl (hb hby od243) rfl (l' := #[vr a0, vi ((0 : Int32) + (1 : Int32)), vr a2, vi ((0 : Int32) + (1 : Int32)), vi 3, vi 0, vi c0]) rfl ?_
    refine XS.iinc X227.here hx rfl (hb hby od244) rfl (l' := #[vr a0, vi ((0 : Int32) + (1 : Int32)), vr a2, vi ((0 : Int32) + (1 : Int32)), vi 3, vi ((0 : Int32) + (1 : Int32)), vi c0]) rfl ?_
    refine XS.goto X227.here hx rfl (pc0 := 41) (pc' := 3) rfl (hb hby od245) (by decide) (by decide) ?_
    refine XS.iload X227.here hx rfl (hb hby od164) rfl ?_
    refine XS.iload X227.here hx rfl (hb hby od165) rfl ?_
    refine XS.icmpNo X227.here hx rfl (hb hby od166) rfl (tlt (by decide : ((0 : Int32) + (1 : Int32)) < (3 : Int32))).2.1 ?_
    refine XS.aloadN X227.here hx rfl (hb hby od167) rfl rfl ?_
    refine XS.iloadN X227.here hx rfl (hb hby od168) rfl ?_
    refine X227.caload hx (j := ((0 : Int32) + (1 : Int32))) (v := (.int c1)) (by rw [e227]; exact Ar229.1) (State.isArrayOf_alike hZ.alike Ar229.2.1) Ar229.2.2 hin229 hat229 (g := (mkF m 12 #[vr a0, vi ((0 : Int32) + (1 : Int32)), vr a2, vi ((0 : Int32) + (1 : Int32)), vi 3, vi ((0 : Int32) + (1 : Int32)), vi c0] [(.int ((0 : Int32) + (1 : Int32))), (.ref a0)])) rfl rfl (hb hby od169) _ ?_
    refine XS.istore X227.here hx rfl (hb hby od170) rfl (l' := #[vr a0, vi ((0 : Int32) + (1 : Int32)), vr a2, vi ((0 : Int32) + (1 : Int32)), vi 3, vi ((0 : Int32) + (1 : Int32)), vi c1]) rfl ?_
    refine XS.iload X227.here hx rfl (hb hby od171) rfl ?_
    refine XS.sipush X227.here hx rfl (hb hby od172) ?_
    refine XS.icmpNo X227.here hx rfl (hb hby od173) rfl (tlt hc_c1).2.2.2 ?_
    refine XS.iload X227.here hx rfl (hb hby od174) rfl ?_
    exact own_retI X227 hx Bd.returns (hb hby od175) hr
  · show Q_cmpI3_1 Z a0 a2 kc1 c0 c1 c2 kb1 h0 n0 _ T227.heap _
    rw [e227]
    exact ⟨rfl, N227, KP227⟩
theorem own_ef_cmpA3_1 (m : MethodId) (a0 : Addr) : entryFrame m #[(.ref a0), (.int 0), (.int 3)] 6 = mkF m 0 #[vr a0, vi 0, vi 3, .unset, .unset, .unset] [] := by first | (simp [entryFrame, mkF, argsToLocals, Value.category]; done) | rfl
def Q_cmpA3_1 (Z : State) (a0 : Addr) (kc1 : ClassId) (c0 : Int32) (c1 : Int32) (c2 : Int32) (h0 : Heap) (n0 : Nat) (v : Option Value) (h : Heap) (L : List Loc) : Prop := ∃ (r : Addr) (k : ClassId), v = some (.ref r) ∧ Fr n0 L ∧ Ext h0 h ∧ h0.size ≤ r ∧ Arv Z h r k .byte (6 : Int32) [(.int (nar .byte ((c0 >>> ((0 : Int32) &&& 31)).toInt8.toInt32))), (.int (nar .byte ((c0 >>> ((8 : Int32) &&& 31)).toInt8.toInt32))), (.int (nar .byte ((c1 >>> ((0 : Int32) &&& 31)).toInt8.toInt32))), (.int (nar .byte ((c1 >>> ((8 : Int32) &&& 31)).toInt8.toInt32))), (.int (nar .byte ((c2 >>> ((0 : Int32) &&& 31)).toInt8.toInt32))), (.int (nar .byte ((c2 >>> ((8 : Int32) &&& 31)).toInt8.toInt32)))] (.int 0)
theorem rm_cmpA3_1 (l : Launch) (Z : State) (a0' : Array Value) (hw : ∀ d ∈ tables_1, d.before a0' Z = true) (ws : List Jvm.Cond) (a0 : Addr) (kc1 : ClassId) (c0 : Int32) (c1 : Int32) (c2 : Int32) (h0 : Heap) (n0 : Nat) (Z0 : n0 ≤ h0.size) (VA : Arv Z h0 a0 kc1 .char (3 : Int32) [(.int c0), (.int c1), (.int c2)] (.int 0)) (hc_c0 : ¬ ((255 : Int32) < c0)) (hc_c1 : (255 : Int32) < c1) (hb_c1 : 0 ≤ c1.toInt ∧ c1.toInt ≤ 65535) (S_ad : Sta Z h0 "java/lang/StringUTF16" "$assertionsDisabled" "Z" (.int 1)) (S_hi : Sta Z h0 "java/lang/StringUTF16" "HI_BYTE_SHIFT" "I" (.int 0)) (S_lo : Sta Z h0 "java/lang/StringUTF16" "LO_BYTE_SHIFT" "I" (.int 8)) :
    MF l nm17 jdk_52_method_16_code 6 (some (.array .byte)) ws (⟨3, 2, 9, 40⟩ : Room) #[(.ref a0), (.int 0), (.int 3)] Z h0 (Q_cmpA3_1 Z a0 kc1 c0 c1 c2 h0 n0) := by
  refine MetFree.of_bodySF (plainFor_of_name own_pn3) hisR ?_
  intro p e s m args below meth c s₁ Bd hml0 hP hK
  obtain ⟨rfl, hZ, hh⟩ := hP
  have hx := Bd.exec
  have hby := Bd.bytes
  have hml : c.maxLocals = 6 := hml0
  have hown : s.vm.findClass "java/lang/StringUTF16" = some m.cls := findClass_of_methodNamed Bd.named
  have hnm := (name_of_methodNamed Bd.named Bd.method).1
  have X0 : Stand p l e (⟨3, 2, 9, 40⟩ : Room) s m #[(.ref a0), (.int 0), (.int 3)] below meth c s₁ [] 0 0 := Stand.of_body Bd
  have e0 : s₁.heap = h0 := by rw [← hh, Bd.state]; rfl
  have N0 := Fr.nil n0
  have pre0 : PT p e below (s₁.setTop (mkF m 0 #[vr a0, vi 0, vi 3, .unset, .unset, .unset] [])) (s₁.setTop (entryFrame m #[(.ref a0), (.int 0), (.int 3)] 6)) := fun t k => castTop (own_ef_cmpA3_1 m a0) k
  obtain ⟨T230, h230, k230, X230, e230, E230, A230, st230⟩ := newP X0 hx hZ (ow hw 17 rfl) e0 (g := (mkF m 1 #[vr a0, vi 0, vi 3, .unset, .unset, .unset] [(.int 3)])) rfl (hb hby od177) rfl (by decide) (cap := 3) (by decide) (by decide) (by decide) (by decide)
  obtain ⟨b230, g230⟩ : ∃ z, z = h0.size := ⟨_, rfl⟩
  rw [← g230] at A230 st230
  have ne230_a0_b230 : a0 ≠ b230 := Nat.ne_of_lt (Nat.lt_of_lt_of_le VA.lt (Nat.le_of_eq g230.symm))
  have V_b230 : Arv Z h230 b230 k230 .byte (3 : Int32) [(.int 0), (.int 0), (.int 0)] (.int 0) := (Arv.new A230 (by decide)).pad (pad_rep [] (.int 0) 3)
  have g_b230 : n0 ≤ b230 := Nat.le_trans Z0 (Nat.le_of_eq g230.symm)
  have sz_b230 : h0.size ≤ b230 := Nat.le_trans (Nat.le_refl _) (Nat.le_of_eq g230.symm)
  have EX230 : Ext h0 h230 := E230
  have SZ230 : h0.size ≤ h230.size := EX230.1
  have Z230 : n0 ≤ h230.size := Nat.le_trans Z0 SZ230
  have fx232 := (VA.ext E230)
  obtain ⟨_, _, ⟨T231, L231, k231, n231⟩, -, X231, ⟨Lc231, hQ231, l231, y231, z231⟩, st231⟩ := Jvm.LawKit.callS X230 hx (y := nm16) hown (mvT hZ (ow hw 43 rfl)) (mvT hZ (ow hw 44 rfl)) (mvT hZ (ow hw 41 rfl)) (mvT hZ (ow hw 45 rfl)) (by decide) (backOf (W := 0) (rm_cmpI3_1 l Z a0' hw [] a0 b230 kc1 c0 c1 c2 k230 h230 n0 Z230 fx232 V_b230 ne230_a0_b230 g_b230 hc_c0 hc_c1) hZ (ow hw 45 rfl) (ow hw 41 rfl) (by decide) (by decide)) (g := (mkF m 9 #[vr a0, vi 0, vi 3, vr b230, .unset, .unset] [(.int 3), (.int 0), (.ref b230), (.int 0), (.ref a0)])) rfl (by rw [hml]; rfl) (argsL := [(.ref a0), (.int 0), (.ref b230), (.int 0), (.int 3)]) (rest := []) (lenOf own_pd10 rfl) rfl (by show 2 * 0 + _ ≤ _; exact Nat.le_of_eq rfl) (hb hby od184) (fun _ _ => ⟨rfl, e230, (by decide : 1 + 0 ≤ _), (by decide : 3 + 0 ≤ _)⟩)
  dsimp only [Pt.U, Pt.locs, Pt.cells, Pt.slots] at X231 l231 y231 z231 st231 hQ231
  subst l231 y231 z231
  obtain ⟨rfl, N231q, K231⟩ := hQ231
  have N231 := Fr.app N0 N231q
  have EX231 : Ext h0 T231.heap := own_extkeep EX230 K231 sz_b230
  have SZ231 : h0.size ≤ T231.heap.size := EX231.1
  have Z231 : n0 ≤ T231.heap.size := Nat.le_trans Z0 SZ231
  have fx234 := (fx232.keep K231 (ninS ne230_a0_b230 nin0))
  obtain ⟨_, _, ⟨T233, L233, k233, n233⟩, -, X233, ⟨Lc233, hQ233, l233, y233, z233⟩, st233⟩ := Jvm.LawKit.callS X231 hx (y := nm15) hown (mvT hZ (ow hw 88 rfl)) (mvT hZ (ow hw 89 rfl)) (mvT hZ (ow hw 41 rfl)) (mvT hZ (ow hw 90 rfl)) (by decide) (backOf (W := 0) (rm_tob3 l Z a0' hw [] a0 kc1 c0 c1 c2 T231.heap n0 Z231 fx234 (S_ad.ext EX231) (S_hi.ext EX231) (S_lo.ext EX231)) hZ (ow hw 90 rfl) (ow hw 41 rfl) (by decide) (by decide)) (g := (mkF m 23 #[vr a0, vi 0, vi 3, vr b230, vi 1, .unset] [(.int 3), (.int 0), (.ref a0)])) rfl (by rw [hml]; rfl) (argsL := [(.ref a0), (.int 0), (.int 3)]) (rest := []) (lenOf own_pd11 rfl) rfl (by show 2 * 0 + _ ≤ _; exact Nat.le_of_eq rfl) (hb hby od192) (fun _ _ => ⟨rfl, rfl, (by decide : 1 + 1 ≤ _), (by decide : 3 + 6 ≤ _)⟩)
  dsimp only [Pt.U, Pt.locs, Pt.cells, Pt.slots] at X233 l233 y233 z233 st233 hQ233
  subst l233 y233 z233
  obtain ⟨r233, kk233, rfl, N233q, E233, zz233, V233⟩ := hQ233
  have N233 := Fr.app N231 N233q
  have ne233_a0_r233 : a0 ≠ r233 := Nat.ne_of_lt (Nat.lt_of_lt_of_le fx234.lt zz233)
  have g_r233 : n0 ≤ r233 := Nat.le_trans Z231 zz233
  have sz_r233 : h0.size ≤ r233 := Nat.le_trans SZ231 zz233
  have EX233 : Ext h0 T233.heap := own_exttr EX231 E233
  have SZ233 : h0.size ≤ T233.heap.size := EX233.1
  have Z233 : n0 ≤ T233.heap.size := Nat.le_trans Z0 SZ233
  have Vc236 := V233
  obtain ⟨cl236, Ar236, q236, S236, N_236, H236, G236⟩ := Vc236
  obtain ⟨_, _, ⟨T235, L235, k235, n235⟩, -, X235, ⟨Lc235, hQ235, l235, y235, z235⟩, st235⟩ := Jvm.LawKit.callS X233 hx (y := nm5) hown (mvT hZ (ow hw 104 rfl)) (mvT hZ (ow hw 105 rfl)) (mvT hZ (ow hw 41 rfl)) (mvT hZ (ow hw 106 rfl)) (by decide) (backOf (W := 0) (rm_getC l Z a0' hw [] r233 (1 : Int32) cl236 (nar .byte ((c1 >>> ((0 : Int32) &&& 31)).toInt8.toInt32)) (nar .byte ((c1 >>> ((8 : Int32) &&& 31)).toInt8.toInt32)) T233.heap n0 Z233 Ar236 (inb_of S236 ⟨by decide, by decide⟩) (H236 2 (by rw [S236]; decide)) (inb_of S236 ⟨by decide, by decide⟩) (H236 3 (by rw [S236]; decide)) (S_ad.ext EX233) (S_hi.ext EX233) (S_lo.ext EX233)) hZ (ow hw 106 rfl) (ow hw 41 rfl) (by decide) (by decide)) (g := (mkF m 32 #[vr a0, vi 0, vi 3, vr b230, vi 1, vr r233] [(.int 1), (.ref r233)])) rfl (by rw [hml]; rfl) (argsL := [(.ref r233), (.int 1)]) (rest := []) (lenOf own_pd4 rfl) rfl (by show 2 * 0 + _ ≤ _; exact Nat.le_of_eq rfl) (hb hby od196) (fun _ _ => ⟨rfl, rfl, (by decide : 2 + 0 ≤ _), (by decide : 9 + 0 ≤ _)⟩)
  dsimp only [Pt.U, Pt.locs, Pt.cells, Pt.slots] at X235 l235 y235 z235 st235 hQ235
  subst l235 y235 z235
  obtain ⟨rfl, N235q, e235⟩ := hQ235
  have N235 := Fr.app N233 N235q
  have q235 : (F_getC (nar .byte ((c1 >>> ((0 : Int32) &&& 31)).toInt8.toInt32)) (nar .byte ((c1 >>> ((8 : Int32) &&& 31)).toInt8.toInt32))) = c1 := by unfold F_getC; exact own_getc c1 hb_c1
  rw [q235] at st235
  obtain ⟨fs, hr, hrun, hended, hW, hsame⟩ := X235.leave (v := some (.ref r233)) (fun h => by rw [Bd.returns] at h; cases h)
  refine ⟨_, _, pre0 _ ?_, hrun, hended, _, _, rfl, ?_, ⟨_, rfl⟩, hW, hsame.mono (by decide) (by decide)⟩
  · show Steps p.tables e below (s₁.setTop (mkF m 0 #[vr a0, vi 0, vi 3, .unset, .unset, .unset] [])) _
    refine XS.iloadN X0.here hx rfl (hb hby od176) rfl ?_
    refine st230 _ ?_
    refine XS.astoreN X230.here hx rfl (hb hby od178) rfl rfl (l' := #[vr a0, vi 0, vi 3, vr b230, .unset, .unset]) rfl ?_
    refine XS.aloadN X230.here hx rfl (hb hby od179) rfl rfl ?_
    refine XS.iloadN X230.here hx rfl (hb hby od180) rfl ?_
    refine XS.aloadN X230.here hx rfl (hb hby od181) rfl rfl ?_
    refine XS.iconst X230.here hx rfl (hb hby od182) ?_
    refine XS.iloadN X230.here hx rfl (hb hby od183) rfl ?_
    refine st231 _ ?_
    refine XS.istore X231.here hx rfl (hb hby od185) rfl (l' := #[vr a0, vi 0, vi 3, vr b230, vi 1, .unset]) rfl ?_
    refine XS.iload X231.here hx rfl (hb hby od186) rfl ?_
    refine XS.iloadN X231.here hx rfl (hb hby od187) rfl ?_
    refine XS.icmpNo X231.here hx rfl (hb hby od188) rfl (feq (by decide : ¬ ((1 : Int32) = (3 : Int32)))).1 ?_
    refine XS.aloadN X231.here hx rfl (hb hby od189) rfl rfl ?_
    refine XS.iloadN X231.here hx rfl (hb hby od190) rfl ?_
    refine XS.iloadN X231.here hx rfl (hb hby od191) rfl ?_
    refine st233 _ ?_
    refine XS.astore X233.here hx rfl (hb hby od193) rfl rfl (l' := #[vr a0, vi 0, vi 3, vr b230, vi 1, vr r233]) rfl ?_
    refine XS.aload X233.here hx rfl (hb hby od194) rfl rfl ?_
    refine XS.iload X233.here hx rfl (hb hby od195) rfl ?_
    refine st235 _ ?_
    refine XS.sipush X235.here hx rfl (hb hby od197) ?_
    refine XS.icmpYes X235.here hx rfl (pc0 := 38) (pc' := 54) rfl (hb hby od198) rfl (tlt hc_c1).2.2.1 (by decide) (by decide) ?_
    refine XS.aload X235.here hx rfl (hb hby od199) rfl rfl ?_
    exact own_retA X235 hx Bd.returns rfl rfl rfl (hb hby od200) hr
  · show Q_cmpA3_1 Z a0 kc1 c0 c1 c2 h0 n0 _ T235.heap _
    rw [e235]
    exact ⟨_, _, rfl, N235, EX233, sz_r233, V233⟩
theorem own_ef_cmpI3_2 (m : MethodId) (a0 : Addr) (a2 : Addr) : entryFrame m #[(.ref a0), (.int 0), (.ref a2), (.int 0), (.int 3)] 7 = mkF m 0 #[vr a0, vi 0, vr a2, vi 0, vi 3, .unset, .unset] [] := by first | (simp [entryFrame, mkF, argsToLocals, Value.category]; done) | rfl
def Q_cmpI3_2 (Z : State) (a0 : Addr) (a2 : Addr) (kc1 : ClassId) (c0 : Int32) (c1 : Int32) (c2 : Int32) (kb1 : ClassId) (h0 : Heap) (n0 : Nat) (v : Option Value) (h : Heap) (L : List Loc) : Prop := v = some (.int 2) ∧ Fr n0 L ∧ Keep h0 h [a2]
theorem rm_cmpI3_2 (l : Launch) (Z : State) (a0' : Array Value) (hw : ∀ d ∈ tables_1, d.before a0' Z = true) (ws : List Jvm.Cond) (a0 : Addr) (a2 : Addr) (kc1 : ClassId) (c0 : Int32) (c1 : Int32) (c2 : Int32) (kb1 : ClassId) (h0 : Heap) (n0 : Nat) (Z0 : n0 ≤ h0.size) (VA : Arv Z h0 a0 kc1 .char (3 : Int32) [(.int c0), (.int c1), (.int c2)] (.int 0)) (VB : Arv Z h0 a2 kb1 .byte (3 : Int32) [(.int 0), (.int 0), (.int 0)] (.int 0)) (nab : a0 ≠ a2) (g2 : n0 ≤ a2) (hc_c0 : ¬ ((255 : Int32) < c0)) (hc_c1 : ¬ ((255 : Int32) < c1)) (hc_c2 : (255 : Int32) < c2) :
    MF l nm16 jdk_52_method_21_code 7 (some .int) ws (⟨0, 0, 0, 0⟩ : Room) #[(.ref a0), (.int 0), (.ref a2), (.int 0), (.int 3)] Z h0 (Q_cmpI3_2 Z a0 a2 kc1 c0 c1 c2 kb1 h0 n0) := by
  refine MetFree.of_bodySF (plainFor_of_name own_pn3) hisR ?_
  intro p e s m args below meth c s₁ Bd hml0 hP hK
  obtain ⟨rfl, hZ, hh⟩ := hP
  have hx := Bd.exec
  have hby := Bd.bytes
  have hml : c.maxLocals = 7 := hml0
  have hown : s.vm.findClass "java/lang/StringUTF16" = some m.cls := findClass_of_methodNamed Bd.named
  have hnm := (name_of_methodNamed Bd.named Bd.method).1
  have X0 : Stand p l e (⟨0, 0, 0, 0⟩ : Room) s m #[(.ref a0), (.int 0), (.ref a2), (.int 0), (.int 3)] below meth c s₁ [] 0 0 := Stand.of_body Bd
  have e0 : s₁.heap = h0 := by rw [← hh, Bd.state]; rfl
  have N0 := Fr.nil n0
  have pre0 : PT p e below (s₁.setTop (mkF m 0 #[vr a0, vi 0, vr a2, vi 0, vi 3, .unset, .unset] [])) (s₁.setTop (entryFrame m #[(.ref a0), (.int 0), (.ref a2), (.int 0), (.int 3)] 7)) := fun t k => castTop (own_ef_cmpI3_2 m a0 a2) k
  have Vc237 := VA
  obtain ⟨cl237, Ar237, q237, S237, N_237, H237, G237⟩ := Vc237
  have hin237 : ¬ ((0 : Int32) < 0 ∨ cl237.slots.size ≤ ((0 : Int32)).toNatClampNeg) := inb_of S237 ⟨by decide, by decide⟩
  have hat237 : cl237.slots[((0 : Int32)).toNatClampNeg]? = some (.int c0) := H237 0 (by rw [S237]; decide)
  have Vc238 := VB
  obtain ⟨cl238, Ar238, q238, S238, N_238, H238, G238⟩ := Vc238
  have hin238 : ¬ ((0 : Int32) < 0 ∨ cl238.slots.size ≤ ((0 : Int32)).toNatClampNeg) := inb_of S238 ⟨by decide, by decide⟩
  obtain ⟨T239, h239, X239, e239, W239, st239⟩ := stB X0 hx hZ e0 Ar238 (j := (0 : Int32)) hin238 (g := (mkF m 31 #[vr a0, vi 0, vr a2, vi 0, vi 3, vi 0, vi c0] [(.int (c0.toInt8.toInt32)), (.int 0), (.ref a2)])) rfl rfl (hb hby od241)
  have V_a2_239 : Arv Z h239 a2 kb1 .byte (3 : Int32) [(.int (nar .byte (c0.toInt8.toInt32))), (.int 0), (.int 0)] (.int 0) := Arv.set Ar238 q238 S238 N_238 H238 G238 (fits_nar_byte _) W239 0 rfl (Nat.le_of_ble_eq_true rfl)
  have N239 := Fr.snoc X239 N0 g2
  have KP239 : Keep h0 h239 [a2] := (Keep.refl h0 [a2]).wr W239 (Or.inl (List.mem_of_getElem? (i := 0) rfl))
  have SZ239 : h0.size ≤ h239.size := KP239.1
  have Z239 : n0 ≤ h239.size := Nat.le_trans Z0 SZ239
  have fx240 := (VA.other W239 nab)
  have Vc241 := fx240
  obtain ⟨cl241, Ar241, q241, S241, N_241, H241, G241⟩ := Vc241
  have hin241 : ¬ (((0 : Int32) + (1 : Int32)) < 0 ∨ cl241.slots.size ≤ (((0 : Int32) + (1 : Int32))).toNatClampNeg) := inb_of S241 ⟨by decide, by decide⟩
  have hat241 : cl241.slots[(((0 : Int32) + (1 : Int32))).toNatClampNeg]? = some (.int c1) := H241 1 (by rw [S241]; decide)
  have Vc242 := V_a2_239
  obtain ⟨cl242, Ar242, q242, S242, N_242, H242, G242⟩ := Vc242
  have hin242 : ¬ (((0 : Int32) + (1 : Int32)) < 0 ∨ cl242.slots.size ≤ (((0 : Int32) + (1 : Int32))).toNatClampNeg) := inb_of S242 ⟨by decide, by decide⟩
  obtain ⟨T243, h243, X243, e243, W243, st243⟩ := stB X239 hx hZ e239 Ar242 (j := ((0 : Int32) + (1 : Int32))) hin242 (g := (mkF m 31 #[vr a0, vi ((0 : Int32) + (1 : Int32)), vr a2, vi ((0 : Int32) + (1 : Int32)), vi 3, vi ((0 : Int32) + (1 : Int32)), vi c1] [(.int (c1.toInt8.toInt32)), (.int ((0 : Int32) + (1 : Int32))), (.ref a2)])) rfl rfl (hb hby od241)
  have V_a2_243 : Arv Z h243 a2 kb1 .byte (3 : Int32) [(.int (nar .byte (c0.toInt8.toInt32))), (.int (nar .byte (c1.toInt8.toInt32))), (.int 0)] (.int 0) := Arv.set Ar242 q242 S242 N_242 H242 G242 (fits_nar_byte _) W243 1 rfl (Nat.le_of_ble_eq_true rfl)
  have N243 := Fr.snoc X243 N239 g2
  have KP243 : Keep h0 h243 [a2] := KP239.wr W243 (Or.inl (List.mem_of_getElem? (i := 0) rfl))
  have SZ243 : h0.size ≤ h243.size := KP243.1
  have Z243 : n0 ≤ h243.size := Nat.le_trans Z0 SZ243
  have fx244 := (fx240.other W243 nab)
  have Vc245 := fx244
  obtain ⟨cl245, Ar245, q245, S245, N_245, H245, G245⟩ := Vc245
  have hin245 : ¬ ((((0 : Int32) + (1 : Int32)) + (1 : Int32)) < 0 ∨ cl245.slots.size ≤ ((((0 : Int32) + (1 : Int32)) + (1 : Int32))).toNatClampNeg) := inb_of S245 ⟨by decide, by decide⟩
  have hat245 : cl245.slots[((((0 : Int32) + (1 : Int32)) + (1 : Int32))).toNatClampNeg]? = some (.int c2) := H245 2 (by rw [S245]; decide)
  obtain ⟨fs, hr, hrun, hended, hW, hsame⟩ := X243.leave (v := some (.int (((0 : Int32) + (1 : Int32)) + (1 : Int32)))) (fun h => by rw [Bd.returns] at h; cases h)
  refine ⟨_, _, pre0 _ ?_, hrun, hended, _, _, rfl, ?_, ⟨_, rfl⟩, hW, hsame.mono (by decide) (by decide)⟩
  · show Steps p.tables e below (s₁.setTop (mkF m 0 #[vr a0, vi 0, vr a2, vi 0, vi 3, .unset, .unset] [])) _
    refine XS.iconst X0.here hx rfl (hb hby od162) ?_
    refine XS.istore X0.here hx rfl (hb hby od163) rfl (l' := #[vr a0, vi 0, vr a2, vi 0, vi 3, vi 0, .unset]) rfl ?_
    refine XS.iload X0.here hx rfl (hb hby od164) rfl ?_
    refine XS.iload X0.here hx rfl (hb hby od165) rfl ?_
    refine XS.icmpNo X0.here hx rfl (hb hby od166) rfl (tlt (by decide : (0 : Int32) < (3 : Int32))).2.1 ?_
    refine XS.aloadN X0.here hx rfl (hb hby od167) rfl rfl ?_
    refine XS.iloadN X0.here hx rfl (hb hby od168) rfl ?_
    refine X0.caload hx (j := (0 : Int32)) (v := (.int c0)) (by rw [e0]; exact Ar237.1) (State.isArrayOf_alike hZ.alike Ar237.2.1) Ar237.2.2 hin237 hat237 (g := (mkF m 12 #[vr a0, vi 0, vr a2, vi 0, vi 3, vi 0, .unset] [(.int 0), (.ref a0)])) rfl rfl (hb hby od169) _ ?_
    refine XS.istore X0.here hx rfl (hb hby od170) rfl (l' := #[vr a0, vi 0, vr a2, vi 0, vi 3, vi 0, vi c0]) rfl ?_
    refine XS.iload X0.here hx rfl (hb hby od171) rfl ?_
    refine XS.sipush X0.here hx rfl (hb hby od172) ?_
    refine XS.icmpYes X0.here hx rfl (pc0 := 20) (pc' := 26) rfl (hb hby od173) rfl (flt hc_c0).2.2.2 (by decide) (by decide) ?_
    refine XS.aloadN X0.here hx rfl (hb hby od237) rfl rfl ?_
    refine XS.iloadN X0.here hx rfl (hb hby od238) rfl ?_
    refine XS.iload X0.here hx rfl (hb hby od239) rfl ?_
    refine XS.i2b X0.here hx rfl (hb hby od240) rfl ?_
    refine st239 _ ?_
    refine XS.iinc X239.here hx rfl (hb hby od242) rfl (l' := #[vr a0, vi ((0 : Int32) + (1 : Int32)), vr a2, vi 0, vi 3, vi 0, vi c0]) rfl ?_
    refine XS.iinc X239.here hx rfl (hb hby od243) rfl (l' := #[vr a0, vi ((0 : Int32) + (1 : Int32)), vr a2, vi ((0 : Int32) + (1 : Int32)), vi 3, vi 0, vi c0]) rfl ?_
    refine XS.iinc X239.here hx rfl (hb hby od244) rfl (l' := #[vr a0, vi ((0 : Int32) + (1 : Int32)), vr a2, vi ((0 : Int32) + (1 : Int32)), vi 3, vi ((0 : Int32) + (1 : Int32)), vi c0]) rfl ?_
    refine XS.goto X239.here hx rfl (pc0 := 41) (pc' := 3) rfl (hb hby od245) (by decide) (by decide) ?_
    refine XS.iload X239.here hx rfl (hb hby od164) rfl ?_
    refine XS.iload X239.here hx rfl (hb hby od165) rfl ?_
    refine XS.icmpNo X239.here hx rfl (hb hby od166) rfl (tlt (by decide : ((0 : Int32) + (1 : Int32)) < (3 : Int32))).2.1 ?_
    refine XS.aloadN X239.here hx rfl (hb hby od167) rfl rfl ?_
    refine XS.iloadN X239.here hx rfl (hb hby od168) rfl ?_
    refine X239.caload hx (j := ((0 : Int32) + (1 : Int32))) (v := (.int c1)) (by rw [e239]; exact Ar241.1) (State.isArrayOf_alike hZ.alike Ar241.2.1) Ar241.2.2 hin241 hat241 (g := (mkF m 12 #[vr a0, vi ((0 : Int32) + (1 : Int32)), vr a2, vi ((0 : Int32) + (1 : Int32)), vi 3, vi ((0 : Int32) + (1 : Int32)), vi c0] [(.int ((0 : Int32) + (1 : Int32))), (.ref a0)])) rfl rfl (hb hby od169) _ ?_
    refine XS.istore X239.here hx rfl (hb hby od170) rfl (l' := #[vr a0, vi ((0 : Int32) + (1 : Int32)), vr a2, vi ((0 : Int32) + (1 : Int32)), vi 3, vi ((0 : Int32) + (1 : Int32)), vi c1]) rfl ?_
    refine XS.iload X239.here hx rfl (hb hby od171) rfl ?_
    refine XS.sipush X239.here hx rfl (hb hby od172) ?_
    refine XS.icmpYes X239.here hx rfl (pc0 := 20) (pc' := 26) rfl (hb hby od173) rfl (flt hc_c1).2.2.2 (by decide) (by decide) ?_
    refine XS.aloadN X239.here hx rfl (hb hby od237) rfl rfl ?_
    refine XS.iloadN X239.here hx rfl (hb hby od238) rfl ?_
    refine XS.iload X239.here hx rfl (hb hby od239) rfl ?_
    refine XS.i2b X239.here hx rfl (hb hby od240) rfl ?_
    refine st243 _ ?_
    refine XS.iinc X243.here hx rfl (hb hby od242) rfl (l' := #[vr a0, vi (((0 : Int32) + (1 : Int32)) + (1 : Int32)), vr a2, vi ((0 : Int32) + (1 : Int32)), vi 3, vi ((0 : Int32) + (1 : Int32)), vi c1]) rfl ?_
    refine XS.iinc X243.here hx rfl (hb hby od243) rfl (l' := #[vr a0, vi (((0 : Int32) + (1 : Int32)) + (1 : Int32)), vr a2, vi (((0 : Int32) + (1 : Int32)) + (1 : Int32)), vi 3, vi ((0 : Int32) + (1 : Int32)), vi c1]) rfl ?_
    refine XS.iinc X243.here hx rfl (hb hby od244) rfl (l' := #[vr a0, vi (((0 : Int32) + (1 : Int32)) + (1 : Int32)), vr a2, vi (((0 : Int32) + (1 : Int32)) + (1 : Int32)), vi 3, vi (((0 : Int32) + (1 : Int32)) + (1 : Int32)), vi c1]) rfl ?_
    refine XS.goto X243.here hx rfl (pc0 := 41) (pc' := 3) rfl (hb hby od245) (by decide) (by decide) ?_
    refine XS.iload X243.here hx rfl (hb hby od164) rfl ?_
    refine XS.iload X243.here hx rfl (hb hby od165) rfl ?_
    refine XS.icmpNo X243.here hx rfl (hb hby od166) rfl (tlt (by decide : (((0 : Int32) + (1 : Int32)) + (1 : Int32)) < (3 : Int32))).2.1 ?_
    refine XS.aloadN X243.here hx rfl (hb hby od167) rfl rfl ?_
    refine XS.iloadN X243.here hx rfl (hb hby od168) rfl ?_
    refine X243.caload hx (j := (((0 : Int32) + (1 : Int32)) + (1 : Int32))) (v := (.int c2)) (by rw [e243]; exact Ar245.1) (State.isArrayOf_alike hZ.alike Ar245.2.1) Ar245.2.2 hin245 hat245 (g := (mkF m 12 #[vr a0, vi (((0 : Int32) + (1 : Int32)) + (1 : Int32)), vr a2, vi (((0 : Int32) + (1 : Int32)) + (1 : Int32)), vi 3, vi (((0 : Int32) + (1 : Int32)) + (1 : Int32)), vi c1] [(.int (((0 : Int32) + (1 : Int32)) + (1 : Int32))), (.ref a0)])) rfl rfl (hb hby od169) _ ?_
    refine XS.istore X243.here hx rfl (hb hby od170) rfl (l' := #[vr a0, vi (((0 : Int32) + (1 : Int32)) + (1 : Int32)), vr a2, vi (((0 : Int32) + (1 : Int32)) + (1 : Int32)), vi 3, vi (((0 : Int32) + (1 : Int32)) + (1 : Int32)), vi c2]) rfl ?_
    refine XS.iload X243.here hx rfl (hb hby od171) rfl ?_
    refine XS.sipush X243.here hx rfl (hb hby od172) ?_
    refine XS.icmpNo X243.here hx rfl (hb hby od173) rfl (tlt hc_c2).2.2.2 ?_
    refine XS.iload X243.here hx rfl (hb hby od174) rfl ?_
    exact own_retI X243 hx Bd.returns (hb hby od175) hr
  · show Q_cmpI3_2 Z a0 a2 kc1 c0 c1 c2 kb1 h0 n0 _ T243.heap _
    rw [e243]
    exact ⟨rfl, N243, KP243⟩
theorem own_ef_cmpA3_2 (m : MethodId) (a0 : Addr) : entryFrame m #[(.ref a0), (.int 0), (.int 3)] 6 = mkF m 0 #[vr a0, vi 0, vi 3, .unset, .unset, .unset] [] := by first | (simp [entryFrame, mkF, argsToLocals, Value.category]; done) | rfl
def Q_cmpA3_2 (Z : State) (a0 : Addr) (kc1 : ClassId) (c0 : Int32) (c1 : Int32) (c2 : Int32) (h0 : Heap) (n0 : Nat) (v : Option Value) (h : Heap) (L : List Loc) : Prop := ∃ (r : Addr) (k : ClassId), v = some (.ref r) ∧ Fr n0 L ∧ Ext h0 h ∧ h0.size ≤ r ∧ Arv Z h r k .byte (6 : Int32) [(.int (nar .byte ((c0 >>> ((0 : Int32) &&& 31)).toInt8.toInt32))), (.int (nar .byte ((c0 >>> ((8 : Int32) &&& 31)).toInt8.toInt32))), (.int (nar .byte ((c1 >>> ((0 : Int32) &&& 31)).toInt8.toInt32))), (.int (nar .byte ((c1 >>> ((8 : Int32) &&& 31)).toInt8.toInt32))), (.int (nar .byte ((c2 >>> ((0 : Int32) &&& 31)).toInt8.toInt32))), (.int (nar .byte ((c2 >>> ((8 : Int32) &&& 31)).toInt8.toInt32)))] (.int 0)
theorem rm_cmpA3_2 (l : Launch) (Z : State) (a0' : Array Value) (hw : ∀ d ∈ tables_1, d.before a0' Z = true) (ws : List Jvm.Cond) (a0 : Addr) (kc1 : ClassId) (c0 : Int32) (c1 : Int32) (c2 : Int32) (h0 : Heap) (n0 : Nat) (Z0 : n0 ≤ h0.size) (VA : Arv Z h0 a0 kc1 .char (3 : Int32) [(.int c0), (.int c1), (.int c2)] (.int 0)) (hc_c0 : ¬ ((255 : Int32) < c0)) (hc_c1 : ¬ ((255 : Int32) < c1)) (hc_c2 : (255 : Int32) < c2) (hb_c2 : 0 ≤ c2.toInt ∧ c2.toInt ≤ 65535) (S_ad : Sta Z h0 "java/lang/StringUTF16" "$assertionsDisabled" "Z" (.int 1)) (S_hi : Sta Z h0 "java/lang/StringUTF16" "HI_BYTE_SHIFT" "I" (.int 0)) (S_lo : Sta Z h0 "java/lang/StringUTF16" "LO_BYTE_SHIFT" "I" (.int 8)) :
    MF l nm17 jdk_52_method_16_code 6 (some (.array .byte)) ws (⟨3, 2, 9, 40⟩ : Room) #[(.ref a0), (.int 0), (.int 3)] Z h0 (Q_cmpA3_2 Z a0 kc1 c0 c1 c2 h0 n0) := by
  refine MetFree.of_bodySF (plainFor_of_name own_pn3) hisR ?_
  intro p e s m args below meth c s₁ Bd hml0 hP hK
  obtain ⟨rfl, hZ, hh⟩ := hP
  have hx := Bd.exec
  have hby := Bd.bytes
  have hml : c.maxLocals = 6 := hml0
  have hown : s.vm.findClass "java/lang/StringUTF16" = some m.cls := findClass_of_methodNamed Bd.named
  have hnm := (name_of_methodNamed Bd.named Bd.method).1
  have X0 : Stand p l e (⟨3, 2, 9, 40⟩ : Room) s m #[(.ref a0), (.int 0), (.int 3)] below meth c s₁ [] 0 0 := Stand.of_body Bd
  have e0 : s₁.heap = h0 := by rw [← hh, Bd.state]; rfl
  have N0 := Fr.nil n0
  have pre0 : PT p e below (s₁.setTop (mkF m 0 #[vr a0, vi 0, vi 3, .unset, .unset, .unset] [])) (s₁.setTop (entryFrame m #[(.ref a0), (.int 0), (.int 3)] 6)) := fun t k => castTop (own_ef_cmpA3_2 m a0) k
  obtain ⟨T246, h246, k246, X246, e246, E246, A246, st246⟩ := newP X0 hx hZ (ow hw 17 rfl) e0 (g := (mkF m 1 #[vr a0, vi 0, vi 3, .unset, .unset, .unset] [(.int 3)])) rfl (hb hby od177) rfl (by decide) (cap := 3) (by decide) (by decide) (by decide) (by decide)
  obtain ⟨b246, g246⟩ : ∃ z, z = h0.size := ⟨_, rfl⟩
  rw [← g246] at A246 st246
  have ne246_a0_b246 : a0 ≠ b246 := Nat.ne_of_lt (Nat.lt_of_lt_of_le VA.lt (Nat.le_of_eq g246.symm))
  have V_b246 : Arv Z h246 b246 k246 .byte (3 : Int32) [(.int 0), (.int 0), (.int 0)] (.int 0) := (Arv.new A246 (by decide)).pad (pad_rep [] (.int 0) 3)
  have g_b246 : n0 ≤ b246 := Nat.le_trans Z0 (Nat.le_of_eq g246.symm)
  have sz_b246 : h0.size ≤ b246 := Nat.le_trans (Nat.le_refl _) (Nat.le_of_eq g246.symm)
  have EX246 : Ext h0 h246 := E246
  have SZ246 : h0.size ≤ h246.size := EX246.1
  have Z246 : n0 ≤ h246.size := Nat.le_trans Z0 SZ246
  have fx248 := (VA.ext E246)
  obtain ⟨_, _, ⟨T247, L247, k247, n247⟩, -, X247, ⟨Lc247, hQ247, l247, y247, z247⟩, st247⟩ := Jvm.LawKit.callS X246 hx (y := nm16) hown (mvT hZ (ow hw 43 rfl)) (mvT hZ (ow hw 44 rfl)) (mvT hZ (ow hw 41 rfl)) (mvT hZ (ow hw 45 rfl)) (by decide) (backOf (W := 0) (rm_cmpI3_2 l Z a0' hw [] a0 b246 kc1 c0 c1 c2 k246 h246 n0 Z246 fx248 V_b246 ne246_a0_b246 g_b246 hc_c0 hc_c1 hc_c2) hZ (ow hw 45 rfl) (ow hw 41 rfl) (by decide) (by decide)) (g := (mkF m 9 #[vr a0, vi 0, vi 3, vr b246, .unset, .unset] [(.int 3), (.int 0), (.ref b246), (.int 0), (.ref a0)])) rfl (by rw [hml]; rfl) (argsL := [(.ref a0), (.int 0), (.ref b246), (.int 0), (.int 3)]) (rest := []) (lenOf own_pd10 rfl) rfl (by show 2 * 0 + _ ≤ _; exact Nat.le_of_eq rfl) (hb hby od184) (fun _ _ => ⟨rfl, e246, (by decide : 1 + 0 ≤ _), (by decide : 3 + 0 ≤ _)⟩)
  dsimp only [Pt.U, Pt.locs, Pt.cells, Pt.slots] at X247 l247 y247 z247 st247 hQ247
  subst l247 y247 z247
  obtain ⟨rfl, N247q, K247⟩ := hQ247
  have N247 := Fr.app N0 N247q
  have EX247 : Ext h0 T247.heap := own_extkeep EX246 K247 sz_b246
  have SZ247 : h0.size ≤ T247.heap.size := EX247.1
  have Z247 : n0 ≤ T247.heap.size := Nat.le_trans Z0 SZ247
  have fx250 := (fx248.keep K247 (ninS ne246_a0_b246 nin0))
  obtain ⟨_, _, ⟨T249, L249, k249, n249⟩, -, X249, ⟨Lc249, hQ249, l249, y249, z249⟩, st249⟩ := Jvm.LawKit.callS X247 hx (y := nm15) hown (mvT hZ (ow hw 88 rfl)) (mvT hZ (ow hw 89 rfl)) (mvT hZ (ow hw 41 rfl)) (mvT hZ (ow hw 90 rfl)) (by decide) (backOf (W := 0) (rm_tob3 l Z a0' hw [] a0 kc1 c0 c1 c2 T247.heap n0 Z247 fx250 (S_ad.ext EX247) (S_hi.ext EX247) (S_lo.ext EX247)) hZ (ow hw 90 rfl) (ow hw 41 rfl) (by decide) (by decide)) (g := (mkF m 23 #[vr a0, vi 0, vi 3, vr b246, vi 2, .unset] [(.int 3), (.int 0), (.ref a0)])) rfl (by rw [hml]; rfl) (argsL := [(.ref a0), (.int 0), (.int 3)]) (rest := []) (lenOf own_pd11 rfl) rfl (by show 2 * 0 + _ ≤ _; exact Nat.le_of_eq rfl) (hb hby od192) (fun _ _ => ⟨rfl, rfl, (by decide : 1 + 1 ≤ _), (by decide : 3 + 6 ≤ _)⟩)
  dsimp only [Pt.U, Pt.locs, Pt.cells, Pt.slots] at X249 l249 y249 z249 st249 hQ249
  subst l249 y249 z249
  obtain ⟨r249, kk249, rfl, N249q, E249, zz249, V249⟩ := hQ249
  have N249 := Fr.app N247 N249q
  have ne249_a0_r249 : a0 ≠ r249 := Nat.ne_of_lt (Nat.lt_of_lt_of_le fx250.lt zz249)
  have g_r249 : n0 ≤ r249 := Nat.le_trans Z247 zz249
  have sz_r249 : h0.size ≤ r249 := Nat.le_trans SZ247 zz249
  have EX249 : Ext h0 T249.heap := own_exttr EX247 E249
  have SZ249 : h0.size ≤ T249.heap.size := EX249.1
  have Z249 : n0 ≤ T249.heap.size := Nat.le_trans Z0 SZ249
  have Vc252 := V249
  obtain ⟨cl252, Ar252, q252, S252, N_252, H252, G252⟩ := Vc252
  obtain ⟨_, _, ⟨T251, L251, k251, n251⟩, -, X251, ⟨Lc251, hQ251, l251, y251, z251⟩, st251⟩ := Jvm.LawKit.callS X249 hx (y := nm5) hown (mvT hZ (ow hw 104 rfl)) (mvT hZ (ow hw 105 rfl)) (mvT hZ (ow hw 41 rfl)) (mvT hZ (ow hw 106 rfl)) (by decide) (backOf (W := 0) (rm_getC l Z a0' hw [] r249 (2 : Int32) cl252 (nar .byte ((c2 >>> ((0 : Int32) &&& 31)).toInt8.toInt32)) (nar .byte ((c2 >>> ((8 : Int32) &&& 31)).toInt8.toInt32)) T249.heap n0 Z249 Ar252 (inb_of S252 ⟨by decide, by decide⟩) (H252 4 (by rw [S252]; decide)) (inb_of S252 ⟨by decide, by decide⟩) (H252 5 (by rw [S252]; decide)) (S_ad.ext EX249) (S_hi.ext EX249) (S_lo.ext EX249)) hZ (ow hw 106 rfl) (ow hw 41 rfl) (by decide) (by decide)) (g := (mkF m 32 #[vr a0, vi 0, vi 3, vr b246, vi 2, vr r249] [(.int 2), (.ref r249)])) rfl (by rw [hml]; rfl) (argsL := [(.ref r249), (.int 2)]) (rest := []) (lenOf own_pd4 rfl) rfl (by show 2 * 0 + _ ≤ _; exact Nat.le_of_eq rfl) (hb hby od196) (fun _ _ => ⟨rfl, rfl, (by decide : 2 + 0 ≤ _), (by decide : 9 + 0 ≤ _)⟩)
  dsimp only [Pt.U, Pt.locs, Pt.cells, Pt.slots] at X251 l251 y251 z251 st251 hQ251
  subst l251 y251 z251
  obtain ⟨rfl, N251q, e251⟩ := hQ251
  have N251 := Fr.app N249 N251q
  have q251 : (F_getC (nar .byte ((c2 >>> ((0 : Int32) &&& 31)).toInt8.toInt32)) (nar .byte ((c2 >>> ((8 : Int32) &&& 31)).toInt8.toInt32))) = c2 := by unfold F_getC; exact own_getc c2 hb_c2
  rw [q251] at st251
  obtain ⟨fs, hr, hrun, hended, hW, hsame⟩ := X251.leave (v := some (.ref r249)) (fun h => by rw [Bd.returns] at h; cases h)
  refine ⟨_, _, pre0 _ ?_, hrun, hended, _, _, rfl, ?_, ⟨_, rfl⟩, hW, hsame.mono (by decide) (by decide)⟩
  · show Steps p.tables e below (s₁.setTop (mkF m 0 #[vr a0, vi 0, vi 3, .unset, .unset, .unset] [])) _
    refine XS.iloadN X0.here hx rfl (hb hby od176) rfl ?_
    refine st246 _ ?_
    refine XS.astoreN X246.here hx rfl (hb hby od178) rfl rfl (l' := #[vr a0, vi 0, vi 3, vr b246, .unset, .unset]) rfl ?_
    refine XS.aloadN X246.here hx rfl (hb hby od179) rfl rfl ?_
    refine XS.iloadN X246.here hx rfl (hb hby od180) rfl ?_
    refine XS.aloadN X246.here hx rfl (hb hby od181) rfl rfl ?_
    refine XS.iconst X246.here hx rfl (hb hby od182) ?_
    refine XS.iloadN X246.here hx rfl (hb hby od183) rfl ?_
    refine st247 _ ?_
    refine XS.istore X247.here hx rfl (hb hby od185) rfl (l' := #[vr a0, vi 0, vi 3, vr b246, vi 2, .unset]) rfl ?_
    refine XS.iload X247.here hx rfl (hb hby od186) rfl ?_
    refine XS.iloadN X247.here hx rfl (hb hby od187) rfl ?_
    refine XS.icmpNo X247.here hx rfl (hb hby od188) rfl (feq (by decide : ¬ ((2 : Int32) = (3 : Int32)))).1 ?_
    refine XS.aloadN X247.here hx rfl (hb hby od189) rfl rfl ?_
    refine XS.iloadN X247.here hx rfl (hb hby od190) rfl ?_
    refine XS.iloadN X247.here hx rfl (hb hby od191) rfl ?_
    refine st249 _ ?_
    refine XS.astore X249.here hx rfl (hb hby od193) rfl rfl (l' := #[vr a0, vi 0, vi 3, vr b246, vi 2, vr r249]) rfl ?_
    refine XS.aload X249.here hx rfl (hb hby od194) rfl rfl ?_
    refine XS.iload X249.here hx rfl (hb hby od195) rfl ?_
    refine st251 _ ?_
    refine XS.sipush X251.here hx rfl (hb hby od197) ?_
    refine XS.icmpYes X251.here hx rfl (pc0 := 38) (pc' := 54) rfl (hb hby od198) rfl (tlt hc_c2).2.2.1 (by decide) (by decide) ?_
    refine XS.aload X251.here hx rfl (hb hby od199) rfl rfl ?_
    exact own_retA X251 hx Bd.returns rfl rfl rfl (hb hby od200) hr
  · show Q_cmpA3_2 Z a0 kc1 c0 c1 c2 h0 n0 _ T251.heap _
    rw [e251]
    exact ⟨_, _, rfl, N251, EX249, sz_r249, V249⟩
theorem rm_cmpU3 (l : Launch) (Z : State) (a0' : Array Value) (hw : ∀ d ∈ tables_1, d.before a0' Z = true) (ws : List Jvm.Cond) (a0 : Addr) (kc1 : ClassId) (c0 : Int32) (c1 : Int32) (c2 : Int32) (h0 : Heap) (n0 : Nat) (Z0 : n0 ≤ h0.size) (VA : Arv Z h0 a0 kc1 .char (3 : Int32) [(.int c0), (.int c1), (.int c2)] (.int 0)) (hup : ¬ (¬ ((255 : Int32) < c0) ∧ ¬ ((255 : Int32) < c1) ∧ ¬ ((255 : Int32) < c2))) (hb_c0 : 0 ≤ c0.toInt ∧ c0.toInt ≤ 65535) (hb_c1 : 0 ≤ c1.toInt ∧ c1.toInt ≤ 65535) (hb_c2 : 0 ≤ c2.toInt ∧ c2.toInt ≤ 65535) (S_ad : Sta Z h0 "java/lang/StringUTF16" "$assertionsDisabled" "Z" (.int 1)) (S_hi : Sta Z h0 "java/lang/StringUTF16" "HI_BYTE_SHIFT" "I" (.int 0)) (S_lo : Sta Z h0 "java/lang/StringUTF16" "LO_BYTE_SHIFT" "I" (.int 8)) :
    MF l nm17 jdk_52_method_16_code 6 (some (.array .byte)) ws (⟨3, 2, 9, 40⟩ : Room) #[(.ref a0), (.int 0), (.int 3)] Z h0 (Q_cmpA3_0 Z a0 kc1 c0 c1 c2  h0 n0) := by
  by_cases q0 : (255 : Int32) < c0
  · exact rm_cmpA3_0 l Z a0' hw ws a0 kc1 c0 c1 c2  h0 n0 Z0 VA q0 hb_c0 S_ad S_hi S_lo
  by_cases q1 : (255 : Int32) < c1
  · exact rm_cmpA3_1 l Z a0' hw ws a0 kc1 c0 c1 c2  h0 n0 Z0 VA q0 q1 hb_c1 S_ad S_hi S_lo
  by_cases q2 : (255 : Int32) < c2
  · exact rm_cmpA3_2 l Z a0' hw ws a0 kc1 c0 c1 c2  h0 n0 Z0 VA q0 q1 q2 hb_c2 S_ad S_hi S_lo
  exact absurd ⟨q0, q1, q2⟩ hup
def F_cfu3  : Int32 := (nar .byte (((((3 : Int32) - (6 : Int32)).toUInt32 >>> ((31 : Int32) &&& 31).toUInt32).toInt32).toInt8.toInt32))
theorem own_ef_cfu3 (m : MethodId) (a0 : Addr) : entryFrame m #[(.ref a0), (.int 3)] 2 = mkF m 0 #[vr a0, vi 3] [] := by first | (simp [entryFrame, mkF, argsToLocals, Value.category]; done) | rfl
def Q_cfu3 (Z : State) (a0 : Addr) (kb1 : ClassId) (vs1 : List Value) (dv1 : Value) (h0 : Heap) (n0 : Nat) (v : Option Value) (h : Heap) (L : List Loc) : Prop := v = some (.int F_cfu3) ∧ Fr n0 L ∧ h = h0
theorem rm_cfu3 (l : Launch) (Z : State) (a0' : Array Value) (hw : ∀ d ∈ tables_1, d.before a0' Z = true) (ws : List Jvm.Cond) (a0 : Addr) (kb1 : ClassId) (vs1 : List Value) (dv1 : Value) (h0 : Heap) (n0 : Nat) (Z0 : n0 ≤ h0.size) (VB : Arv Z h0 a0 kb1 .byte (6 : Int32) vs1 dv1) :
    MF l nm18 jdk_52_method_15_code 2 (some .byte) ws (⟨0, 0, 0, 0⟩ : Room) #[(.ref a0), (.int 3)] Z h0 (Q_cfu3 Z a0 kb1 vs1 dv1 h0 n0) := by
  refine MetFree.of_bodySF (plainFor_of_name own_pn3) hisR ?_
  intro p e s m args below meth c s₁ Bd hml0 hP hK
  obtain ⟨rfl, hZ, hh⟩ := hP
  have hx := Bd.exec
  have hby := Bd.bytes
  have hml : c.maxLocals = 2 := hml0
  have hown : s.vm.findClass "java/lang/StringUTF16" = some m.cls := findClass_of_methodNamed Bd.named
  have hnm := (name_of_methodNamed Bd.named Bd.method).1
  have X0 : Stand p l e (⟨0, 0, 0, 0⟩ : Room) s m #[(.ref a0), (.int 3)] below meth c s₁ [] 0 0 := Stand.of_body Bd
  have e0 : s₁.heap = h0 := by rw [← hh, Bd.state]; rfl
  have N0 := Fr.nil n0
  have pre0 : PT p e below (s₁.setTop (mkF m 0 #[vr a0, vi 3] [])) (s₁.setTop (entryFrame m #[(.ref a0), (.int 3)] 2)) := fun t k => castTop (own_ef_cfu3 m a0) k
  have Vc253 := VB
  obtain ⟨cl253, Ar253, q253, S253, N_253, H253, G253⟩ := Vc253
  obtain ⟨fs, hr, hrun, hended, hW, hsame⟩ := X0.leave (v := some (.int (nar .byte (((((3 : Int32) - (6 : Int32)).toUInt32 >>> ((31 : Int32) &&& 31).toUInt32).toInt32).toInt8.toInt32)))) (fun h => by rw [Bd.returns] at h; cases h)
  refine ⟨_, _, pre0 _ ?_, hrun, hended, _, _, rfl, ?_, ⟨_, rfl⟩, hW, hsame.mono (by decide) (by decide)⟩
  · show Steps p.tables e below (s₁.setTop (mkF m 0 #[vr a0, vi 3] [])) _
    refine XS.iloadN X0.here hx rfl (hb hby od201) rfl ?_
    refine XS.aloadN X0.here hx rfl (hb hby od202) rfl rfl ?_
    refine X0.arraylength hx (by rw [e0]; exact Ar253.1) (State.isArrayOf_alike hZ.alike Ar253.2.1) (g := (mkF m 2 #[vr a0, vi 3] [(.ref a0), (.int 3)])) rfl rfl (hb hby od203) _ ?_
    rw [len_of S253 N_253]
    refine XS.isub X0.here hx rfl (hb hby od204) rfl ?_
    refine XS.bipush X0.here hx rfl (hb hby od205) ?_
    refine XS.iushr X0.here hx rfl (hb hby od206) rfl ?_
    refine XS.i2b X0.here hx rfl (hb hby od207) rfl ?_
    exact retN X0 hx (t := .byte) Bd.returns (by simp) (hb hby od208) hr
  · show Q_cfu3 Z a0 kb1 vs1 dv1 h0 n0 _ s₁.heap _
    refine ⟨?_, N0, e0⟩
    rw [F_cfu3]
theorem own_ef_in4U3 (m : MethodId) (a0 : Addr) (a1 : Addr) : entryFrame m #[(.ref a0), (.ref a1), (.int 0), (.int 3), .null] 6 = mkF m 0 #[vr a0, vr a1, vi 0, vi 3, .val .null, .unset] [] := by first | (simp [entryFrame, mkF, argsToLocals, Value.category]; done) | rfl
def Q_in4U3 (Z : State) (a0 : Addr) (a1 : Addr) (kc1 : ClassId) (c0 : Int32) (c1 : Int32) (c2 : Int32) (kc : Int32) (h0 : Heap) (n0 : Nat) (v : Option Value) (h : Heap) (L : List Loc) : Prop := v = none ∧ Fr n0 L ∧ Keep h0 h [a0] ∧ Exa Z h a0 "java/lang/String" ∧ Fld Z h a0 "java/lang/String" "coder" "B" (.int 1) ∧ ∃ (b : Addr) (k : ClassId), Fld Z h a0 "java/lang/String" "value" "[B" (.ref b) ∧ Arv Z h b k .byte (6 : Int32) [(.int (nar .byte ((c0 >>> ((0 : Int32) &&& 31)).toInt8.toInt32))), (.int (nar .byte ((c0 >>> ((8 : Int32) &&& 31)).toInt8.toInt32))), (.int (nar .byte ((c1 >>> ((0 : Int32) &&& 31)).toInt8.toInt32))), (.int (nar .byte ((c1 >>> ((8 : Int32) &&& 31)).toInt8.toInt32))), (.int (nar .byte ((c2 >>> ((0 : Int32) &&& 31)).toInt8.toInt32))), (.int (nar .byte ((c2 >>> ((8 : Int32) &&& 31)).toInt8.toInt32)))] (.int 0)
theorem rm_in4U3 (l : Launch) (Z : State) (a0' : Array Value) (hw : ∀ d ∈ tables_1, d.before a0' Z = true) (ws : List Jvm.Cond) (a0 : Addr) (a1 : Addr) (kc1 : ClassId) (c0 : Int32) (c1 : Int32) (c2 : Int32) (kc : Int32) (h0 : Heap) (n0 : Nat) (Z0 : n0 ≤ h0.size) (E_t : Exa Z h0 a0 "java/lang/String") (F0v : Fld Z h0 a0 "java/lang/String" "value" "[B" .null) (F0c : Fld Z h0 a0 "java/lang/String" "coder" "B" (.int 0)) (g_t : n0 ≤ a0) (VA : Arv Z h0 a1 kc1 .char (3 : Int32) [(.int c0), (.int c1), (.int c2)] (.int 0)) (na1 : a0 ≠ a1) (hup : ¬ (¬ ((255 : Int32) < c0) ∧ ¬ ((255 : Int32) < c1) ∧ ¬ ((255 : Int32) < c2))) (hb_c0 : 0 ≤ c0.toInt ∧ c0.toInt ≤ 65535) (hb_c1 : 0 ≤ c1.toInt ∧ c1.toInt ≤ 65535) (hb_c2 : 0 ≤ c2.toInt ∧ c2.toInt ≤ 65535) (S_cs : Sta Z h0 "java/lang/String" "COMPACT_STRINGS" "Z" (.int kc)) (hkc : ¬ (kc = (0 : Int32))) (S_ad : Sta Z h0 "java/lang/StringUTF16" "$assertionsDisabled" "Z" (.int 1)) (S_hi : Sta Z h0 "java/lang/StringUTF16" "HI_BYTE_SHIFT" "I" (.int 0)) (S_lo : Sta Z h0 "java/lang/StringUTF16" "LO_BYTE_SHIFT" "I" (.int 8)) :
    MF l nm19 jdk_42_method_149_code 6 none ws (⟨4, 2, 9, 57⟩ : Room) #[(.ref a0), (.ref a1), (.int 0), (.int 3), .null] Z h0 (Q_in4U3 Z a0 a1 kc1 c0 c1 c2 kc h0 n0) := by
  refine MetFree.of_bodySF (plainFor_of_name own_pn1) hisR ?_
  intro p e s m args below meth c s₁ Bd hml0 hP hK
  obtain ⟨rfl, hZ, hh⟩ := hP
  have hx := Bd.exec
  have hby := Bd.bytes
  have hml : c.maxLocals = 6 := hml0
  have hown : s.vm.findClass "java/lang/String" = some m.cls := findClass_of_methodNamed Bd.named
  have hnm := (name_of_methodNamed Bd.named Bd.method).1
  have X0 : Stand p l e (⟨4, 2, 9, 57⟩ : Room) s m #[(.ref a0), (.ref a1), (.int 0), (.int 3), .null] below meth c s₁ [] 0 0 := Stand.of_body Bd
  have e0 : s₁.heap = h0 := by rw [← hh, Bd.state]; rfl
  have N0 := Fr.nil n0
  have pre0 : PT p e below (s₁.setTop (mkF m 0 #[vr a0, vr a1, vi 0, vi 3, .val .null, .unset] [])) (s₁.setTop (entryFrame m #[(.ref a0), (.ref a1), (.int 0), (.int 3), .null] 6)) := fun t k => castTop (own_ef_in4U3 m a0 a1) k
  obtain ⟨T254, X254, e254, st254⟩ := initO X0 hx hZ hown (ow hw 13 rfl) (ow hw 14 rfl) (ow hw 15 rfl) e0 (g := (mkF m 1 #[vr a0, vr a1, vi 0, vi 3, .val .null, .unset] [(.ref a0)])) rfl (by rw [hml]; rfl) rfl (hb hby od210) (by decide) (W := 0) (by show 2 * 0 + _ ≤ _; exact Nat.le_of_eq rfl) (by decide)
  obtain ⟨T255, X255, e255, st255⟩ := getS2 X254 hx hZ hown (host := "") (Or.inl (ow hw 38 rfl)) Via.refl e254 S_cs (g := (mkF m 27 #[vr a0, vr a1, vi 0, vi 3, .val .null, .unset] [])) rfl (hb hby od213)
  obtain ⟨_, _, ⟨T256, L256, k256, n256⟩, -, X256, ⟨Lc256, hQ256, l256, y256, z256⟩, st256⟩ := Jvm.LawKit.callS X255 hx (y := nm17) hown (mvT hZ (ow hw 39 rfl)) (mvT hZ (ow hw 40 rfl)) (mvT hZ (ow hw 41 rfl)) (mvT hZ (ow hw 42 rfl)) (by decide) (backOf (W := 0) (rm_cmpU3 l Z a0' hw [] a1 kc1 c0 c1 c2 h0 n0 Z0 VA hup hb_c0 hb_c1 hb_c2 S_ad S_hi S_lo) hZ (ow hw 42 rfl) (ow hw 41 rfl) (by decide) (by decide)) (g := (mkF m 36 #[vr a0, vr a1, vi 0, vi 3, .val .null, .unset] [(.int 3), (.int 0), (.ref a1)])) rfl (by rw [hml]; rfl) (argsL := [(.ref a1), (.int 0), (.int 3)]) (rest := []) (lenOf own_pd11 rfl) rfl (by show 2 * 0 + _ ≤ _; exact Nat.le_of_eq rfl) (hb hby od218) (fun _ _ => ⟨rfl, e255, (by decide : 0 + 2 ≤ _), (by decide : 0 + 9 ≤ _)⟩)
  dsimp only [Pt.U, Pt.locs, Pt.cells, Pt.slots] at X256 l256 y256 z256 st256 hQ256
  subst l256 y256 z256
  obtain ⟨r256, kk256, rfl, N256q, E256, zz256, V256⟩ := hQ256
  have N256 := Fr.app N0 N256q
  have ne256_a0_r256 : a0 ≠ r256 := Nat.ne_of_lt (Nat.lt_of_lt_of_le E_t.lt zz256)
  have ne256_a1_r256 : a1 ≠ r256 := Nat.ne_of_lt (Nat.lt_of_lt_of_le VA.lt zz256)
  have g_r256 : n0 ≤ r256 := Nat.le_trans Z0 zz256
  have sz_r256 : h0.size ≤ r256 := Nat.le_trans (Nat.le_refl _) zz256
  have KP256 : Keep h0 T256.heap [a0] := (Keep.refl h0 [a0]).ext E256
  have SZ256 : h0.size ≤ T256.heap.size := KP256.1
  have Z256 : n0 ≤ T256.heap.size := Nat.le_trans Z0 SZ256
  obtain ⟨_, _, ⟨T257, L257, k257, n257⟩, -, X257, ⟨Lc257, hQ257, l257, y257, z257⟩, st257⟩ := Jvm.LawKit.callS X256 hx (y := nm18) hown (mvT hZ (ow hw 46 rfl)) (mvT hZ (ow hw 47 rfl)) (mvT hZ (ow hw 41 rfl)) (mvT hZ (ow hw 48 rfl)) (by decide) (backOf (W := 1) (rm_cfu3 l Z a0' hw [] r256 kk256 _ _ T256.heap n0 Z256 V256) hZ (ow hw 48 rfl) (ow hw 41 rfl) (by decide) (by decide)) (g := (mkF m 45 #[vr a0, vr a1, vi 0, vi 3, .val .null, vr r256] [(.int 3), (.ref r256), (.ref a0)])) rfl (by rw [hml]; rfl) (argsL := [(.ref r256), (.int 3)]) (rest := [(.ref a0)]) (lenOf own_pd12 rfl) rfl (by show 2 * 0 + _ ≤ _; exact Nat.le_of_eq rfl) (hb hby od223) (fun _ _ => ⟨rfl, rfl, (by decide : 2 + 0 ≤ _), (by decide : 9 + 0 ≤ _)⟩)
  dsimp only [Pt.U, Pt.locs, Pt.cells, Pt.slots] at X257 l257 y257 z257 st257 hQ257
  subst l257 y257 z257
  obtain ⟨rfl, N257q, e257⟩ := hQ257
  have N257 := Fr.app N256 N257q
  have q257 : F_cfu3 = (1 : Int32) := by decide
  rw [q257] at st257
  have fx259 := (E_t.ext E256)
  have fx260 := (F0c.ext E256)
  have Fo258 := fx260
  obtain ⟨T261, h261, X261, e261, W261, st261⟩ := putFN X257 hx hZ hown (ow hw 23 rfl) Via.refl e257 Fo258 fx259 (Or.inr ⟨(ow hw 19 rfl), rfl, hnm⟩) (ow hw 4 rfl) (ty := .byte) (v' := (.int (nar .byte (1 : Int32)))) (by decide) rfl (fits_nar_byte _) (g := (mkF m 48 #[vr a0, vr a1, vi 0, vi 3, .val .null, vr r256] [(.int 1), (.ref a0)])) rfl rfl (hb hby od224)
  have Fw261 : Fld Z h261 a0 "java/lang/String" "coder" "B" (.int 1) := Fo258.same W261
  have N261 := Fr.snoc X261 N257 g_t
  have KP261 : Keep h0 h261 [a0] := KP256.wr W261 (Or.inl (List.mem_of_getElem? (i := 0) rfl))
  have SZ261 : h0.size ≤ h261.size := KP261.1
  have Z261 : n0 ≤ h261.size := Nat.le_trans Z0 SZ261
  have fx263 := (fx259.wr W261)
  have fx264 := ((F0v.ext E256).other W261 (Or.inr (slot_ne (a0 := a0') (Or.inr (ow hw 18 rfl)) (Or.inr (ow hw 19 rfl)) (by decide) (t := (.array .byte)) (t' := .byte) (by decide) (by decide))))
  have Fo262 := fx264
  obtain ⟨T265, h265, X265, e265, W265, st265⟩ := putF X261 hx hZ hown (host := "") (Or.inl (ow hw 22 rfl)) Via.refl e261 Fo262 fx263 (Or.inr ⟨(ow hw 18 rfl), rfl, hnm⟩) (ow hw 4 rfl) (ty := (.array .byte)) (by decide) rfl rfl (g := (mkF m 54 #[vr a0, vr a1, vi 0, vi 3, .val .null, vr r256] [(.ref r256), (.ref a0)])) rfl rfl (hb hby od227)
  have Fw265 : Fld Z h265 a0 "java/lang/String" "value" "[B" (.ref r256) := Fo262.same W265
  have N265 := Fr.snoc X265 N261 g_t
  have KP265 : Keep h0 h265 [a0] := KP261.wr W265 (Or.inl (List.mem_of_getElem? (i := 0) rfl))
  have SZ265 : h0.size ≤ h265.size := KP265.1
  have Z265 : n0 ≤ h265.size := Nat.le_trans Z0 SZ265
  have fx266 := (fx263.wr W265)
  have fx267 := (Fw261.other W265 (Or.inr (slot_ne (a0 := a0') (Or.inr (ow hw 19 rfl)) (Or.inr (ow hw 18 rfl)) (by decide) (t := .byte) (t' := (.array .byte)) (by decide) (by decide))))
  have fx268 := ((V256.other W261 (Ne.symm ne256_a0_r256)).other W265 (Ne.symm ne256_a0_r256))
  obtain ⟨fs, hr, hrun, hended, hW, hsame⟩ := X265.leave (v := none) (fun _ => rfl)
  refine ⟨_, _, pre0 _ ?_, hrun, hended, _, _, rfl, ?_, ⟨_, rfl⟩, hW, hsame.mono (by decide) (by decide)⟩
  · show Steps p.tables e below (s₁.setTop (mkF m 0 #[vr a0, vr a1, vi 0, vi 3, .val .null, .unset] [])) _
    refine XS.aloadN X0.here hx rfl (hb hby od209) rfl rfl ?_
    refine st254 _ ?_
    refine XS.iloadN X254.here hx rfl (hb hby od211) rfl ?_
    refine XS.ifYes X254.here hx rfl (pc0 := 5) (pc' := 27) rfl (hb hby od212) rfl ((if0 _ _).trans (feq (by decide : ¬ ((3 : Int32) = (0 : Int32)))).2) (by decide) (by decide) ?_
    refine st255 _ ?_
    refine XS.ifNo X255.here hx rfl (hb hby od214) rfl ((if0 _ _).trans (feq hkc).1) ?_
    refine XS.aloadN X255.here hx rfl (hb hby od215) rfl rfl ?_
    refine XS.iloadN X255.here hx rfl (hb hby od216) rfl ?_
    refine XS.iloadN X255.here hx rfl (hb hby od217) rfl ?_
    refine st256 _ ?_
    refine XS.astore X256.here hx rfl (hb hby od219) rfl rfl (l' := #[vr a0, vr a1, vi 0, vi 3, .val .null, vr r256]) rfl ?_
    refine XS.aloadN X256.here hx rfl (hb hby od220) rfl rfl ?_
    refine XS.aload X256.here hx rfl (hb hby od221) rfl rfl ?_
    refine XS.iloadN X256.here hx rfl (hb hby od222) rfl ?_
    refine st257 _ ?_
    refine st261 _ ?_
    refine XS.aloadN X261.here hx rfl (hb hby od225) rfl rfl ?_
    refine XS.aload X261.here hx rfl (hb hby od226) rfl rfl ?_
    refine st265 _ ?_
    exact X265.returnOut hx Bd.returns (hb hby od228) hr
  · show Q_in4U3 Z a0 a1 kc1 c0 c1 c2 kc h0 n0 _ T265.heap _
    rw [e265]
    exact ⟨rfl, N265, KP265, fx266, fx267, _, _, Fw265, fx268⟩
theorem own_ef_in1U3 (m : MethodId) (a0 : Addr) (a1 : Addr) : entryFrame m #[(.ref a0), (.ref a1)] 2 = mkF m 0 #[vr a0, vr a1] [] := by first | (simp [entryFrame, mkF, argsToLocals, Value.category]; done) | rfl
def Q_in1U3 (Z : State) (a0 : Addr) (a1 : Addr) (kc1 : ClassId) (c0 : Int32) (c1 : Int32) (c2 : Int32) (kc : Int32) (h0 : Heap) (n0 : Nat) (v : Option Value) (h : Heap) (L : List Loc) : Prop := v = none ∧ Fr n0 L ∧ Keep h0 h [a0] ∧ Exa Z h a0 "java/lang/String" ∧ Fld Z h a0 "java/lang/String" "coder" "B" (.int 1) ∧ ∃ (b : Addr) (k : ClassId), Fld Z h a0 "java/lang/String" "value" "[B" (.ref b) ∧ Arv Z h b k .byte (6 : Int32) [(.int (nar .byte ((c0 >>> ((0 : Int32) &&& 31)).toInt8.toInt32))), (.int (nar .byte ((c0 >>> ((8 : Int32) &&& 31)).toInt8.toInt32))), (.int (nar .byte ((c1 >>> ((0 : Int32) &&& 31)).toInt8.toInt32))), (.int (nar .byte ((c1 >>> ((8 : Int32) &&& 31)).toInt8.toInt32))), (.int (nar .byte ((c2 >>> ((0 : Int32) &&& 31)).toInt8.toInt32))), (.int (nar .byte ((c2 >>> ((8 : Int32) &&& 31)).toInt8.toInt32)))] (.int 0)
theorem rm_in1U3 (l : Launch) (Z : State) (a0' : Array Value) (hw : ∀ d ∈ tables_1, d.before a0' Z = true) (ws : List Jvm.Cond) (a0 : Addr) (a1 : Addr) (kc1 : ClassId) (c0 : Int32) (c1 : Int32) (c2 : Int32) (kc : Int32) (h0 : Heap) (n0 : Nat) (Z0 : n0 ≤ h0.size) (E_t : Exa Z h0 a0 "java/lang/String") (F0v : Fld Z h0 a0 "java/lang/String" "value" "[B" .null) (F0c : Fld Z h0 a0 "java/lang/String" "coder" "B" (.int 0)) (g_t : n0 ≤ a0) (VA : Arv Z h0 a1 kc1 .char (3 : Int32) [(.int c0), (.int c1), (.int c2)] (.int 0)) (na1 : a0 ≠ a1) (hup : ¬ (¬ ((255 : Int32) < c0) ∧ ¬ ((255 : Int32) < c1) ∧ ¬ ((255 : Int32) < c2))) (hb_c0 : 0 ≤ c0.toInt ∧ c0.toInt ≤ 65535) (hb_c1 : 0 ≤ c1.toInt ∧ c1.toInt ≤ 65535) (hb_c2 : 0 ≤ c2.toInt ∧ c2.toInt ≤ 65535) (S_cs : Sta Z h0 "java/lang/String" "COMPACT_STRINGS" "Z" (.int kc)) (hkc : ¬ (kc = (0 : Int32))) (S_ad : Sta Z h0 "java/lang/StringUTF16" "$assertionsDisabled" "Z" (.int 1)) (S_hi : Sta Z h0 "java/lang/StringUTF16" "HI_BYTE_SHIFT" "I" (.int 0)) (S_lo : Sta Z h0 "java/lang/StringUTF16" "LO_BYTE_SHIFT" "I" (.int 8)) :
    MF l nm20 jdk_42_method_3_code 2 none ws (⟨5, 2, 9, 74⟩ : Room) #[(.ref a0), (.ref a1)] Z h0 (Q_in1U3 Z a0 a1 kc1 c0 c1 c2 kc h0 n0) := by
  refine MetFree.of_bodySF (plainFor_of_name own_pn1) hisR ?_
  intro p e s m args below meth c s₁ Bd hml0 hP hK
  obtain ⟨rfl, hZ, hh⟩ := hP
  have hx := Bd.exec
  have hby := Bd.bytes
  have hml : c.maxLocals = 2 := hml0
  have hown : s.vm.findClass "java/lang/String" = some m.cls := findClass_of_methodNamed Bd.named
  have hnm := (name_of_methodNamed Bd.named Bd.method).1
  have X0 : Stand p l e (⟨5, 2, 9, 74⟩ : Room) s m #[(.ref a0), (.ref a1)] below meth c s₁ [] 0 0 := Stand.of_body Bd
  have e0 : s₁.heap = h0 := by rw [← hh, Bd.state]; rfl
  have N0 := Fr.nil n0
  have pre0 : PT p e below (s₁.setTop (mkF m 0 #[vr a0, vr a1] [])) (s₁.setTop (entryFrame m #[(.ref a0), (.ref a1)] 2)) := fun t k => castTop (own_ef_in1U3 m a0 a1) k
  have Vc269 := VA
  obtain ⟨cl269, Ar269, q269, S269, N_269, H269, G269⟩ := Vc269
  obtain ⟨_, _, ⟨T270, L270, k270, n270⟩, -, X270, ⟨Lc270, hQ270, l270, y270, z270⟩, st270⟩ := X0.specialBack hx (y := nm19) rfl hown (mvT hZ (ow hw 9 rfl)) (mvT hZ (ow hw 10 rfl)) (mvT hZ (ow hw 12 rfl)) (by decide) (backOf (W := 0) (rm_in4U3 l Z a0' hw [] a0 a1 kc1 c0 c1 c2 kc h0 n0 Z0 E_t F0v F0c g_t VA na1 hup hb_c0 hb_c1 hb_c2 S_cs hkc S_ad S_hi S_lo) hZ (ow hw 12 rfl) (ow hw 5 rfl) (by decide) (by decide)) (g := (mkF m 6 #[vr a0, vr a1] [.null, (.int 3), (.int 0), (.ref a1), (.ref a0)])) rfl (by rw [hml]; rfl) (Steps.refl _) (a := a0) (argsL := [(.ref a1), (.int 0), (.int 3), .null]) (rest := []) (lenOf own_pd13 rfl) rfl (by show 2 * 0 + _ ≤ _; exact Nat.le_of_eq rfl) (hb hby od235) (fun _ _ => ⟨rfl, e0, (by decide : 0 + 2 ≤ _), (by decide : 0 + 9 ≤ _)⟩)
  dsimp only [Pt.U, Pt.locs, Pt.cells, Pt.slots] at X270 l270 y270 z270 st270 hQ270
  subst l270 y270 z270
  obtain ⟨rfl, N270q, K270, Ei270, Ci270, bi270, ki270, Fi270, Vi270⟩ := hQ270
  have N270 := Fr.app N0 N270q
  have KP270 : Keep h0 T270.heap [a0] := (Keep.refl h0 [a0]).trans K270 (allS (Or.inl (List.mem_of_getElem? (i := 0) rfl)) all0)
  have SZ270 : h0.size ≤ T270.heap.size := KP270.1
  have Z270 : n0 ≤ T270.heap.size := Nat.le_trans Z0 SZ270
  obtain ⟨fs, hr, hrun, hended, hW, hsame⟩ := X270.leave (v := none) (fun _ => rfl)
  refine ⟨_, _, pre0 _ ?_, hrun, hended, _, _, rfl, ?_, ⟨_, rfl⟩, hW, hsame.mono (by decide) (by decide)⟩
  · show Steps p.tables e below (s₁.setTop (mkF m 0 #[vr a0, vr a1] [])) _
    refine XS.aloadN X0.here hx rfl (hb hby od229) rfl rfl ?_
    refine XS.aloadN X0.here hx rfl (hb hby od230) rfl rfl ?_
    refine XS.iconst X0.here hx rfl (hb hby od231) ?_
    refine XS.aloadN X0.here hx rfl (hb hby od232) rfl rfl ?_
    refine X0.arraylength hx (by rw [e0]; exact Ar269.1) (State.isArrayOf_alike hZ.alike Ar269.2.1) (g := (mkF m 4 #[vr a0, vr a1] [(.ref a1), (.int 0), (.ref a1), (.ref a0)])) rfl rfl (hb hby od233) _ ?_
    rw [len_of S269 N_269]
    refine XS.aconstNull X0.here hx rfl (hb hby od234) ?_
    refine st270.trans ?_
    exact X270.returnOut hx Bd.returns (hb hby od236) hr
  · show Q_in1U3 Z a0 a1 kc1 c0 c1 c2 kc h0 n0 _ T270.heap _
    exact ⟨rfl, N270, KP270, Ei270, Ci270, _, _, Fi270, Vi270⟩
theorem own_ef_cmpI3 (m : MethodId) (a0 : Addr) (a2 : Addr) : entryFrame m #[(.ref a0), (.int 0), (.ref a2), (.int 0), (.int 3)] 7 = mkF m 0 #[vr a0, vi 0, vr a2, vi 0, vi 3, .unset, .unset] [] := by first | (simp [entryFrame, mkF, argsToLocals, Value.category]; done) | rfl
def Q_cmpI3 (Z : State) (a0 : Addr) (a2 : Addr) (kc1 : ClassId) (c0 : Int32) (c1 : Int32) (c2 : Int32) (kb1 : ClassId) (h0 : Heap) (n0 : Nat) (v : Option Value) (h : Heap) (L : List Loc) : Prop := v = some (.int 3) ∧ Fr n0 L ∧ Keep h0 h [a2] ∧ Arv Z h a2 kb1 .byte (3 : Int32) [(.int (nar .byte (c0.toInt8.toInt32))), (.int (nar .byte (c1.toInt8.toInt32))), (.int (nar .byte (c2.toInt8.toInt32)))] (.int 0)
theorem rm_cmpI3 (l : Launch) (Z : State) (a0' : Array Value) (hw : ∀ d ∈ tables_1, d.before a0' Z = true) (ws : List Jvm.Cond) (a0 : Addr) (a2 : Addr) (kc1 : ClassId) (c0 : Int32) (c1 : Int32) (c2 : Int32) (kb1 : ClassId) (h0 : Heap) (n0 : Nat) (Z0 : n0 ≤ h0.size) (VA : Arv Z h0 a0 kc1 .char (3 : Int32) [(.int c0), (.int c1), (.int c2)] (.int 0)) (VB : Arv Z h0 a2 kb1 .byte (3 : Int32) [(.int 0), (.int 0), (.int 0)] (.int 0)) (nab : a0 ≠ a2) (g2 : n0 ≤ a2) (hc_c0 : ¬ ((255 : Int32) < c0)) (hc_c1 : ¬ ((255 : Int32) < c1)) (hc_c2 : ¬ ((255 : Int32) < c2)) :
    MF l nm16 jdk_52_method_21_code 7 (some .int) ws (⟨0, 0, 0, 0⟩ : Room) #[(.ref a0), (.int 0), (.ref a2), (.int 0), (.int 3)] Z h0 (Q_cmpI3 Z a0 a2 kc1 c0 c1 c2 kb1 h0 n0) := by
  refine MetFree.of_bodySF (plainFor_of_name own_pn3) hisR ?_
  intro p e s m args below meth c s₁ Bd hml0 hP hK
  obtain ⟨rfl, hZ, hh⟩ := hP
  have hx := Bd.exec
  have hby := Bd.bytes
  have hml : c.maxLocals = 7 := hml0
  have hown : s.vm.findClass "java/lang/StringUTF16" = some m.cls := findClass_of_methodNamed Bd.named
  have hnm := (name_of_methodNamed Bd.named Bd.method).1
  have X0 : Stand p l e (⟨0, 0, 0, 0⟩ : Room) s m #[(.ref a0), (.int 0), (.ref a2), (.int 0), (.int 3)] below meth c s₁ [] 0 0 := Stand.of_body Bd
  have e0 : s₁.heap = h0 := by rw [← hh, Bd.state]; rfl
  have N0 := Fr.nil n0
  have pre0 : PT p e below (s₁.setTop (mkF m 0 #[vr a0, vi 0, vr a2, vi 0, vi 3, .unset, .unset] [])) (s₁.setTop (entryFrame m #[(.ref a0), (.int 0), (.ref a2), (.int 0), (.int 3)] 7)) := fun t k => castTop (own_ef_cmpI3 m a0 a2) k
  have Vc271 := VA
  obtain ⟨cl271, Ar271, q271, S271, N_271, H271, G271⟩ := Vc271
  have hin271 : ¬ ((0 : Int32) < 0 ∨ cl271.slots.size ≤ ((0 : Int32)).toNatClampNeg) := inb_of S271 ⟨by decide, by decide⟩
  have hat271 : cl271.slots[((0 : Int32)).toNatClampNeg]? = some (.int c0) := H271 0 (by rw [S271]; decide)
  have Vc272 := VB
  obtain ⟨cl272, Ar272, q272, S272, N_272, H272, G272⟩ := Vc272
  have hin272 : ¬ ((0 : Int32) < 0 ∨ cl272.slots.size ≤ ((0 : Int32)).toNatClampNeg) := inb_of S272 ⟨by decide, by decide⟩
  obtain ⟨T273, h273, X273, e273, W273, st273⟩ := stB X0 hx hZ e0 Ar272 (j := (0 : Int32)) hin272 (g := (mkF m 31 #[vr a0, vi 0, vr a2, vi 0, vi 3, vi 0, vi c0] [(.int (c0.toInt8.toInt32)), (.int 0), (.ref a2)])) rfl rfl (hb hby od241)
  have V_a2_273 : Arv Z h273 a2 kb1 .byte (3 : Int32) [(.int (nar .byte (c0.toInt8.toInt32))), (.int 0), (.int 0)] (.int 0) := Arv.set Ar272 q272 S272 N_272 H272 G272 (fits_nar_byte _) W273 0 rfl (Nat.le_of_ble_eq_true rfl)
  have N273 := Fr.snoc X273 N0 g2
  have KP273 : Keep h0 h273 [a2] := (Keep.refl h0 [a2]).wr W273 (Or.inl (List.mem_of_getElem? (i := 0) rfl))
  have SZ273 : h0.size ≤ h273.size := KP273.1
  have Z273 : n0 ≤ h273.size := Nat.le_trans Z0 SZ273
  have fx274 := (VA.other W273 nab)
  have Vc275 := fx274
  obtain ⟨cl275, Ar275, q275, S275, N_275, H275, G275⟩ := Vc275
  have hin275 : ¬ (((0 : Int32) + (1 : Int32)) < 0 ∨ cl275.slots.size ≤ (((0 : Int32) + (1 : Int32))).toNatClampNeg) := inb_of S275 ⟨by decide, by decide⟩
  have hat275 : cl275.slots[(((0 : Int32) + (1 : Int32))).toNatClampNeg]? = some (.int c1) := H275 1 (by rw [S275]; decide)
  have Vc276 := V_a2_273
  obtain ⟨cl276, Ar276, q276, S276, N_276, H276, G276⟩ := Vc276
  have hin276 : ¬ (((0 : Int32) + (1 : Int32)) < 0 ∨ cl276.slots.size ≤ (((0 : Int32) + (1 : Int32))).toNatClampNeg) := inb_of S276 ⟨by decide, by decide⟩
  obtain ⟨T277, h277, X277, e277, W277, st277⟩ := stB X273 hx hZ e273 Ar276 (j := ((0 : Int32) + (1 : Int32))) hin276 (g := (mkF m 31 #[vr a0, vi ((0 : Int32) + (1 : Int32)), vr a2, vi ((0 : Int32) + (1 : Int32)), vi 3, vi ((0 : Int32) + (1 : Int32)), vi c1] [(.int (c1.toInt8.toInt32)), (.int ((0 : Int32) + (1 : Int32))), (.ref a2)])) rfl rfl (hb hby od241)
  have V_a2_277 : Arv Z h277 a2 kb1 .byte (3 : Int32) [(.int (nar .byte (c0.toInt8.toInt32))), (.int (nar .byte (c1.toInt8.toInt32))), (.int 0)] (.int 0) := Arv.set Ar276 q276 S276 N_276 H276 G276 (fits_nar_byte _) W277 1 rfl (Nat.le_of_ble_eq_true rfl)
  have N277 := Fr.snoc X277 N273 g2
  have KP277 : Keep h0 h277 [a2] := KP273.wr W277 (Or.inl (List.mem_of_getElem? (i := 0) rfl))
  have SZ277 : h0.size ≤ h277.size := KP277.1
  have Z277 : n0 ≤ h277.size := Nat.le_trans Z0 SZ277
  have fx278 := (fx274.other W277 nab)
  have Vc279 := fx278
  obtain ⟨cl279, Ar279, q279, S279, N_279, H279, G279⟩ := Vc279
  have hin279 : ¬ ((((0 : Int32) + (1 : Int32)) + (1 : Int32)) < 0 ∨ cl279.slots.size ≤ ((((0 : Int32) + (1 : Int32)) + (1 : Int32))).toNatClampNeg) := inb_of S279 ⟨by decide, by decide⟩
  have hat279 : cl279.slots[((((0 : Int32) + (1 : Int32)) + (1 : Int32))).toNatClampNeg]? = some (.int c2) := H279 2 (by rw [S279]; decide)
  have Vc280 := V_a2_277
  obtain ⟨cl280, Ar280, q280, S280, N_280, H280, G280⟩ := Vc280
  have hin280 : ¬ ((((0 : Int32) + (1 : Int32)) + (1 : Int32)) < 0 ∨ cl280.slots.size ≤ ((((0 : Int32) + (1 : Int32)) + (1 : Int32))).toNatClampNeg) := inb_of S280 ⟨by decide, by decide⟩
  obtain ⟨T281, h281, X281, e281, W281, st281⟩ := stB X277 hx hZ e277 Ar280 (j := (((0 : Int32) + (1 : Int32)) + (1 : Int32))) hin280 (g := (mkF m 31 #[vr a0, vi (((0 : Int32) + (1 : Int32)) + (1 : Int32)), vr a2, vi (((0 : Int32) + (1 : Int32)) + (1 : Int32)), vi 3, vi (((0 : Int32) + (1 : Int32)) + (1 : Int32)), vi c2] [(.int (c2.toInt8.toInt32)), (.int (((0 : Int32) + (1 : Int32)) + (1 : Int32))), (.ref a2)])) rfl rfl (hb hby od241)
  have V_a2_281 : Arv Z h281 a2 kb1 .byte (3 : Int32) [(.int (nar .byte (c0.toInt8.toInt32))), (.int (nar .byte (c1.toInt8.toInt32))), (.int (nar .byte (c2.toInt8.toInt32)))] (.int 0) := Arv.set Ar280 q280 S280 N_280 H280 G280 (fits_nar_byte _) W281 2 rfl (Nat.le_of_ble_eq_true rfl)
  have N281 := Fr.snoc X281 N277 g2
  have KP281 : Keep h0 h281 [a2] := KP277.wr W281 (Or.inl (List.mem_of_getElem? (i := 0) rfl))
  have SZ281 : h0.size ≤ h281.size := KP281.1
  have Z281 : n0 ≤ h281.size := Nat.le_trans Z0 SZ281
  obtain ⟨fs, hr, hrun, hended, hW, hsame⟩ := X281.leave (v := some (.int 3)) (fun h => by rw [Bd.returns] at h; cases h)
  refine ⟨_, _, pre0 _ ?_, hrun, hended, _, _, rfl, ?_, ⟨_, rfl⟩, hW, hsame.mono (by decide) (by decide)⟩
  · show Steps p.tables e below (s₁.setTop (mkF m 0 #[vr a0, vi 0, vr a2, vi 0, vi 3, .unset, .unset] [])) _
    refine XS.iconst X0.here hx rfl (hb hby od162) ?_
    refine XS.istore X0.here hx rfl (hb hby od163) rfl (l' := #[vr a0, vi 0, vr a2, vi 0, vi 3, vi 0, .unset]) rfl ?_
    refine XS.iload X0.here hx rfl (hb hby od164) rfl ?_
    refine XS.iload X0.here hx rfl (hb hby od165) rfl ?_
    refine XS.icmpNo X0.here hx rfl (hb hby od166) rfl (tlt (by decide : (0 : Int32) < (3 : Int32))).2.1 ?_
    refine XS.aloadN X0.here hx rfl (hb hby od167) rfl rfl ?_
    refine XS.iloadN X0.here hx rfl (hb hby od168) rfl ?_
    refine X0.caload hx (j := (0 : Int32)) (v := (.int c0)) (by rw [e0]; exact Ar271.1) (State.isArrayOf_alike hZ.alike Ar271.2.1) Ar271.2.2 hin271 hat271 (g := (mkF m 12 #[vr a0, vi 0, vr a2, vi 0, vi 3, vi 0, .unset] [(.int 0), (.ref a0)])) rfl rfl (hb hby od169) _ ?_
    refine XS.istore X0.here hx rfl (hb hby od170) rfl (l' := #[vr a0, vi 0, vr a2, vi 0, vi 3, vi 0, vi c0]) rfl ?_
    refine XS.iload X0.here hx rfl (hb hby od171) rfl ?_
    refine XS.sipush X0.here hx rfl (hb hby od172) ?_
    refine XS.icmpYes X0.here hx rfl (pc0 := 20) (pc' := 26) rfl (hb hby od173) rfl (flt hc_c0).2.2.2 (by decide) (by decide) ?_
    refine XS.aloadN X0.here hx rfl (hb hby od237) rfl rfl ?_
    refine XS.iloadN X0.here hx rfl (hb hby od238) rfl ?_
    refine XS.iload X0.here hx rfl (hb hby od239) rfl ?_
    refine XS.i2b X0.here hx rfl (hb hby od240) rfl ?_
    refine st273 _ ?_
    refine XS.iinc X273.here hx rfl (hb hby od242) rfl (l' := #[vr a0, vi ((0 : Int32) + (1 : Int32)), vr a2, vi 0, vi 3, vi 0, vi c0]) rfl ?_
    refine XS.iinc X273.here hx rfl (hb hby od243) rfl (l' := #[vr a0, vi ((0 : Int32) + (1 : Int32)), vr a2, vi ((0 : Int32) + (1 : Int32)), vi 3, vi 0, vi c0]) rfl ?_
    refine XS.iinc X273.here hx rfl (hb hby od244) rfl (l' := #[vr a0, vi ((0 : Int32) + (1 : Int32)), vr a2, vi ((0 : Int32) + (1 : Int32)), vi 3, vi ((0 : Int32) + (1 : Int32)), vi c0]) rfl ?_
    refine XS.goto X273.here hx rfl (pc0 := 41) (pc' := 3) rfl (hb hby od245) (by decide) (by decide) ?_
    refine XS.iload X273.here hx rfl (hb hby od164) rfl ?_
    refine XS.iload X273.here hx rfl (hb hby od165) rfl ?_
    refine XS.icmpNo X273.here hx rfl (hb hby od166) rfl (tlt (by decide : ((0 : Int32) + (1 : Int32)) < (3 : Int32))).2.1 ?_
    refine XS.aloadN X273.here hx rfl (hb hby od167) rfl rfl ?_
    refine XS.iloadN X273.here hx rfl (hb hby od168) rfl ?_
    refine X273.caload hx (j := ((0 : Int32) + (1 : Int32))) (v := (.int c1)) (by rw [e273]; exact Ar275.1) (State.isArrayOf_alike hZ.alike Ar275.2.1) Ar275.2.2 hin275 hat275 (g := (mkF m 12 #[vr a0, vi ((0 : Int32) + (1 : Int32)), vr a2, vi ((0 : Int32) + (1 : Int32)), vi 3, vi ((0 : Int32) + (1 : Int32)), vi c0] [(.int ((0 : Int32) + (1 : Int32))), (.ref a0)])) rfl rfl (hb hby od169) _ ?_
    refine XS.istore X273.here hx rfl (hb hby od170) rfl (l' := #[vr a0, vi ((0 : Int32) + (1 : Int32)), vr a2, vi ((0 : Int32) + (1 : Int32)), vi 3, vi ((0 : Int32) + (1 : Int32)), vi c1]) rfl ?_
    refine XS.iload X273.here hx rfl (hb hby od171) rfl ?_
    refine XS.sipush X273.here hx rfl (hb hby od172) ?_
    refine XS.icmpYes X273.here hx rfl (pc0 := 20) (pc' := 26) rfl (hb hby od173) rfl (flt hc_c1).2.2.2 (by decide) (by decide) ?_
    refine XS.aloadN X273.here hx rfl (hb hby od237) rfl rfl ?_
    refine XS.iloadN X273.here hx rfl (hb hby od238) rfl ?_
    refine XS.iload X273.here hx rfl (hb hby od239) rfl ?_
    refine XS.i2b X273.here hx rfl (hb hby od240) rfl ?_
    refine st277 _ ?_
    refine XS.iinc X277.here hx rfl (hb hby od242) rfl (l' := #[vr a0, vi (((0 : Int32) + (1 : Int32)) + (1 : Int32)), vr a2, vi ((0 : Int32) + (1 : Int32)), vi 3, vi ((0 : Int32) + (1 : Int32)), vi c1]) rfl ?_
    refine XS.iinc X277.here hx rfl (hb hby od243) rfl (l' := #[vr a0, vi (((0 : Int32) + (1 : Int32)) + (1 : Int32)), vr a2, vi (((0 : Int32) + (1 : Int32)) + (1 : Int32)), vi 3, vi ((0 : Int32) + (1 : Int32)), vi c1]) rfl ?_
    refine XS.iinc X277.here hx rfl (hb hby od244) rfl (l' := #[vr a0, vi (((0 : Int32) + (1 : Int32)) + (1 : Int32)), vr a2, vi (((0 : Int32) + (1 : Int32)) + (1 : Int32)), vi 3, vi (((0 : Int32) + (1 : Int32)) + (1 : Int32)), vi c1]) rfl ?_
    refine XS.goto X277.here hx rfl (pc0 := 41) (pc' := 3) rfl (hb hby od245) (by decide) (by decide) ?_
    refine XS.iload X277.here hx rfl (hb hby od164) rfl ?_
    refine XS.iload X277.here hx rfl (hb hby od165) rfl ?_
    refine XS.icmpNo X277.here hx rfl (hb hby od166) rfl (tlt (by decide : (((0 : Int32) + (1 : Int32)) + (1 : Int32)) < (3 : Int32))).2.1 ?_
    refine XS.aloadN X277.here hx rfl (hb hby od167) rfl rfl ?_
    refine XS.iloadN X277.here hx rfl (hb hby od168) rfl ?_
    refine X277.caload hx (j := (((0 : Int32) + (1 : Int32)) + (1 : Int32))) (v := (.int c2)) (by rw [e277]; exact Ar279.1) (State.isArrayOf_alike hZ.alike Ar279.2.1) Ar279.2.2 hin279 hat279 (g := (mkF m 12 #[vr a0, vi (((0 : Int32) + (1 : Int32)) + (1 : Int32)), vr a2, vi (((0 : Int32) + (1 : Int32)) + (1 : Int32)), vi 3, vi (((0 : Int32) + (1 : Int32)) + (1 : Int32)), vi c1] [(.int (((0 : Int32) + (1 : Int32)) + (1 : Int32))), (.ref a0)])) rfl rfl (hb hby od169) _ ?_
    refine XS.istore X277.here hx rfl (hb hby od170) rfl (l' := #[vr a0, vi (((0 : Int32) + (1 : Int32)) + (1 : Int32)), vr a2, vi (((0 : Int32) + (1 : Int32)) + (1 : Int32)), vi 3, vi (((0 : Int32) + (1 : Int32)) + (1 : Int32)), vi c2]) rfl ?_
    refine XS.iload X277.here hx rfl (hb hby od171) rfl ?_
    refine XS.sipush X277.here hx rfl (hb hby od172) ?_
    refine XS.icmpYes X277.here hx rfl (pc0 := 20) (pc' := 26) rfl (hb hby od173) rfl (flt hc_c2).2.2.2 (by decide) (by decide) ?_
    refine XS.aloadN X277.here hx rfl (hb hby od237) rfl rfl ?_
    refine XS.iloadN X277.here hx rfl (hb hby od238) rfl ?_
    refine XS.iload X277.here hx rfl (hb hby od239) rfl ?_
    refine XS.i2b X277.here hx rfl (hb hby od240) rfl ?_
    refine st281 _ ?_
    refine XS.iinc X281.here hx rfl (hb hby od242) rfl (l' := #[vr a0, vi ((((0 : Int32) + (1 : Int32)) + (1 : Int32)) + (1 : Int32)), vr a2, vi (((0 : Int32) + (1 : Int32)) + (1 : Int32)), vi 3, vi (((0 : Int32) + (1 : Int32)) + (1 : Int32)), vi c2]) rfl ?_
    refine XS.iinc X281.here hx rfl (hb hby od243) rfl (l' := #[vr a0, vi ((((0 : Int32) + (1 : Int32)) + (1 : Int32)) + (1 : Int32)), vr a2, vi ((((0 : Int32) + (1 : Int32)) + (1 : Int32)) + (1 : Int32)), vi 3, vi (((0 : Int32) + (1 : Int32)) + (1 : Int32)), vi c2]) rfl ?_
    refine XS.iinc X281.here hx rfl (hb hby od244) rfl (l' := #[vr a0, vi ((((0 : Int32) + (1 : Int32)) + (1 : Int32)) + (1 : Int32)), vr a2, vi ((((0 : Int32) + (1 : Int32)) + (1 : Int32)) + (1 : Int32)), vi 3, vi ((((0 : Int32) + (1 : Int32)) + (1 : Int32)) + (1 : Int32)), vi c2]) rfl ?_
    refine XS.goto X281.here hx rfl (pc0 := 41) (pc' := 3) rfl (hb hby od245) (by decide) (by decide) ?_
    refine XS.iload X281.here hx rfl (hb hby od164) rfl ?_
    refine XS.iload X281.here hx rfl (hb hby od165) rfl ?_
    refine XS.icmpYes X281.here hx rfl (pc0 := 7) (pc' := 44) rfl (hb hby od166) rfl (flt (by decide : ¬ (((((0 : Int32) + (1 : Int32)) + (1 : Int32)) + (1 : Int32)) < (3 : Int32)))).2.1 (by decide) (by decide) ?_
    refine XS.iload X281.here hx rfl (hb hby od246) rfl ?_
    exact own_retI X281 hx Bd.returns (hb hby od247) hr
  · show Q_cmpI3 Z a0 a2 kc1 c0 c1 c2 kb1 h0 n0 _ T281.heap _
    rw [e281]
    exact ⟨rfl, N281, KP281, V_a2_281⟩
theorem own_ef_cmpA3 (m : MethodId) (a0 : Addr) : entryFrame m #[(.ref a0), (.int 0), (.int 3)] 6 = mkF m 0 #[vr a0, vi 0, vi 3, .unset, .unset, .unset] [] := by first | (simp [entryFrame, mkF, argsToLocals, Value.category]; done) | rfl
def Q_cmpA3 (Z : State) (a0 : Addr) (kc1 : ClassId) (c0 : Int32) (c1 : Int32) (c2 : Int32) (h0 : Heap) (n0 : Nat) (v : Option Value) (h : Heap) (L : List Loc) : Prop := ∃ (r : Addr) (k : ClassId), v = some (.ref r) ∧ Fr n0 L ∧ Ext h0 h ∧ h0.size ≤ r ∧ Arv Z h r k .byte (3 : Int32) [(.int (nar .byte (c0.toInt8.toInt32))), (.int (nar .byte (c1.toInt8.toInt32))), (.int (nar .byte (c2.toInt8.toInt32)))] (.int 0)
theorem rm_cmpA3 (l : Launch) (Z : State) (a0' : Array Value) (hw : ∀ d ∈ tables_1, d.before a0' Z = true) (ws : List Jvm.Cond) (a0 : Addr) (kc1 : ClassId) (c0 : Int32) (c1 : Int32) (c2 : Int32) (h0 : Heap) (n0 : Nat) (Z0 : n0 ≤ h0.size) (VA : Arv Z h0 a0 kc1 .char (3 : Int32) [(.int c0), (.int c1), (.int c2)] (.int 0)) (hc_c0 : ¬ ((255 : Int32) < c0)) (hc_c1 : ¬ ((255 : Int32) < c1)) (hc_c2 : ¬ ((255 : Int32) < c2)) :
    MF l nm17 jdk_52_method_16_code 6 (some (.array .byte)) ws (⟨1, 1, 3, 18⟩ : Room) #[(.ref a0), (.int 0), (.int 3)] Z h0 (Q_cmpA3 Z a0 kc1 c0 c1 c2 h0 n0) := by
  refine MetFree.of_bodySF (plainFor_of_name own_pn3) hisR ?_
  intro p e s m args below meth c s₁ Bd hml0 hP hK
  obtain ⟨rfl, hZ, hh⟩ := hP
  have hx := Bd.exec
  have hby := Bd.bytes
  have hml : c.maxLocals = 6 := hml0
  have hown : s.vm.findClass "java/lang/StringUTF16" = some m.cls := findClass_of_methodNamed Bd.named
  have hnm := (name_of_methodNamed Bd.named Bd.method).1
  have X0 : Stand p l e (⟨1, 1, 3, 18⟩ : Room) s m #[(.ref a0), (.int 0), (.int 3)] below meth c s₁ [] 0 0 := Stand.of_body Bd
  have e0 : s₁.heap = h0 := by rw [← hh, Bd.state]; rfl
  have N0 := Fr.nil n0
  have pre0 : PT p e below (s₁.setTop (mkF m 0 #[vr a0, vi 0, vi 3, .unset, .unset, .unset] [])) (s₁.setTop (entryFrame m #[(.ref a0), (.int 0), (.int 3)] 6)) := fun t k => castTop (own_ef_cmpA3 m a0) k
  obtain ⟨T282, h282, k282, X282, e282, E282, A282, st282⟩ := newP X0 hx hZ (ow hw 17 rfl) e0 (g := (mkF m 1 #[vr a0, vi 0, vi 3, .unset, .unset, .unset] [(.int 3)])) rfl (hb hby od177) rfl (by decide) (cap := 3) (by decide) (by decide) (by decide) (by decide)
  obtain ⟨b282, g282⟩ : ∃ z, z = h0.size := ⟨_, rfl⟩
  rw [← g282] at A282 st282
  have ne282_a0_b282 : a0 ≠ b282 := Nat.ne_of_lt (Nat.lt_of_lt_of_le VA.lt (Nat.le_of_eq g282.symm))
  have V_b282 : Arv Z h282 b282 k282 .byte (3 : Int32) [(.int 0), (.int 0), (.int 0)] (.int 0) := (Arv.new A282 (by decide)).pad (pad_rep [] (.int 0) 3)
  have g_b282 : n0 ≤ b282 := Nat.le_trans Z0 (Nat.le_of_eq g282.symm)
  have sz_b282 : h0.size ≤ b282 := Nat.le_trans (Nat.le_refl _) (Nat.le_of_eq g282.symm)
  have EX282 : Ext h0 h282 := E282
  have SZ282 : h0.size ≤ h282.size := EX282.1
  have Z282 : n0 ≤ h282.size := Nat.le_trans Z0 SZ282
  have fx284 := (VA.ext E282)
  obtain ⟨_, _, ⟨T283, L283, k283, n283⟩, -, X283, ⟨Lc283, hQ283, l283, y283, z283⟩, st283⟩ := Jvm.LawKit.callS X282 hx (y := nm16) hown (mvT hZ (ow hw 43 rfl)) (mvT hZ (ow hw 44 rfl)) (mvT hZ (ow hw 41 rfl)) (mvT hZ (ow hw 45 rfl)) (by decide) (backOf (W := 0) (rm_cmpI3 l Z a0' hw [] a0 b282 kc1 c0 c1 c2 k282 h282 n0 Z282 fx284 V_b282 ne282_a0_b282 g_b282 hc_c0 hc_c1 hc_c2) hZ (ow hw 45 rfl) (ow hw 41 rfl) (by decide) (by decide)) (g := (mkF m 9 #[vr a0, vi 0, vi 3, vr b282, .unset, .unset] [(.int 3), (.int 0), (.ref b282), (.int 0), (.ref a0)])) rfl (by rw [hml]; rfl) (argsL := [(.ref a0), (.int 0), (.ref b282), (.int 0), (.int 3)]) (rest := []) (lenOf own_pd10 rfl) rfl (by show 2 * 0 + _ ≤ _; exact Nat.le_of_eq rfl) (hb hby od184) (fun _ _ => ⟨rfl, e282, (by decide : 1 + 0 ≤ _), (by decide : 3 + 0 ≤ _)⟩)
  dsimp only [Pt.U, Pt.locs, Pt.cells, Pt.slots] at X283 l283 y283 z283 st283 hQ283
  subst l283 y283 z283
  obtain ⟨rfl, N283q, K283, V283⟩ := hQ283
  have N283 := Fr.app N0 N283q
  have EX283 : Ext h0 T283.heap := own_extkeep EX282 K283 sz_b282
  have SZ283 : h0.size ≤ T283.heap.size := EX283.1
  have Z283 : n0 ≤ T283.heap.size := Nat.le_trans Z0 SZ283
  obtain ⟨fs, hr, hrun, hended, hW, hsame⟩ := X283.leave (v := some (.ref b282)) (fun h => by rw [Bd.returns] at h; cases h)
  refine ⟨_, _, pre0 _ ?_, hrun, hended, _, _, rfl, ?_, ⟨_, rfl⟩, hW, hsame.mono (by decide) (by decide)⟩
  · show Steps p.tables e below (s₁.setTop (mkF m 0 #[vr a0, vi 0, vi 3, .unset, .unset, .unset] [])) _
    refine XS.iloadN X0.here hx rfl (hb hby od176) rfl ?_
    refine st282 _ ?_
    refine XS.astoreN X282.here hx rfl (hb hby od178) rfl rfl (l' := #[vr a0, vi 0, vi 3, vr b282, .unset, .unset]) rfl ?_
    refine XS.aloadN X282.here hx rfl (hb hby od179) rfl rfl ?_
    refine XS.iloadN X282.here hx rfl (hb hby od180) rfl ?_
    refine XS.aloadN X282.here hx rfl (hb hby od181) rfl rfl ?_
    refine XS.iconst X282.here hx rfl (hb hby od182) ?_
    refine XS.iloadN X282.here hx rfl (hb hby od183) rfl ?_
    refine st283 _ ?_
    refine XS.istore X283.here hx rfl (hb hby od185) rfl (l' := #[vr a0, vi 0, vi 3, vr b282, vi 3, .unset]) rfl ?_
    refine XS.iload X283.here hx rfl (hb hby od186) rfl ?_
    refine XS.iloadN X283.here hx rfl (hb hby od187) rfl ?_
    refine XS.icmpYes X283.here hx rfl (pc0 := 17) (pc' := 57) rfl (hb hby od188) rfl (teq (by decide : (3 : Int32) = (3 : Int32))).1 (by decide) (by decide) ?_
    refine XS.aloadN X283.here hx rfl (hb hby od248) rfl rfl ?_
    exact own_retA X283 hx Bd.returns rfl rfl rfl (hb hby od249) hr
  · show Q_cmpA3 Z a0 kc1 c0 c1 c2 h0 n0 _ T283.heap _
    exact ⟨_, _, rfl, N283, EX283, sz_b282, V283⟩
def F_cfl3  : Int32 := (nar .byte (((((3 : Int32) - (3 : Int32)).toUInt32 >>> ((31 : Int32) &&& 31).toUInt32).toInt32).toInt8.toInt32))
theorem own_ef_cfl3 (m : MethodId) (a0 : Addr) : entryFrame m #[(.ref a0), (.int 3)] 2 = mkF m 0 #[vr a0, vi 3] [] := by first | (simp [entryFrame, mkF, argsToLocals, Value.category]; done) | rfl
def Q_cfl3 (Z : State) (a0 : Addr) (kb1 : ClassId) (vs1 : List Value) (dv1 : Value) (h0 : Heap) (n0 : Nat) (v : Option Value) (h : Heap) (L : List Loc) : Prop := v = some (.int F_cfl3) ∧ Fr n0 L ∧ h = h0
theorem rm_cfl3 (l : Launch) (Z : State) (a0' : Array Value) (hw : ∀ d ∈ tables_1, d.before a0' Z = true) (ws : List Jvm.Cond) (a0 : Addr) (kb1 : ClassId) (vs1 : List Value) (dv1 : Value) (h0 : Heap) (n0 : Nat) (Z0 : n0 ≤ h0.size) (VB : Arv Z h0 a0 kb1 .byte (3 : Int32) vs1 dv1) :
    MF l nm18 jdk_52_method_15_code 2 (some .byte) ws (⟨0, 0, 0, 0⟩ : Room) #[(.ref a0), (.int 3)] Z h0 (Q_cfl3 Z a0 kb1 vs1 dv1 h0 n0) := by
  refine MetFree.of_bodySF (plainFor_of_name own_pn3) hisR ?_
  intro p e s m args below meth c s₁ Bd hml0 hP hK
  obtain ⟨rfl, hZ, hh⟩ := hP
  have hx := Bd.exec
  have hby := Bd.bytes
  have hml : c.maxLocals = 2 := hml0
  have hown : s.vm.findClass "java/lang/StringUTF16" = some m.cls := findClass_of_methodNamed Bd.named
  have hnm := (name_of_methodNamed Bd.named Bd.method).1
  have X0 : Stand p l e (⟨0, 0, 0, 0⟩ : Room) s m #[(.ref a0), (.int 3)] below meth c s₁ [] 0 0 := Stand.of_body Bd
  have e0 : s₁.heap = h0 := by rw [← hh, Bd.state]; rfl
  have N0 := Fr.nil n0
  have pre0 : PT p e below (s₁.setTop (mkF m 0 #[vr a0, vi 3] [])) (s₁.setTop (entryFrame m #[(.ref a0), (.int 3)] 2)) := fun t k => castTop (own_ef_cfl3 m a0) k
  have Vc285 := VB
  obtain ⟨cl285, Ar285, q285, S285, N_285, H285, G285⟩ := Vc285
  obtain ⟨fs, hr, hrun, hended, hW, hsame⟩ := X0.leave (v := some (.int (nar .byte (((((3 : Int32) - (3 : Int32)).toUInt32 >>> ((31 : Int32) &&& 31).toUInt32).toInt32).toInt8.toInt32)))) (fun h => by rw [Bd.returns] at h; cases h)
  refine ⟨_, _, pre0 _ ?_, hrun, hended, _, _, rfl, ?_, ⟨_, rfl⟩, hW, hsame.mono (by decide) (by decide)⟩
  · show Steps p.tables e below (s₁.setTop (mkF m 0 #[vr a0, vi 3] [])) _
    refine XS.iloadN X0.here hx rfl (hb hby od201) rfl ?_
    refine XS.aloadN X0.here hx rfl (hb hby od202) rfl rfl ?_
    refine X0.arraylength hx (by rw [e0]; exact Ar285.1) (State.isArrayOf_alike hZ.alike Ar285.2.1) (g := (mkF m 2 #[vr a0, vi 3] [(.ref a0), (.int 3)])) rfl rfl (hb hby od203) _ ?_
    rw [len_of S285 N_285]
    refine XS.isub X0.here hx rfl (hb hby od204) rfl ?_
    refine XS.bipush X0.here hx rfl (hb hby od205) ?_
    refine XS.iushr X0.here hx rfl (hb hby od206) rfl ?_
    refine XS.i2b X0.here hx rfl (hb hby od207) rfl ?_
    exact retN X0 hx (t := .byte) Bd.returns (by simp) (hb hby od208) hr
  · show Q_cfl3 Z a0 kb1 vs1 dv1 h0 n0 _ s₁.heap _
    refine ⟨?_, N0, e0⟩
    rw [F_cfl3]
theorem own_ef_in4_3 (m : MethodId) (a0 : Addr) (a1 : Addr) : entryFrame m #[(.ref a0), (.ref a1), (.int 0), (.int 3), .null] 6 = mkF m 0 #[vr a0, vr a1, vi 0, vi 3, .val .null, .unset] [] := by first | (simp [entryFrame, mkF, argsToLocals, Value.category]; done) | rfl
def Q_in4_3 (Z : State) (a0 : Addr) (a1 : Addr) (kc1 : ClassId) (c0 : Int32) (c1 : Int32) (c2 : Int32) (kc : Int32) (h0 : Heap) (n0 : Nat) (v : Option Value) (h : Heap) (L : List Loc) : Prop := v = none ∧ Fr n0 L ∧ Keep h0 h [a0] ∧ Exa Z h a0 "java/lang/String" ∧ Fld Z h a0 "java/lang/String" "coder" "B" (.int 0) ∧ ∃ (b : Addr) (k : ClassId), Fld Z h a0 "java/lang/String" "value" "[B" (.ref b) ∧ Arv Z h b k .byte (3 : Int32) [(.int (nar .byte (c0.toInt8.toInt32))), (.int (nar .byte (c1.toInt8.toInt32))), (.int (nar .byte (c2.toInt8.toInt32)))] (.int 0)
theorem rm_in4_3 (l : Launch) (Z : State) (a0' : Array Value) (hw : ∀ d ∈ tables_1, d.before a0' Z = true) (ws : List Jvm.Cond) (a0 : Addr) (a1 : Addr) (kc1 : ClassId) (c0 : Int32) (c1 : Int32) (c2 : Int32) (kc : Int32) (h0 : Heap) (n0 : Nat) (Z0 : n0 ≤ h0.size) (E_t : Exa Z h0 a0 "java/lang/String") (F0v : Fld Z h0 a0 "java/lang/String" "value" "[B" .null) (F0c : Fld Z h0 a0 "java/lang/String" "coder" "B" (.int 0)) (g_t : n0 ≤ a0) (VA : Arv Z h0 a1 kc1 .char (3 : Int32) [(.int c0), (.int c1), (.int c2)] (.int 0)) (na1 : a0 ≠ a1) (hc_c0 : ¬ ((255 : Int32) < c0)) (hc_c1 : ¬ ((255 : Int32) < c1)) (hc_c2 : ¬ ((255 : Int32) < c2)) (S_cs : Sta Z h0 "java/lang/String" "COMPACT_STRINGS" "Z" (.int kc)) (hkc : ¬ (kc = (0 : Int32))) :
    MF l nm19 jdk_42_method_149_code 6 none ws (⟨2, 1, 3, 35⟩ : Room) #[(.ref a0), (.ref a1), (.int 0), (.int 3), .null] Z h0 (Q_in4_3 Z a0 a1 kc1 c0 c1 c2 kc h0 n0) := by
  refine MetFree.of_bodySF (plainFor_of_name own_pn1) hisR ?_
  intro p e s m args below meth c s₁ Bd hml0 hP hK
  obtain ⟨rfl, hZ, hh⟩ := hP
  have hx := Bd.exec
  have hby := Bd.bytes
  have hml : c.maxLocals = 6 := hml0
  have hown : s.vm.findClass "java/lang/String" = some m.cls := findClass_of_methodNamed Bd.named
  have hnm := (name_of_methodNamed Bd.named Bd.method).1
  have X0 : Stand p l e (⟨2, 1, 3, 35⟩ : Room) s m #[(.ref a0), (.ref a1), (.int 0), (.int 3), .null] below meth c s₁ [] 0 0 := Stand.of_body Bd
  have e0 : s₁.heap = h0 := by rw [← hh, Bd.state]; rfl
  have N0 := Fr.nil n0
  have pre0 : PT p e below (s₁.setTop (mkF m 0 #[vr a0, vr a1, vi 0, vi 3, .val .null, .unset] [])) (s₁.setTop (entryFrame m #[(.ref a0), (.ref a1), (.int 0), (.int 3), .null] 6)) := fun t k => castTop (own_ef_in4_3 m a0 a1) k
  obtain ⟨T286, X286, e286, st286⟩ := initO X0 hx hZ hown (ow hw 13 rfl) (ow hw 14 rfl) (ow hw 15 rfl) e0 (g := (mkF m 1 #[vr a0, vr a1, vi 0, vi 3, .val .null, .unset] [(.ref a0)])) rfl (by rw [hml]; rfl) rfl (hb hby od210) (by decide) (W := 0) (by show 2 * 0 + _ ≤ _; exact Nat.le_of_eq rfl) (by decide)
  obtain ⟨T287, X287, e287, st287⟩ := getS2 X286 hx hZ hown (host := "") (Or.inl (ow hw 38 rfl)) Via.refl e286 S_cs (g := (mkF m 27 #[vr a0, vr a1, vi 0, vi 3, .val .null, .unset] [])) rfl (hb hby od213)
  obtain ⟨_, _, ⟨T288, L288, k288, n288⟩, -, X288, ⟨Lc288, hQ288, l288, y288, z288⟩, st288⟩ := Jvm.LawKit.callS X287 hx (y := nm17) hown (mvT hZ (ow hw 39 rfl)) (mvT hZ (ow hw 40 rfl)) (mvT hZ (ow hw 41 rfl)) (mvT hZ (ow hw 42 rfl)) (by decide) (backOf (W := 0) (rm_cmpA3 l Z a0' hw [] a1 kc1 c0 c1 c2 h0 n0 Z0 VA hc_c0 hc_c1 hc_c2) hZ (ow hw 42 rfl) (ow hw 41 rfl) (by decide) (by decide)) (g := (mkF m 36 #[vr a0, vr a1, vi 0, vi 3, .val .null, .unset] [(.int 3), (.int 0), (.ref a1)])) rfl (by rw [hml]; rfl) (argsL := [(.ref a1), (.int 0), (.int 3)]) (rest := []) (lenOf own_pd11 rfl) rfl (by show 2 * 0 + _ ≤ _; exact Nat.le_of_eq rfl) (hb hby od218) (fun _ _ => ⟨rfl, e287, (by decide : 0 + 1 ≤ _), (by decide : 0 + 3 ≤ _)⟩)
  dsimp only [Pt.U, Pt.locs, Pt.cells, Pt.slots] at X288 l288 y288 z288 st288 hQ288
  subst l288 y288 z288
  obtain ⟨r288, kk288, rfl, N288q, E288, zz288, V288⟩ := hQ288
  have N288 := Fr.app N0 N288q
  have ne288_a0_r288 : a0 ≠ r288 := Nat.ne_of_lt (Nat.lt_of_lt_of_le E_t.lt zz288)
  have ne288_a1_r288 : a1 ≠ r288 := Nat.ne_of_lt (Nat.lt_of_lt_of_le VA.lt zz288)
  have g_r288 : n0 ≤ r288 := Nat.le_trans Z0 zz288
  have sz_r288 : h0.size ≤ r288 := Nat.le_trans (Nat.le_refl _) zz288
  have KP288 : Keep h0 T288.heap [a0] := (Keep.refl h0 [a0]).ext E288
  have SZ288 : h0.size ≤ T288.heap.size := KP288.1
  have Z288 : n0 ≤ T288.heap.size := Nat.le_trans Z0 SZ288
  obtain ⟨_, _, ⟨T289, L289, k289, n289⟩, -, X289, ⟨Lc289, hQ289, l289, y289, z289⟩, st289⟩ := Jvm.LawKit.callS X288 hx (y := nm18) hown (mvT hZ (ow hw 46 rfl)) (mvT hZ (ow hw 47 rfl)) (mvT hZ (ow hw 41 rfl)) (mvT hZ (ow hw 48 rfl)) (by decide) (backOf (W := 1) (rm_cfl3 l Z a0' hw [] r288 kk288 _ _ T288.heap n0 Z288 V288) hZ (ow hw 48 rfl) (ow hw 41 rfl) (by decide) (by decide)) (g := (mkF m 45 #[vr a0, vr a1, vi 0, vi 3, .val .null, vr r288] [(.int 3), (.ref r288), (.ref a0)])) rfl (by rw [hml]; rfl) (argsL := [(.ref r288), (.int 3)]) (rest := [(.ref a0)]) (lenOf own_pd12 rfl) rfl (by show 2 * 0 + _ ≤ _; exact Nat.le_of_eq rfl) (hb hby od223) (fun _ _ => ⟨rfl, rfl, (by decide : 1 + 0 ≤ _), (by decide : 3 + 0 ≤ _)⟩)
  dsimp only [Pt.U, Pt.locs, Pt.cells, Pt.slots] at X289 l289 y289 z289 st289 hQ289
  subst l289 y289 z289
  obtain ⟨rfl, N289q, e289⟩ := hQ289
  have N289 := Fr.app N288 N289q
  have q289 : F_cfl3 = (0 : Int32) := by decide
  rw [q289] at st289
  have fx291 := (E_t.ext E288)
  have fx292 := (F0c.ext E288)
  have Fo290 := fx292
  obtain ⟨T293, h293, X293, e293, W293, st293⟩ := putFN X289 hx hZ hown (ow hw 23 rfl) Via.refl e289 Fo290 fx291 (Or.inr ⟨(ow hw 19 rfl), rfl, hnm⟩) (ow hw 4 rfl) (ty := .byte) (v' := (.int (nar .byte (0 : Int32)))) (by decide) rfl (fits_nar_byte _) (g := (mkF m 48 #[vr a0, vr a1, vi 0, vi 3, .val .null, vr r288] [(.int 0), (.ref a0)])) rfl rfl (hb hby od224)
  have Fw293 : Fld Z h293 a0 "java/lang/String" "coder" "B" (.int 0) := Fo290.same W293
  have N293 := Fr.snoc X293 N289 g_t
  have KP293 : Keep h0 h293 [a0] := KP288.wr W293 (Or.inl (List.mem_of_getElem? (i := 0) rfl))
  have SZ293 : h0.size ≤ h293.size := KP293.1
  have Z293 : n0 ≤ h293.size := Nat.le_trans Z0 SZ293
  have fx295 := (fx291.wr W293)
  have fx296 := ((F0v.ext E288).other W293 (Or.inr (slot_ne (a0 := a0') (Or.inr (ow hw 18 rfl)) (Or.inr (ow hw 19 rfl)) (by decide) (t := (.array .byte)) (t' := .byte) (by decide) (by decide))))
  have Fo294 := fx296
  obtain ⟨T297, h297, X297, e297, W297, st297⟩ := putF X293 hx hZ hown (host := "") (Or.inl (ow hw 22 rfl)) Via.refl e293 Fo294 fx295 (Or.inr ⟨(ow hw 18 rfl), rfl, hnm⟩) (ow hw 4 rfl) (ty := (.array .byte)) (by decide) rfl rfl (g := (mkF m 54 #[vr a0, vr a1, vi 0, vi 3, .val .null, vr r288] [(.ref r288), (.ref a0)])) rfl rfl (hb hby od227)
  have Fw297 : Fld Z h297 a0 "java/lang/String" "value" "[B" (.ref r288) := Fo294.same W297
  have N297 := Fr.snoc X297 N293 g_t
  have KP297 : Keep h0 h297 [a0] := KP293.wr W297 (Or.inl (List.mem_of_getElem? (i := 0) rfl))
  have SZ297 : h0.size ≤ h297.size := KP297.1
  have Z297 : n0 ≤ h297.size := Nat.le_trans Z0 SZ297
  have fx298 := (fx295.wr W297)
  have fx299 := (Fw293.other W297 (Or.inr (slot_ne (a0 := a0') (Or.inr (ow hw 19 rfl)) (Or.inr (ow hw 18 rfl)) (by decide) (t := .byte) (t' := (.array .byte)) (by decide) (by decide))))
  have fx300 := ((V288.other W293 (Ne.symm ne288_a0_r288)).other W297 (Ne.symm ne288_a0_r288))
  obtain ⟨fs, hr, hrun, hended, hW, hsame⟩ := X297.leave (v := none) (fun _ => rfl)
  refine ⟨_, _, pre0 _ ?_, hrun, hended, _, _, rfl, ?_, ⟨_, rfl⟩, hW, hsame.mono (by decide) (by decide)⟩
  · show Steps p.tables e below (s₁.setTop (mkF m 0 #[vr a0, vr a1, vi 0, vi 3, .val .null, .unset] [])) _
    refine XS.aloadN X0.here hx rfl (hb hby od209) rfl rfl ?_
    refine st286 _ ?_
    refine XS.iloadN X286.here hx rfl (hb hby od211) rfl ?_
    refine XS.ifYes X286.here hx rfl (pc0 := 5) (pc' := 27) rfl (hb hby od212) rfl ((if0 _ _).trans (feq (by decide : ¬ ((3 : Int32) = (0 : Int32)))).2) (by decide) (by decide) ?_
    refine st287 _ ?_
    refine XS.ifNo X287.here hx rfl (hb hby od214) rfl ((if0 _ _).trans (feq hkc).1) ?_
    refine XS.aloadN X287.here hx rfl (hb hby od215) rfl rfl ?_
    refine XS.iloadN X287.here hx rfl (hb hby od216) rfl ?_
    refine XS.iloadN X287.here hx rfl (hb hby od217) rfl ?_
    refine st288 _ ?_
    refine XS.astore X288.here hx rfl (hb hby od219) rfl rfl (l' := #[vr a0, vr a1, vi 0, vi 3, .val .null, vr r288]) rfl ?_
    refine XS.aloadN X288.here hx rfl (hb hby od220) rfl rfl ?_
    refine XS.aload X288.here hx rfl (hb hby od221) rfl rfl ?_
    refine XS.iloadN X288.here hx rfl (hb hby od222) rfl ?_
    refine st289 _ ?_
    refine st293 _ ?_
    refine XS.aloadN X293.here hx rfl (hb hby od225) rfl rfl ?_
    refine XS.aload X293.here hx rfl (hb hby od226) rfl rfl ?_
    refine st297 _ ?_
    exact X297.returnOut hx Bd.returns (hb hby od228) hr
  · show Q_in4_3 Z a0 a1 kc1 c0 c1 c2 kc h0 n0 _ T297.heap _
    rw [e297]
    exact ⟨rfl, N297, KP297, fx298, fx299, _, _, Fw297, fx300⟩
theorem own_ef_in1_3 (m : MethodId) (a0 : Addr) (a1 : Addr) : entryFrame m #[(.ref a0), (.ref a1)] 2 = mkF m 0 #[vr a0, vr a1] [] := by first | (simp [entryFrame, mkF, argsToLocals, Value.category]; done) | rfl
def Q_in1_3 (Z : State) (a0 : Addr) (a1 : Addr) (kc1 : ClassId) (c0 : Int32) (c1 : Int32) (c2 : Int32) (kc : Int32) (h0 : Heap) (n0 : Nat) (v : Option Value) (h : Heap) (L : List Loc) : Prop := v = none ∧ Fr n0 L ∧ Keep h0 h [a0] ∧ Exa Z h a0 "java/lang/String" ∧ Fld Z h a0 "java/lang/String" "coder" "B" (.int 0) ∧ ∃ (b : Addr) (k : ClassId), Fld Z h a0 "java/lang/String" "value" "[B" (.ref b) ∧ Arv Z h b k .byte (3 : Int32) [(.int (nar .byte (c0.toInt8.toInt32))), (.int (nar .byte (c1.toInt8.toInt32))), (.int (nar .byte (c2.toInt8.toInt32)))] (.int 0)
theorem rm_in1_3 (l : Launch) (Z : State) (a0' : Array Value) (hw : ∀ d ∈ tables_1, d.before a0' Z = true) (ws : List Jvm.Cond) (a0 : Addr) (a1 : Addr) (kc1 : ClassId) (c0 : Int32) (c1 : Int32) (c2 : Int32) (kc : Int32) (h0 : Heap) (n0 : Nat) (Z0 : n0 ≤ h0.size) (E_t : Exa Z h0 a0 "java/lang/String") (F0v : Fld Z h0 a0 "java/lang/String" "value" "[B" .null) (F0c : Fld Z h0 a0 "java/lang/String" "coder" "B" (.int 0)) (g_t : n0 ≤ a0) (VA : Arv Z h0 a1 kc1 .char (3 : Int32) [(.int c0), (.int c1), (.int c2)] (.int 0)) (na1 : a0 ≠ a1) (hc_c0 : ¬ ((255 : Int32) < c0)) (hc_c1 : ¬ ((255 : Int32) < c1)) (hc_c2 : ¬ ((255 : Int32) < c2)) (S_cs : Sta Z h0 "java/lang/String" "COMPACT_STRINGS" "Z" (.int kc)) (hkc : ¬ (kc = (0 : Int32))) :
    MF l nm20 jdk_42_method_3_code 2 none ws (⟨5, 2, 9, 74⟩ : Room) #[(.ref a0), (.ref a1)] Z h0 (Q_in1_3 Z a0 a1 kc1 c0 c1 c2 kc h0 n0) := by
  refine MetFree.of_bodySF (plainFor_of_name own_pn1) hisR ?_
  intro p e s m args below meth c s₁ Bd hml0 hP hK
  obtain ⟨rfl, hZ, hh⟩ := hP
  have hx := Bd.exec
  have hby := Bd.bytes
  have hml : c.maxLocals = 2 := hml0
  have hown : s.vm.findClass "java/lang/String" = some m.cls := findClass_of_methodNamed Bd.named
  have hnm := (name_of_methodNamed Bd.named Bd.method).1
  have X0 : Stand p l e (⟨5, 2, 9, 74⟩ : Room) s m #[(.ref a0), (.ref a1)] below meth c s₁ [] 0 0 := Stand.of_body Bd
  have e0 : s₁.heap = h0 := by rw [← hh, Bd.state]; rfl
  have N0 := Fr.nil n0
  have pre0 : PT p e below (s₁.setTop (mkF m 0 #[vr a0, vr a1] [])) (s₁.setTop (entryFrame m #[(.ref a0), (.ref a1)] 2)) := fun t k => castTop (own_ef_in1_3 m a0 a1) k
  have Vc301 := VA
  obtain ⟨cl301, Ar301, q301, S301, N_301, H301, G301⟩ := Vc301
  obtain ⟨_, _, ⟨T302, L302, k302, n302⟩, -, X302, ⟨Lc302, hQ302, l302, y302, z302⟩, st302⟩ := X0.specialBack hx (y := nm19) rfl hown (mvT hZ (ow hw 9 rfl)) (mvT hZ (ow hw 10 rfl)) (mvT hZ (ow hw 12 rfl)) (by decide) (backOf (W := 0) (rm_in4_3 l Z a0' hw [] a0 a1 kc1 c0 c1 c2 kc h0 n0 Z0 E_t F0v F0c g_t VA na1 hc_c0 hc_c1 hc_c2 S_cs hkc) hZ (ow hw 12 rfl) (ow hw 5 rfl) (by decide) (by decide)) (g := (mkF m 6 #[vr a0, vr a1] [.null, (.int 3), (.int 0), (.ref a1), (.ref a0)])) rfl (by rw [hml]; rfl) (Steps.refl _) (a := a0) (argsL := [(.ref a1), (.int 0), (.int 3), .null]) (rest := []) (lenOf own_pd13 rfl) rfl (by show 2 * 0 + _ ≤ _; exact Nat.le_of_eq rfl) (hb hby od235) (fun _ _ => ⟨rfl, e0, (by decide : 0 + 1 ≤ _), (by decide : 0 + 3 ≤ _)⟩)
  dsimp only [Pt.U, Pt.locs, Pt.cells, Pt.slots] at X302 l302 y302 z302 st302 hQ302
  subst l302 y302 z302
  obtain ⟨rfl, N302q, K302, Ei302, Ci302, bi302, ki302, Fi302, Vi302⟩ := hQ302
  have N302 := Fr.app N0 N302q
  have KP302 : Keep h0 T302.heap [a0] := (Keep.refl h0 [a0]).trans K302 (allS (Or.inl (List.mem_of_getElem? (i := 0) rfl)) all0)
  have SZ302 : h0.size ≤ T302.heap.size := KP302.1
  have Z302 : n0 ≤ T302.heap.size := Nat.le_trans Z0 SZ302
  obtain ⟨fs, hr, hrun, hended, hW, hsame⟩ := X302.leave (v := none) (fun _ => rfl)
  refine ⟨_, _, pre0 _ ?_, hrun, hended, _, _, rfl, ?_, ⟨_, rfl⟩, hW, hsame.mono (by decide) (by decide)⟩
  · show Steps p.tables e below (s₁.setTop (mkF m 0 #[vr a0, vr a1] [])) _
    refine XS.aloadN X0.here hx rfl (hb hby od229) rfl rfl ?_
    refine XS.aloadN X0.here hx rfl (hb hby od230) rfl rfl ?_
    refine XS.iconst X0.here hx rfl (hb hby od231) ?_
    refine XS.aloadN X0.here hx rfl (hb hby od232) rfl rfl ?_
    refine X0.arraylength hx (by rw [e0]; exact Ar301.1) (State.isArrayOf_alike hZ.alike Ar301.2.1) (g := (mkF m 4 #[vr a0, vr a1] [(.ref a1), (.int 0), (.ref a1), (.ref a0)])) rfl rfl (hb hby od233) _ ?_
    rw [len_of S301 N_301]
    refine XS.aconstNull X0.here hx rfl (hb hby od234) ?_
    refine st302.trans ?_
    exact X302.returnOut hx Bd.returns (hb hby od236) hr
  · show Q_in1_3 Z a0 a1 kc1 c0 c1 c2 kc h0 n0 _ T302.heap _
    exact ⟨rfl, N302, KP302, Ei302, Ci302, _, _, Fi302, Vi302⟩
def Q_in1C3 (Z : State) (a0 : Addr) (c0 : Int32) (c1 : Int32) (c2 : Int32) (h0 : Heap) (n0 : Nat) (v : Option Value) (h : Heap) (L : List Loc) : Prop := v = none ∧ Fr n0 L ∧ Keep h0 h [a0] ∧ CS Z h a0 [c0, c1, c2]
theorem rm_in1C3 (l : Launch) (Z : State) (a0' : Array Value) (hw : ∀ d ∈ tables_1, d.before a0' Z = true) (ws : List Jvm.Cond) (a0 : Addr) (a1 : Addr) (kc1 : ClassId) (c0 : Int32) (c1 : Int32) (c2 : Int32) (kc : Int32) (h0 : Heap) (n0 : Nat) (Z0 : n0 ≤ h0.size) (E_t : Exa Z h0 a0 "java/lang/String") (F0v : Fld Z h0 a0 "java/lang/String" "value" "[B" .null) (F0c : Fld Z h0 a0 "java/lang/String" "coder" "B" (.int 0)) (g_t : n0 ≤ a0) (VA : Arv Z h0 a1 kc1 .char (3 : Int32) [(.int c0), (.int c1), (.int c2)] (.int 0)) (na1 : a0 ≠ a1) (hb_c0 : 0 ≤ c0.toInt ∧ c0.toInt ≤ 65535) (hb_c1 : 0 ≤ c1.toInt ∧ c1.toInt ≤ 65535) (hb_c2 : 0 ≤ c2.toInt ∧ c2.toInt ≤ 65535) (S_cs : Sta Z h0 "java/lang/String" "COMPACT_STRINGS" "Z" (.int kc)) (hkc : ¬ (kc = (0 : Int32))) (S_ad : Sta Z h0 "java/lang/StringUTF16" "$assertionsDisabled" "Z" (.int 1)) (S_hi : Sta Z h0 "java/lang/StringUTF16" "HI_BYTE_SHIFT" "I" (.int 0)) (S_lo : Sta Z h0 "java/lang/StringUTF16" "LO_BYTE_SHIFT" "I" (.int 8)) :
    MF l nm20 jdk_42_method_3_code 2 none ws (⟨5, 2, 9, 74⟩ : Room) #[(.ref a0), (.ref a1)] Z h0 (Q_in1C3 Z a0 c0 c1 c2 h0 n0) := by
  by_cases hup : ¬ ((255 : Int32) < c0) ∧ ¬ ((255 : Int32) < c1) ∧ ¬ ((255 : Int32) < c2)
  · obtain ⟨p0, p1, p2⟩ := hup
    simp only [Int32.lt_iff_toInt_lt, Int32.reduceToInt] at *
    exact own_mono (rm_in1_3 l Z a0' hw ws a0 a1 kc1 c0 c1 c2 kc h0 n0 Z0 E_t F0v F0c g_t VA na1 (by simp only [Int32.lt_iff_toInt_lt, Int32.reduceToInt]; exact p0) (by simp only [Int32.lt_iff_toInt_lt, Int32.reduceToInt]; exact p1) (by simp only [Int32.lt_iff_toInt_lt, Int32.reduceToInt]; exact p2) S_cs hkc) (fun _ _ _ _ ⟨v, L, q1, ⟨r1, r2, r3, r4, r5, b, k, r6, r7⟩, q5⟩ => ⟨v, L, q1, ⟨r1, r2, r3, r4, b, k, r6, Or.inl ⟨r5, (by intro c hc; simp only [List.mem_cons, List.not_mem_nil, or_false] at hc; rcases hc with rfl | rfl | rfl <;> omega), r7⟩⟩, q5⟩)
  · exact own_mono (rm_in1U3 l Z a0' hw ws a0 a1 kc1 c0 c1 c2 kc h0 n0 Z0 E_t F0v F0c g_t VA na1 hup hb_c0 hb_c1 hb_c2 S_cs hkc S_ad S_hi S_lo) (fun _ _ _ _ ⟨v, L, q1, ⟨r1, r2, r3, r4, r5, b, k, r6, r7⟩, q5⟩ => ⟨v, L, q1, ⟨r1, r2, r3, r4, b, k, r6, Or.inr ⟨r5, (by intro c hc; simp only [List.mem_cons, List.not_mem_nil, or_false] at hc; rcases hc with rfl | rfl | rfl <;> omega), by simp, r7⟩⟩, q5⟩)
def F_nbl4  : Int32 := ((4 : Int32) <<< ((1 : Int32) &&& 31))
theorem own_ef_nbl4 (m : MethodId)  : entryFrame m #[(.int 4)] 1 = mkF m 0 #[vi 4] [] := by first | (simp [entryFrame, mkF, argsToLocals, Value.category]; done) | rfl
def Q_nbl4 (Z : State)  (h0 : Heap) (n0 : Nat) (v : Option Value) (h : Heap) (L : List Loc) : Prop := v = some (.int F_nbl4) ∧ Fr n0 L ∧ h = h0
theorem rm_nbl4 (l : Launch) (Z : State) (a0' : Array Value) (hw : ∀ d ∈ tables_1, d.before a0' Z = true) (ws : List Jvm.Cond)  (h0 : Heap) (n0 : Nat) (Z0 : n0 ≤ h0.size) :
    MF l nm12 jdk_52_method_3_code 1 (some .int) ws (⟨0, 0, 0, 0⟩ : Room) #[(.int 4)] Z h0 (Q_nbl4 Z  h0 n0) := by
  refine MetFree.of_bodySF (plainFor_of_name own_pn3) hisR ?_
  intro p e s m args below meth c s₁ Bd hml0 hP hK
  obtain ⟨rfl, hZ, hh⟩ := hP
  have hx := Bd.exec
  have hby := Bd.bytes
  have hml : c.maxLocals = 1 := hml0
  have hown : s.vm.findClass "java/lang/StringUTF16" = some m.cls := findClass_of_methodNamed Bd.named
  have hnm := (name_of_methodNamed Bd.named Bd.method).1
  have X0 : Stand p l e (⟨0, 0, 0, 0⟩ : Room) s m #[(.int 4)] below meth c s₁ [] 0 0 := Stand.of_body Bd
  have e0 : s₁.heap = h0 := by rw [← hh, Bd.state]; rfl
  have N0 := Fr.nil n0
  have pre0 : PT p e below (s₁.setTop (mkF m 0 #[vi 4] [])) (s₁.setTop (entryFrame m #[(.int 4)] 1)) := fun t k => castTop (own_ef_nbl4 m ) k
  obtain ⟨fs, hr, hrun, hended, hW, hsame⟩ := X0.leave (v := some (.int ((4 : Int32) <<< ((1 : Int32) &&& 31)))) (fun h => by rw [Bd.returns] at h; cases h)
  refine ⟨_, _, pre0 _ ?_, hrun, hended, _, _, rfl, ?_, ⟨_, rfl⟩, hW, hsame.mono (by decide) (by decide)⟩
  · show Steps p.tables e below (s₁.setTop (mkF m 0 #[vi 4] [])) _
    refine XS.iloadN X0.here hx rfl (hb hby od108) rfl ?_
    refine XS.ifYes X0.here hx rfl (pc0 := 1) (pc' := 12) rfl (hb hby od109) rfl ((if0 _ _).trans (flt (by decide : ¬ ((4 : Int32) < (0 : Int32)))).2.1) (by decide) (by decide) ?_
    refine XS.iloadN X0.here hx rfl (hb hby od110) rfl ?_
    refine X0.ldcInt hx hown (mvT hZ (ow hw 97 rfl)) (g := (mkF m 13 #[vi 4] [(.int 4)])) rfl (hb hby od111) _ ?_
    refine XS.icmpYes X0.here hx rfl (pc0 := 15) (pc' := 55) rfl (hb hby od112) rfl (tlt (by decide : (4 : Int32) < (1073741823 : Int32))).1 (by decide) (by decide) ?_
    refine XS.iloadN X0.here hx rfl (hb hby od113) rfl ?_
    refine XS.iconst X0.here hx rfl (hb hby od114) ?_
    refine XS.ishl X0.here hx rfl (hb hby od115) rfl ?_
    exact own_retI X0 hx Bd.returns (hb hby od116) hr
  · show Q_nbl4 Z  h0 n0 _ s₁.heap _
    refine ⟨?_, N0, e0⟩
    rw [F_nbl4]
theorem own_ef_nbf4 (m : MethodId)  : entryFrame m #[(.int 4)] 1 = mkF m 0 #[vi 4] [] := by first | (simp [entryFrame, mkF, argsToLocals, Value.category]; done) | rfl
def Q_nbf4 (Z : State)  (h0 : Heap) (n0 : Nat) (v : Option Value) (h : Heap) (L : List Loc) : Prop := ∃ (r : Addr) (k : ClassId), v = some (.ref r) ∧ Fr n0 L ∧ Ext h0 h ∧ h0.size ≤ r ∧ Arv Z h r k .byte (8 : Int32) [(.int 0), (.int 0), (.int 0), (.int 0), (.int 0), (.int 0), (.int 0), (.int 0)] (.int 0)
theorem rm_nbf4 (l : Launch) (Z : State) (a0' : Array Value) (hw : ∀ d ∈ tables_1, d.before a0' Z = true) (ws : List Jvm.Cond)  (h0 : Heap) (n0 : Nat) (Z0 : n0 ≤ h0.size) :
    MF l nm13 jdk_52_method_2_code 1 (some (.array .byte)) ws (⟨1, 1, 8, 12⟩ : Room) #[(.int 4)] Z h0 (Q_nbf4 Z  h0 n0) := by
  refine MetFree.of_bodySF (plainFor_of_name own_pn3) hisR ?_
  intro p e s m args below meth c s₁ Bd hml0 hP hK
  obtain ⟨rfl, hZ, hh⟩ := hP
  have hx := Bd.exec
  have hby := Bd.bytes
  have hml : c.maxLocals = 1 := hml0
  have hown : s.vm.findClass "java/lang/StringUTF16" = some m.cls := findClass_of_methodNamed Bd.named
  have hnm := (name_of_methodNamed Bd.named Bd.method).1
  have X0 : Stand p l e (⟨1, 1, 8, 12⟩ : Room) s m #[(.int 4)] below meth c s₁ [] 0 0 := Stand.of_body Bd
  have e0 : s₁.heap = h0 := by rw [← hh, Bd.state]; rfl
  have N0 := Fr.nil n0
  have pre0 : PT p e below (s₁.setTop (mkF m 0 #[vi 4] [])) (s₁.setTop (entryFrame m #[(.int 4)] 1)) := fun t k => castTop (own_ef_nbf4 m ) k
  obtain ⟨_, _, ⟨T303, L303, k303, n303⟩, -, X303, ⟨Lc303, hQ303, l303, y303, z303⟩, st303⟩ := Jvm.LawKit.callS X0 hx (y := nm12) hown (mvT hZ (ow hw 94 rfl)) (mvT hZ (ow hw 95 rfl)) (mvT hZ (ow hw 41 rfl)) (mvT hZ (ow hw 96 rfl)) (by decide) (backOf (W := 0) (rm_nbl4 l Z a0' hw []  h0 n0 Z0) hZ (ow hw 96 rfl) (ow hw 41 rfl) (by decide) (by decide)) (g := (mkF m 1 #[vi 4] [(.int 4)])) rfl (by rw [hml]; rfl) (argsL := [(.int 4)]) (rest := []) (lenOf own_pd7 rfl) rfl (by show 2 * 0 + _ ≤ _; exact Nat.le_of_eq rfl) (hb hby od118) (fun _ _ => ⟨rfl, e0, (by decide : 0 + 0 ≤ _), (by decide : 0 + 0 ≤ _)⟩)
  dsimp only [Pt.U, Pt.locs, Pt.cells, Pt.slots] at X303 l303 y303 z303 st303 hQ303
  subst l303 y303 z303
  obtain ⟨rfl, N303q, e303⟩ := hQ303
  have N303 := Fr.app N0 N303q
  have q303 : F_nbl4 = (8 : Int32) := by decide
  rw [q303] at st303
  obtain ⟨T304, h304, k304, X304, e304, E304, A304, st304⟩ := newP X303 hx hZ (ow hw 17 rfl) e303 (g := (mkF m 4 #[vi 4] [(.int 8)])) rfl (hb hby od119) rfl (by decide) (cap := 8) (by decide) (by decide) (by decide) (by decide)
  obtain ⟨b304, g304⟩ : ∃ z, z = h0.size := ⟨_, rfl⟩
  rw [← g304] at A304 st304
  have V_b304 : Arv Z h304 b304 k304 .byte (8 : Int32) [(.int 0), (.int 0), (.int 0), (.int 0), (.int 0), (.int 0), (.int 0), (.int 0)] (.int 0) := (Arv.new A304 (by decide)).pad (pad_rep [] (.int 0) 8)
  have g_b304 : n0 ≤ b304 := Nat.le_trans Z0 (Nat.le_of_eq g304.symm)
  have sz_b304 : h0.size ≤ b304 := Nat.le_trans (Nat.le_refl _) (Nat.le_of_eq g304.symm)
  have EX304 : Ext h0 h304 := E304
  have SZ304 : h0.size ≤ h304.size := EX304.1
  have Z304 : n0 ≤ h304.size := Nat.le_trans Z0 SZ304
  obtain ⟨fs, hr, hrun, hended, hW, hsame⟩ := X304.leave (v := some (.ref b304)) (fun h => by rw [Bd.returns] at h; cases h)
  refine ⟨_, _, pre0 _ ?_, hrun, hended, _, _, rfl, ?_, ⟨_, rfl⟩, hW, hsame.mono (by decide) (by decide)⟩
  · show Steps p.tables e below (s₁.setTop (mkF m 0 #[vi 4] [])) _
    refine XS.iloadN X0.here hx rfl (hb hby od117) rfl ?_
    refine st303 _ ?_
    refine st304 _ ?_
    exact own_retA X304 hx Bd.returns rfl rfl rfl (hb hby od120) hr
  · show Q_nbf4 Z  h0 n0 _ T304.heap _
    rw [e304]
    exact ⟨_, _, rfl, N303, EX304, sz_b304, V_b304⟩
theorem own_ef_put4_0 (m : MethodId) (a0 : Addr) (p2 : Int32) : entryFrame m #[(.ref a0), (.int 0), (.int p2)] 3 = mkF m 0 #[vr a0, vi 0, vi p2] [] := by first | (simp [entryFrame, mkF, argsToLocals, Value.category]; done) | rfl
def Q_put4_0 (Z : State) (a0 : Addr) (p2 : Int32) (kb1 : ClassId) (x0 : Int32) (x1 : Int32) (x2 : Int32) (x3 : Int32) (x4 : Int32) (x5 : Int32) (x6 : Int32) (x7 : Int32) (h0 : Heap) (n0 : Nat) (v : Option Value) (h : Heap) (L : List Loc) : Prop := v = none ∧ Fr n0 L ∧ Keep h0 h [a0] ∧ Arv Z h a0 kb1 .byte (8 : Int32) [(.int (nar .byte ((p2 >>> ((0 : Int32) &&& 31)).toInt8.toInt32))), (.int (nar .byte ((p2 >>> ((8 : Int32) &&& 31)).toInt8.toInt32))), (.int x2), (.int x3), (.int x4), (.int x5), (.int x6), (.int x7)] (.int 0)
theorem rm_put4_0 (l : Launch) (Z : State) (a0' : Array Value) (hw : ∀ d ∈ tables_1, d.before a0' Z = true) (ws : List Jvm.Cond) (a0 : Addr) (p2 : Int32) (kb1 : ClassId) (x0 : Int32) (x1 : Int32) (x2 : Int32) (x3 : Int32) (x4 : Int32) (x5 : Int32) (x6 : Int32) (x7 : Int32) (h0 : Heap) (n0 : Nat) (Z0 : n0 ≤ h0.size) (VB : Arv Z h0 a0 kb1 .byte (8 : Int32) [(.int x0), (.int x1), (.int x2), (.int x3), (.int x4), (.int x5), (.int x6), (.int x7)] (.int 0)) (g0 : n0 ≤ a0) (S_ad : Sta Z h0 "java/lang/StringUTF16" "$assertionsDisabled" "Z" (.int 1)) (S_hi : Sta Z h0 "java/lang/StringUTF16" "HI_BYTE_SHIFT" "I" (.int 0)) (S_lo : Sta Z h0 "java/lang/StringUTF16" "LO_BYTE_SHIFT" "I" (.int 8)) :
    MF l nm14 jdk_52_method_4_code 3 none ws (⟨0, 0, 0, 0⟩ : Room) #[(.ref a0), (.int 0), (.int p2)] Z h0 (Q_put4_0 Z a0 p2 kb1 x0 x1 x2 x3 x4 x5 x6 x7 h0 n0) := by
  refine MetFree.of_bodySF (plainFor_of_name own_pn3) hisR ?_
  intro p e s m args below meth c s₁ Bd hml0 hP hK
  obtain ⟨rfl, hZ, hh⟩ := hP
  have hx := Bd.exec
  have hby := Bd.bytes
  have hml : c.maxLocals = 3 := hml0
  have hown : s.vm.findClass "java/lang/StringUTF16" = some m.cls := findClass_of_methodNamed Bd.named
  have hnm := (name_of_methodNamed Bd.named Bd.method).1
  have X0 : Stand p l e (⟨0, 0, 0, 0⟩ : Room) s m #[(.ref a0), (.int 0), (.int p2)] below meth c s₁ [] 0 0 := Stand.of_body Bd
  have e0 : s₁.heap = h0 := by rw [← hh, Bd.state]; rfl
  have N0 := Fr.nil n0
  have pre0 : PT p e below (s₁.setTop (mkF m 0 #[vr a0, vi 0, vi p2] [])) (s₁.setTop (entryFrame m #[(.ref a0), (.int 0), (.int p2)] 3)) := fun t k => castTop (own_ef_put4_0 m a0 p2) k
  obtain ⟨T305, X305, e305, st305⟩ := getS2 X0 hx hZ hown (host := "") (Or.inl (ow hw 101 rfl)) Via.refl e0 S_ad (g := (mkF m 0 #[vr a0, vi 0, vi p2] [])) rfl (hb hby od121)
  obtain ⟨T306, X306, e306, st306⟩ := getS2 X305 hx hZ hown (host := "") (Or.inl (ow hw 102 rfl)) Via.refl e305 S_hi (g := (mkF m 38 #[vr a0, vi (((0 : Int32) <<< ((1 : Int32) &&& 31)) + (1 : Int32)), vi p2] [(.int p2), (.int ((0 : Int32) <<< ((1 : Int32) &&& 31))), (.ref a0)])) rfl (hb hby od131)
  have Vc307 := VB
  obtain ⟨cl307, Ar307, q307, S307, N_307, H307, G307⟩ := Vc307
  have hin307 : ¬ (((0 : Int32) <<< ((1 : Int32) &&& 31)) < 0 ∨ cl307.slots.size ≤ (((0 : Int32) <<< ((1 : Int32) &&& 31))).toNatClampNeg) := inb_of S307 ⟨by decide, by decide⟩
  obtain ⟨T308, h308, X308, e308, W308, st308⟩ := stB X306 hx hZ e306 Ar307 (j := ((0 : Int32) <<< ((1 : Int32) &&& 31))) hin307 (g := (mkF m 43 #[vr a0, vi (((0 : Int32) <<< ((1 : Int32) &&& 31)) + (1 : Int32)), vi p2] [(.int ((p2 >>> ((0 : Int32) &&& 31)).toInt8.toInt32)), (.int ((0 : Int32) <<< ((1 : Int32) &&& 31))), (.ref a0)])) rfl rfl (hb hby od134)
  have V_a0_308 : Arv Z h308 a0 kb1 .byte (8 : Int32) [(.int (nar .byte ((p2 >>> ((0 : Int32) &&& 31)).toInt8.toInt32))), (.int x1), (.int x2), (.int x3), (.int x4), (.int x5), (.int x6), (.int x7)] (.int 0) := Arv.set Ar307 q307 S307 N_307 H307 G307 (fits_nar_byte _) W308 0 rfl (Nat.le_of_ble_eq_true rfl)
  have N308 := Fr.snoc X308 N0 g0
  have KP308 : Keep h0 h308 [a0] := (Keep.refl h0 [a0]).wr W308 (Or.inl (List.mem_of_getElem? (i := 0) rfl))
  have SZ308 : h0.size ≤ h308.size := KP308.1
  have Z308 : n0 ≤ h308.size := Nat.le_trans Z0 SZ308
  obtain ⟨T309, X309, e309, st309⟩ := getS2 X308 hx hZ hown (host := "") (Or.inl (ow hw 103 rfl)) Via.refl e308 (S_lo.wr W308) (g := (mkF m 47 #[vr a0, vi (((0 : Int32) <<< ((1 : Int32) &&& 31)) + (1 : Int32)), vi p2] [(.int p2), (.int (((0 : Int32) <<< ((1 : Int32) &&& 31)) + (1 : Int32))), (.ref a0)])) rfl (hb hby od138)
  have Vc310 := V_a0_308
  obtain ⟨cl310, Ar310, q310, S310, N_310, H310, G310⟩ := Vc310
  have hin310 : ¬ ((((0 : Int32) <<< ((1 : Int32) &&& 31)) + (1 : Int32)) < 0 ∨ cl310.slots.size ≤ ((((0 : Int32) <<< ((1 : Int32) &&& 31)) + (1 : Int32))).toNatClampNeg) := inb_of S310 ⟨by decide, by decide⟩
  obtain ⟨T311, h311, X311, e311, W311, st311⟩ := stB X309 hx hZ e309 Ar310 (j := (((0 : Int32) <<< ((1 : Int32) &&& 31)) + (1 : Int32))) hin310 (g := (mkF m 52 #[vr a0, vi (((0 : Int32) <<< ((1 : Int32) &&& 31)) + (1 : Int32)), vi p2] [(.int ((p2 >>> ((8 : Int32) &&& 31)).toInt8.toInt32)), (.int (((0 : Int32) <<< ((1 : Int32) &&& 31)) + (1 : Int32))), (.ref a0)])) rfl rfl (hb hby od141)
  have V_a0_311 : Arv Z h311 a0 kb1 .byte (8 : Int32) [(.int (nar .byte ((p2 >>> ((0 : Int32) &&& 31)).toInt8.toInt32))), (.int (nar .byte ((p2 >>> ((8 : Int32) &&& 31)).toInt8.toInt32))), (.int x2), (.int x3), (.int x4), (.int x5), (.int x6), (.int x7)] (.int 0) := Arv.set Ar310 q310 S310 N_310 H310 G310 (fits_nar_byte _) W311 1 rfl (Nat.le_of_ble_eq_true rfl)
  have N311 := Fr.snoc X311 N308 g0
  have KP311 : Keep h0 h311 [a0] := KP308.wr W311 (Or.inl (List.mem_of_getElem? (i := 0) rfl))
  have SZ311 : h0.size ≤ h311.size := KP311.1
  have Z311 : n0 ≤ h311.size := Nat.le_trans Z0 SZ311
  obtain ⟨fs, hr, hrun, hended, hW, hsame⟩ := X311.leave (v := none) (fun _ => rfl)
  refine ⟨_, _, pre0 _ ?_, hrun, hended, _, _, rfl, ?_, ⟨_, rfl⟩, hW, hsame.mono (by decide) (by decide)⟩
  · show Steps p.tables e below (s₁.setTop (mkF m 0 #[vr a0, vi 0, vi p2] [])) _
    refine st305 _ ?_
    refine XS.ifYes X305.here hx rfl (pc0 := 3) (pc' := 28) rfl (hb hby od122) rfl ((if0 _ _).trans (feq (by decide : ¬ ((1 : Int32) = (0 : Int32)))).2) (by decide) (by decide) ?_
    refine XS.iloadN X305.here hx rfl (hb hby od123) rfl ?_
    refine XS.iconst X305.here hx rfl (hb hby od124) ?_
    refine XS.ishl X305.here hx rfl (hb hby od125) rfl ?_
    refine XS.istoreN X305.here hx rfl (hb hby od126) rfl (l' := #[vr a0, vi ((0 : Int32) <<< ((1 : Int32) &&& 31)), vi p2]) rfl ?_
    refine XS.aloadN X305.here hx rfl (hb hby od127) rfl rfl ?_
    refine XS.iloadN X305.here hx rfl (hb hby od128) rfl ?_
    refine XS.iinc X305.here hx rfl (hb hby od129) rfl (l' := #[vr a0, vi (((0 : Int32) <<< ((1 : Int32) &&& 31)) + (1 : Int32)), vi p2]) rfl ?_
    refine XS.iloadN X305.here hx rfl (hb hby od130) rfl ?_
    refine st306 _ ?_
    refine XS.ishr X306.here hx rfl (hb hby od132) rfl ?_
    refine XS.i2b X306.here hx rfl (hb hby od133) rfl ?_
    refine st308 _ ?_
    refine XS.aloadN X308.here hx rfl (hb hby od135) rfl rfl ?_
    refine XS.iloadN X308.here hx rfl (hb hby od136) rfl ?_
    refine XS.iloadN X308.here hx rfl (hb hby od137) rfl ?_
    refine st309 _ ?_
    refine XS.ishr X309.here hx rfl (hb hby od139) rfl ?_
    refine XS.i2b X309.here hx rfl (hb hby od140) rfl ?_
    refine st311 _ ?_
    exact X311.returnOut hx Bd.returns (hb hby od142) hr
  · show Q_put4_0 Z a0 p2 kb1 x0 x1 x2 x3 x4 x5 x6 x7 h0 n0 _ T311.heap _
    rw [e311]
    exact ⟨rfl, N311, KP311, V_a0_311⟩
theorem own_ef_put4_1 (m : MethodId) (a0 : Addr) (p2 : Int32) : entryFrame m #[(.ref a0), (.int 1), (.int p2)] 3 = mkF m 0 #[vr a0, vi 1, vi p2] [] := by first | (simp [entryFrame, mkF, argsToLocals, Value.category]; done) | rfl
def Q_put4_1 (Z : State) (a0 : Addr) (p2 : Int32) (kb1 : ClassId) (x0 : Int32) (x1 : Int32) (x2 : Int32) (x3 : Int32) (x4 : Int32) (x5 : Int32) (x6 : Int32) (x7 : Int32) (h0 : Heap) (n0 : Nat) (v : Option Value) (h : Heap) (L : List Loc) : Prop := v = none ∧ Fr n0 L ∧ Keep h0 h [a0] ∧ Arv Z h a0 kb1 .byte (8 : Int32) [(.int x0), (.int x1), (.int (nar .byte ((p2 >>> ((0 : Int32) &&& 31)).toInt8.toInt32))), (.int (nar .byte ((p2 >>> ((8 : Int32) &&& 31)).toInt8.toInt32))), (.int x4), (.int x5), (.int x6), (.int x7)] (.int 0)
theorem rm_put4_1 (l : Launch) (Z : State) (a0' : Array Value) (hw : ∀ d ∈ tables_1, d.before a0' Z = true) (ws : List Jvm.Cond) (a0 : Addr) (p2 : Int32) (kb1 : ClassId) (x0 : Int32) (x1 : Int32) (x2 : Int32) (x3 : Int32) (x4 : Int32) (x5 : Int32) (x6 : Int32) (x7 : Int32) (h0 : Heap) (n0 : Nat) (Z0 : n0 ≤ h0.size) (VB : Arv Z h0 a0 kb1 .byte (8 : Int32) [(.int x0), (.int x1), (.int x2), (.int x3), (.int x4), (.int x5), (.int x6), (.int x7)] (.int 0)) (g0 : n0 ≤ a0) (S_ad : Sta Z h0 "java/lang/StringUTF16" "$assertionsDisabled" "Z" (.int 1)) (S_hi : Sta Z h0 "java/lang/StringUTF16" "HI_BYTE_SHIFT" "I" (.int 0)) (S_lo : Sta Z h0 "java/lang/StringUTF16" "LO_BYTE_SHIFT" "I" (.int 8)) :
    MF l nm14 jdk_52_method_4_code 3 none ws (⟨0, 0, 0, 0⟩ : Room) #[(.ref a0), (.int 1), (.int p2)] Z h0 (Q_put4_1 Z a0 p2 kb1 x0 x1 x2 x3 x4 x5 x6 x7 h0 n0) := by
  refine MetFree.of_bodySF (plainFor_of_name own_pn3) hisR ?_
  intro p e s m args below meth c s₁ Bd hml0 hP hK
  obtain ⟨rfl, hZ, hh⟩ := hP
  have hx := Bd.exec
  have hby := Bd.bytes
  have hml : c.maxLocals = 3 := hml0
  have hown : s.vm.findClass "java/lang/StringUTF16" = some m.cls := findClass_of_methodNamed Bd.named
  have hnm := (name_of_methodNamed Bd.named Bd.method).1
  have X0 : Stand p l e (⟨0, 0, 0, 0⟩ : Room) s m #[(.ref a0), (.int 1), (.int p2)] below meth c s₁ [] 0 0 := Stand.of_body Bd
  have e0 : s₁.heap = h0 := by rw [← hh, Bd.state]; rfl
  have N0 := Fr.nil n0
  have pre0 : PT p e below (s₁.setTop (mkF m 0 #[vr a0, vi 1, vi p2] [])) (s₁.setTop (entryFrame m #[(.ref a0), (.int 1), (.int p2)] 3)) := fun t k => castTop (own_ef_put4_1 m a0 p2) k
  obtain ⟨T312, X312, e312, st312⟩ := getS2 X0 hx hZ hown (host := "") (Or.inl (ow hw 101 rfl)) Via.refl e0 S_ad (g := (mkF m 0 #[vr a0, vi 1, vi p2] [])) rfl (hb hby od121)
  obtain ⟨T313, X313, e313, st313⟩ := getS2 X312 hx hZ hown (host := "") (Or.inl (ow hw 102 rfl)) Via.refl e312 S_hi (g := (mkF m 38 #[vr a0, vi (((1 : Int32) <<< ((1 : Int32) &&& 31)) + (1 : Int32)), vi p2] [(.int p2), (.int ((1 : Int32) <<< ((1 : Int32) &&& 31))), (.ref a0)])) rfl (hb hby od131)
  have Vc314 := VB
  obtain ⟨cl314, Ar314, q314, S314, N_314, H314, G314⟩ := Vc314
  have hin314 : ¬ (((1 : Int32) <<< ((1 : Int32) &&& 31)) < 0 ∨ cl314.slots.size ≤ (((1 : Int32) <<< ((1 : Int32) &&& 31))).toNatClampNeg) := inb_of S314 ⟨by decide, by decide⟩
  obtain ⟨T315, h315, X315, e315, W315, st315⟩ := stB X313 hx hZ e313 Ar314 (j := ((1 : Int32) <<< ((1 : Int32) &&& 31))) hin314 (g := (mkF m 43 #[vr a0, vi (((1 : Int32) <<< ((1 : Int32) &&& 31)) + (1 : Int32)), vi p2] [(.int ((p2 >>> ((0 : Int32) &&& 31)).toInt8.toInt32)), (.int ((1 : Int32) <<< ((1 : Int32) &&& 31))), (.ref a0)])) rfl rfl (hb hby od134)
  have V_a0_315 : Arv Z h315 a0 kb1 .byte (8 : Int32) [(.int x0), (.int x1), (.int (nar .byte ((p2 >>> ((0 : Int32) &&& 31)).toInt8.toInt32))), (.int x3), (.int x4), (.int x5), (.int x6), (.int x7)] (.int 0) := Arv.set Ar314 q314 S314 N_314 H314 G314 (fits_nar_byte _) W315 2 rfl (Nat.le_of_ble_eq_true rfl)
  have N315 := Fr.snoc X315 N0 g0
  have KP315 : Keep h0 h315 [a0] := (Keep.refl h0 [a0]).wr W315 (Or.inl (List.mem_of_getElem? (i := 0) rfl))
  have SZ315 : h0.size ≤ h315.size := KP315.1
  have Z315 : n0 ≤ h315.size := Nat.le_trans Z0 SZ315
  obtain ⟨T316, X316, e316, st316⟩ := getS2 X315 hx hZ hown (host := "") (Or.inl (ow hw 103 rfl)) Via.refl e315 (S_lo.wr W315) (g := (mkF m 47 #[vr a0, vi (((1 : Int32) <<< ((1 : Int32) &&& 31)) + (1 : Int32)), vi p2] [(.int p2), (.int (((1 : Int32) <<< ((1 : Int32) &&& 31)) + (1 : Int32))), (.ref a0)])) rfl (hb hby od138)
  have Vc317 := V_a0_315
  obtain ⟨cl317, Ar317, q317, S317, N_317, H317, G317⟩ := Vc317
  have hin317 : ¬ ((((1 : Int32) <<< ((1 : Int32) &&& 31)) + (1 : Int32)) < 0 ∨ cl317.slots.size ≤ ((((1 : Int32) <<< ((1 : Int32) &&& 31)) + (1 : Int32))).toNatClampNeg) := inb_of S317 ⟨by decide, by decide⟩
  obtain ⟨T318, h318, X318, e318, W318, st318⟩ := stB X316 hx hZ e316 Ar317 (j := (((1 : Int32) <<< ((1 : Int32) &&& 31)) + (1 : Int32))) hin317 (g := (mkF m 52 #[vr a0, vi (((1 : Int32) <<< ((1 : Int32) &&& 31)) + (1 : Int32)), vi p2] [(.int ((p2 >>> ((8 : Int32) &&& 31)).toInt8.toInt32)), (.int (((1 : Int32) <<< ((1 : Int32) &&& 31)) + (1 : Int32))), (.ref a0)])) rfl rfl (hb hby od141)
  have V_a0_318 : Arv Z h318 a0 kb1 .byte (8 : Int32) [(.int x0), (.int x1), (.int (nar .byte ((p2 >>> ((0 : Int32) &&& 31)).toInt8.toInt32))), (.int (nar .byte ((p2 >>> ((8 : Int32) &&& 31)).toInt8.toInt32))), (.int x4), (.int x5), (.int x6), (.int x7)] (.int 0) := Arv.set Ar317 q317 S317 N_317 H317 G317 (fits_nar_byte _) W318 3 rfl (Nat.le_of_ble_eq_true rfl)
  have N318 := Fr.snoc X318 N315 g0
  have KP318 : Keep h0 h318 [a0] := KP315.wr W318 (Or.inl (List.mem_of_getElem? (i := 0) rfl))
  have SZ318 : h0.size ≤ h318.size := KP318.1
  have Z318 : n0 ≤ h318.size := Nat.le_trans Z0 SZ318
  obtain ⟨fs, hr, hrun, hended, hW, hsame⟩ := X318.leave (v := none) (fun _ => rfl)
  refine ⟨_, _, pre0 _ ?_, hrun, hended, _, _, rfl, ?_, ⟨_, rfl⟩, hW, hsame.mono (by decide) (by decide)⟩
  · show Steps p.tables e below (s₁.setTop (mkF m 0 #[vr a0, vi 1, vi p2] [])) _
    refine st312 _ ?_
    refine XS.ifYes X312.here hx rfl (pc0 := 3) (pc' := 28) rfl (hb hby od122) rfl ((if0 _ _).trans (feq (by decide : ¬ ((1 : Int32) = (0 : Int32)))).2) (by decide) (by decide) ?_
    refine XS.iloadN X312.here hx rfl (hb hby od123) rfl ?_
    refine XS.iconst X312.here hx rfl (hb hby od124) ?_
    refine XS.ishl X312.here hx rfl (hb hby od125) rfl ?_
    refine XS.istoreN X312.here hx rfl (hb hby od126) rfl (l' := #[vr a0, vi ((1 : Int32) <<< ((1 : Int32) &&& 31)), vi p2]) rfl ?_
    refine XS.aloadN X312.here hx rfl (hb hby od127) rfl rfl ?_
    refine XS.iloadN X312.here hx rfl (hb hby od128) rfl ?_
    refine XS.iinc X312.here hx rfl (hb hby od129) rfl (l' := #[vr a0, vi (((1 : Int32) <<< ((1 : Int32) &&& 31)) + (1 : Int32)), vi p2]) rfl ?_
    refine XS.iloadN X312.here hx rfl (hb hby od130) rfl ?_
    refine st313 _ ?_
    refine XS.ishr X313.here hx rfl (hb hby od132) rfl ?_
    refine XS.i2b X313.here hx rfl (hb hby od133) rfl ?_
    refine st315 _ ?_
    refine XS.aloadN X315.here hx rfl (hb hby od135) rfl rfl ?_
    refine XS.iloadN X315.here hx rfl (hb hby od136) rfl ?_
    refine XS.iloadN X315.here hx rfl (hb hby od137) rfl ?_
    refine st316 _ ?_
    refine XS.ishr X316.here hx rfl (hb hby od139) rfl ?_
    refine XS.i2b X316.here hx rfl (hb hby od140) rfl ?_
    refine st318 _ ?_
    exact X318.returnOut hx Bd.returns (hb hby od142) hr
  · show Q_put4_1 Z a0 p2 kb1 x0 x1 x2 x3 x4 x5 x6 x7 h0 n0 _ T318.heap _
    rw [e318]
    exact ⟨rfl, N318, KP318, V_a0_318⟩
theorem own_ef_put4_2 (m : MethodId) (a0 : Addr) (p2 : Int32) : entryFrame m #[(.ref a0), (.int 2), (.int p2)] 3 = mkF m 0 #[vr a0, vi 2, vi p2] [] := by first | (simp [entryFrame, mkF, argsToLocals, Value.category]; done) | rfl
def Q_put4_2 (Z : State) (a0 : Addr) (p2 : Int32) (kb1 : ClassId) (x0 : Int32) (x1 : Int32) (x2 : Int32) (x3 : Int32) (x4 : Int32) (x5 : Int32) (x6 : Int32) (x7 : Int32) (h0 : Heap) (n0 : Nat) (v : Option Value) (h : Heap) (L : List Loc) : Prop := v = none ∧ Fr n0 L ∧ Keep h0 h [a0] ∧ Arv Z h a0 kb1 .byte (8 : Int32) [(.int x0), (.int x1), (.int x2), (.int x3), (.int (nar .byte ((p2 >>> ((0 : Int32) &&& 31)).toInt8.toInt32))), (.int (nar .byte ((p2 >>> ((8 : Int32) &&& 31)).toInt8.toInt32))), (.int x6), (.int x7)] (.int 0)
theorem rm_put4_2 (l : Launch) (Z : State) (a0' : Array Value) (hw : ∀ d ∈ tables_1, d.before a0' Z = true) (ws : List Jvm.Cond) (a0 : Addr) (p2 : Int32) (kb1 : ClassId) (x0 : Int32) (x1 : Int32) (x2 : Int32) (x3 : Int32) (x4 : Int32) (x5 : Int32) (x6 : Int32) (x7 : Int32) (h0 : Heap) (n0 : Nat) (Z0 : n0 ≤ h0.size) (VB : Arv Z h0 a0 kb1 .byte (8 : Int32) [(.int x0), (.int x1), (.int x2), (.int x3), (.int x4), (.int x5), (.int x6), (.int x7)] (.int 0)) (g0 : n0 ≤ a0) (S_ad : Sta Z h0 "java/lang/StringUTF16" "$assertionsDisabled" "Z" (.int 1)) (S_hi : Sta Z h0 "java/lang/StringUTF16" "HI_BYTE_SHIFT" "I" (.int 0)) (S_lo : Sta Z h0 "java/lang/StringUTF16" "LO_BYTE_SHIFT" "I" (.int 8)) :
    MF l nm14 jdk_52_method_4_code 3 none ws (⟨0, 0, 0, 0⟩ : Room) #[(.ref a0), (.int 2), (.int p2)] Z h0 (Q_put4_2 Z a0 p2 kb1 x0 x1 x2 x3 x4 x5 x6 x7 h0 n0) := by
  refine MetFree.of_bodySF (plainFor_of_name own_pn3) hisR ?_
  intro p e s m args below meth c s₁ Bd hml0 hP hK
  obtain ⟨rfl, hZ, hh⟩ := hP
  have hx := Bd.exec
  have hby := Bd.bytes
  have hml : c.maxLocals = 3 := hml0
  have hown : s.vm.findClass "java/lang/StringUTF16" = some m.cls := findClass_of_methodNamed Bd.named
  have hnm := (name_of_methodNamed Bd.named Bd.method).1
  have X0 : Stand p l e (⟨0, 0, 0, 0⟩ : Room) s m #[(.ref a0), (.int 2), (.int p2)] below meth c s₁ [] 0 0 := Stand.of_body Bd
  have e0 : s₁.heap = h0 := by rw [← hh, Bd.state]; rfl
  have N0 := Fr.nil n0
  have pre0 : PT p e below (s₁.setTop (mkF m 0 #[vr a0, vi 2, vi p2] [])) (s₁.setTop (entryFrame m #[(.ref a0), (.int 2), (.int p2)] 3)) := fun t k => castTop (own_ef_put4_2 m a0 p2) k
  obtain ⟨T319, X319, e319, st319⟩ := getS2 X0 hx hZ hown (host := "") (Or.inl (ow hw 101 rfl)) Via.refl e0 S_ad (g := (mkF m 0 #[vr a0, vi 2, vi p2] [])) rfl (hb hby od121)
  obtain ⟨T320, X320, e320, st320⟩ := getS2 X319 hx hZ hown (host := "") (Or.inl (ow hw 102 rfl)) Via.refl e319 S_hi (g := (mkF m 38 #[vr a0, vi (((2 : Int32) <<< ((1 : Int32) &&& 31)) + (1 : Int32)), vi p2] [(.int p2), (.int ((2 : Int32) <<< ((1 : Int32) &&& 31))), (.ref a0)])) rfl (hb hby od131)
  have Vc321 := VB
  obtain ⟨cl321, Ar321, q321, S321, N_321, H321, G321⟩ := Vc321
  have hin321 : ¬ (((2 : Int32) <<< ((1 : Int32) &&& 31)) < 0 ∨ cl321.slots.size ≤ (((2 : Int32) <<< ((1 : Int32) &&& 31))).toNatClampNeg) := inb_of S321 ⟨by decide, by decide⟩
  obtain ⟨T322, h322, X322, e322, W322, st322⟩ := stB X320 hx hZ e320 Ar321 (j := ((2 : Int32) <<< ((1 : Int32) &&& 31))) hin321 (g := (mkF m 43 #[vr a0, vi (((2 : Int32) <<< ((1 : Int32) &&& 31)) + (1 : Int32)), vi p2] [(.int ((p2 >>> ((0 : Int32) &&& 31)).toInt8.toInt32)), (.int ((2 : Int32) <<< ((1 : Int32) &&& 31))), (.ref a0)])) rfl rfl (hb hby od134)
  have V_a0_322 : Arv Z h322 a0 kb1 .byte (8 : Int32) [(.int x0), (.int x1), (.int x2), (.int x3), (.int (nar .byte ((p2 >>> ((0 : Int32) &&& 31)).toInt8.toInt32))), (.int x5), (.int x6), (.int x7)] (.int 0) := Arv.set Ar321 q321 S321 N_321 H321 G321 (fits_nar_byte _) W322 4 rfl (Nat.le_of_ble_eq_true rfl)
  have N322 := Fr.snoc X322 N0 g0
  have KP322 : Keep h0 h322 [a0] := (Keep.refl h0 [a0]).wr W322 (Or.inl (List.mem_of_getElem? (i := 0) rfl))
  have SZ322 : h0.size ≤ h322.size := KP322.1
  have Z322 : n0 ≤ h322.size := Nat.le_trans Z0 SZ322
  obtain ⟨T323, X323, e323, st323⟩ := getS2 X322 hx hZ hown (host := "") (Or.inl (ow hw 103 rfl)) Via.refl e322 (S_lo.wr W322) (g := (mkF m 47 #[vr a0, vi (((2 : Int32) <<< ((1 : Int32) &&& 31)) + (1 : Int32)), vi p2] [(.int p2), (.int (((2 : Int32) <<< ((1 : Int32) &&& 31)) + (1 : Int32))), (.ref a0)])) rfl (hb hby od138)
  have Vc324 := V_a0_322
  obtain ⟨cl324, Ar324, q324, S324, N_324, H324, G324⟩ := Vc324
  have hin324 : ¬ ((((2 : Int32) <<< ((1 : Int32) &&& 31)) + (1 : Int32)) < 0 ∨ cl324.slots.size ≤ ((((2 : Int32) <<< ((1 : Int32) &&& 31)) + (1 : Int32))).toNatClampNeg) := inb_of S324 ⟨by decide, by decide⟩
  obtain ⟨T325, h325, X325, e325, W325, st325⟩ := stB X323 hx hZ e323 Ar324 (j := (((2 : Int32) <<< ((1 : Int32) &&& 31)) + (1 : Int32))) hin324 (g := (mkF m 52 #[vr a0, vi (((2 : Int32) <<< ((1 : Int32) &&& 31)) + (1 : Int32)), vi p2] [(.int ((p2 >>> ((8 : Int32) &&& 31)).toInt8.toInt32)), (.int (((2 : Int32) <<< ((1 : Int32) &&& 31)) + (1 : Int32))), (.ref a0)])) rfl rfl (hb hby od141)
  have V_a0_325 : Arv Z h325 a0 kb1 .byte (8 : Int32) [(.int x0), (.int x1), (.int x2), (.int x3), (.int (nar .byte ((p2 >>> ((0 : Int32) &&& 31)).toInt8.toInt32))), (.int (nar .byte ((p2 >>> ((8 : Int32) &&& 31)).toInt8.toInt32))), (.int x6), (.int x7)] (.int 0) := Arv.set Ar324 q324 S324 N_324 H324 G324 (fits_nar_byte _) W325 5 rfl (Nat.le_of_ble_eq_true rfl)
  have N325 := Fr.snoc X325 N322 g0
  have KP325 : Keep h0 h325 [a0] := KP322.wr W325 (Or.inl (List.mem_of_getElem? (i := 0) rfl))
  have SZ325 : h0.size ≤ h325.size := KP325.1
  have Z325 : n0 ≤ h325.size := Nat.le_trans Z0 SZ325
  obtain ⟨fs, hr, hrun, hended, hW, hsame⟩ := X325.leave (v := none) (fun _ => rfl)
  refine ⟨_, _, pre0 _ ?_, hrun, hended, _, _, rfl, ?_, ⟨_, rfl⟩, hW, hsame.mono (by decide) (by decide)⟩
  · show Steps p.tables e below (s₁.setTop (mkF m 0 #[vr a0, vi 2, vi p2] [])) _
    refine st319 _ ?_
    refine XS.ifYes X319.here hx rfl (pc0 := 3) (pc' := 28) rfl (hb hby od122) rfl ((if0 _ _).trans (feq (by decide : ¬ ((1 : Int32) = (0 : Int32)))).2) (by decide) (by decide) ?_
    refine XS.iloadN X319.here hx rfl (hb hby od123) rfl ?_
    refine XS.iconst X319.here hx rfl (hb hby od124) ?_
    refine XS.ishl X319.here hx rfl (hb hby od125) rfl ?_
    refine XS.istoreN X319.here hx rfl (hb hby od126) rfl (l' := #[vr a0, vi ((2 : Int32) <<< ((1 : Int32) &&& 31)), vi p2]) rfl ?_
    refine XS.aloadN X319.here hx rfl (hb hby od127) rfl rfl ?_
    refine XS.iloadN X319.here hx rfl (hb hby od128) rfl ?_
    refine XS.iinc X319.here hx rfl (hb hby od129) rfl (l' := #[vr a0, vi (((2 : Int32) <<< ((1 : Int32) &&& 31)) + (1 : Int32)), vi p2]) rfl ?_
    refine XS.iloadN X319.here hx rfl (hb hby od130) rfl ?_
    refine st320 _ ?_
    refine XS.ishr X320.here hx rfl (hb hby od132) rfl ?_
    refine XS.i2b X320.here hx rfl (hb hby od133) rfl ?_
    refine st322 _ ?_
    refine XS.aloadN X322.here hx rfl (hb hby od135) rfl rfl ?_
    refine XS.iloadN X322.here hx rfl (hb hby od136) rfl ?_
    refine XS.iloadN X322.here hx rfl (hb hby od137) rfl ?_
    refine st323 _ ?_
    refine XS.ishr X323.here hx rfl (hb hby od139) rfl ?_
    refine XS.i2b X323.here hx rfl (hb hby od140) rfl ?_
    refine st325 _ ?_
    exact X325.returnOut hx Bd.returns (hb hby od142) hr
  · show Q_put4_2 Z a0 p2 kb1 x0 x1 x2 x3 x4 x5 x6 x7 h0 n0 _ T325.heap _
    rw [e325]
    exact ⟨rfl, N325, KP325, V_a0_325⟩
theorem own_ef_put4_3 (m : MethodId) (a0 : Addr) (p2 : Int32) : entryFrame m #[(.ref a0), (.int 3), (.int p2)] 3 = mkF m 0 #[vr a0, vi 3, vi p2] [] := by first | (simp [entryFrame, mkF, argsToLocals, Value.category]; done) | rfl
def Q_put4_3 (Z : State) (a0 : Addr) (p2 : Int32) (kb1 : ClassId) (x0 : Int32) (x1 : Int32) (x2 : Int32) (x3 : Int32) (x4 : Int32) (x5 : Int32) (x6 : Int32) (x7 : Int32) (h0 : Heap) (n0 : Nat) (v : Option Value) (h : Heap) (L : List Loc) : Prop := v = none ∧ Fr n0 L ∧ Keep h0 h [a0] ∧ Arv Z h a0 kb1 .byte (8 : Int32) [(.int x0), (.int x1), (.int x2), (.int x3), (.int x4), (.int x5), (.int (nar .byte ((p2 >>> ((0 : Int32) &&& 31)).toInt8.toInt32))), (.int (nar .byte ((p2 >>> ((8 : Int32) &&& 31)).toInt8.toInt32)))] (.int 0)
theorem rm_put4_3 (l : Launch) (Z : State) (a0' : Array Value) (hw : ∀ d ∈ tables_1, d.before a0' Z = true) (ws : List Jvm.Cond) (a0 : Addr) (p2 : Int32) (kb1 : ClassId) (x0 : Int32) (x1 : Int32) (x2 : Int32) (x3 : Int32) (x4 : Int32) (x5 : Int32) (x6 : Int32) (x7 : Int32) (h0 : Heap) (n0 : Nat) (Z0 : n0 ≤ h0.size) (VB : Arv Z h0 a0 kb1 .byte (8 : Int32) [(.int x0), (.int x1), (.int x2), (.int x3), (.int x4), (.int x5), (.int x6), (.int x7)] (.int 0)) (g0 : n0 ≤ a0) (S_ad : Sta Z h0 "java/lang/StringUTF16" "$assertionsDisabled" "Z" (.int 1)) (S_hi : Sta Z h0 "java/lang/StringUTF16" "HI_BYTE_SHIFT" "I" (.int 0)) (S_lo : Sta Z h0 "java/lang/StringUTF16" "LO_BYTE_SHIFT" "I" (.int 8)) :
    MF l nm14 jdk_52_method_4_code 3 none ws (⟨0, 0, 0, 0⟩ : Room) #[(.ref a0), (.int 3), (.int p2)] Z h0 (Q_put4_3 Z a0 p2 kb1 x0 x1 x2 x3 x4 x5 x6 x7 h0 n0) := by
  refine MetFree.of_bodySF (plainFor_of_name own_pn3) hisR ?_
  intro p e s m args below meth c s₁ Bd hml0 hP hK
  obtain ⟨rfl, hZ, hh⟩ := hP
  have hx := Bd.exec
  have hby := Bd.bytes
  have hml : c.maxLocals = 3 := hml0
  have hown : s.vm.findClass "java/lang/StringUTF16" = some m.cls := findClass_of_methodNamed Bd.named
  have hnm := (name_of_methodNamed Bd.named Bd.method).1
  have X0 : Stand p l e (⟨0, 0, 0, 0⟩ : Room) s m #[(.ref a0), (.int 3), (.int p2)] below meth c s₁ [] 0 0 := Stand.of_body Bd
  have e0 : s₁.heap = h0 := by rw [← hh, Bd.state]; rfl
  have N0 := Fr.nil n0
  have pre0 : PT p e below (s₁.setTop (mkF m 0 #[vr a0, vi 3, vi p2] [])) (s₁.setTop (entryFrame m #[(.ref a0), (.int 3), (.int p2)] 3)) := fun t k => castTop (own_ef_put4_3 m a0 p2) k
  obtain ⟨T326, X326, e326, st326⟩ := getS2 X0 hx hZ hown (host := "") (Or.inl (ow hw 101 rfl)) Via.refl e0 S_ad (g := (mkF m 0 #[vr a0, vi 3, vi p2] [])) rfl (hb hby od121)
  obtain ⟨T327, X327, e327, st327⟩ := getS2 X326 hx hZ hown (host := "") (Or.inl (ow hw 102 rfl)) Via.refl e326 S_hi (g := (mkF m 38 #[vr a0, vi (((3 : Int32) <<< ((1 : Int32) &&& 31)) + (1 : Int32)), vi p2] [(.int p2), (.int ((3 : Int32) <<< ((1 : Int32) &&& 31))), (.ref a0)])) rfl (hb hby od131)
  have Vc328 := VB
  obtain ⟨cl328, Ar328, q328, S328, N_328, H328, G328⟩ := Vc328
  have hin328 : ¬ (((3 : Int32) <<< ((1 : Int32) &&& 31)) < 0 ∨ cl328.slots.size ≤ (((3 : Int32) <<< ((1 : Int32) &&& 31))).toNatClampNeg) := inb_of S328 ⟨by decide, by decide⟩
  obtain ⟨T329, h329, X329, e329, W329, st329⟩ := stB X327 hx hZ e327 Ar328 (j := ((3 : Int32) <<< ((1 : Int32) &&& 31))) hin328 (g := (mkF m 43 #[vr a0, vi (((3 : Int32) <<< ((1 : Int32) &&& 31)) + (1 : Int32)), vi p2] [(.int ((p2 >>> ((0 : Int32) &&& 31)).toInt8.toInt32)), (.int ((3 : Int32) <<< ((1 : Int32) &&& 31))), (.ref a0)])) rfl rfl (hb hby od134)
  have V_a0_329 : Arv Z h329 a0 kb1 .byte (8 : Int32) [(.int x0), (.int x1), (.int x2), (.int x3), (.int x4), (.int x5), (.int (nar .byte ((p2 >>> ((0 : Int32) &&& 31)).toInt8.toInt32))), (.int x7)] (.int 0) := Arv.set Ar328 q328 S328 N_328 H328 G328 (fits_nar_byte _) W329 6 rfl (Nat.le_of_ble_eq_true rfl)
  have N329 := Fr.snoc X329 N0 g0
  have KP329 : Keep h0 h329 [a0] := (Keep.refl h0 [a0]).wr W329 (Or.inl (List.mem_of_getElem? (i := 0) rfl))
  have SZ329 : h0.size ≤ h329.size := KP329.1
  have Z329 : n0 ≤ h329.size := Nat.le_trans Z0 SZ329
  obtain ⟨T330, X330, e330, st330⟩ := getS2 X329 hx hZ hown (host := "") (Or.inl (ow hw 103 rfl)) Via.refl e329 (S_lo.wr W329) (g := (mkF m 47 #[vr a0, vi (((3 : Int32) <<< ((1 : Int32) &&& 31)) + (1 : Int32)), vi p2] [(.int p2), (.int (((3 : Int32) <<< ((1 : Int32) &&& 31)) + (1 : Int32))), (.ref a0)])) rfl (hb hby od138)
  have Vc331 := V_a0_329
  obtain ⟨cl331, Ar331, q331, S331, N_331, H331, G331⟩ := Vc331
  have hin331 : ¬ ((((3 : Int32) <<< ((1 : Int32) &&& 31)) + (1 : Int32)) < 0 ∨ cl331.slots.size ≤ ((((3 : Int32) <<< ((1 : Int32) &&& 31)) + (1 : Int32))).toNatClampNeg) := inb_of S331 ⟨by decide, by decide⟩
  obtain ⟨T332, h332, X332, e332, W332, st332⟩ := stB X330 hx hZ e330 Ar331 (j := (((3 : Int32) <<< ((1 : Int32) &&& 31)) + (1 : Int32))) hin331 (g := (mkF m 52 #[vr a0, vi (((3 : Int32) <<< ((1 : Int32) &&& 31)) + (1 : Int32)), vi p2] [(.int ((p2 >>> ((8 : Int32) &&& 31)).toInt8.toInt32)), (.int (((3 : Int32) <<< ((1 : Int32) &&& 31)) + (1 : Int32))), (.ref a0)])) rfl rfl (hb hby od141)
  have V_a0_332 : Arv Z h332 a0 kb1 .byte (8 : Int32) [(.int x0), (.int x1), (.int x2), (.int x3), (.int x4), (.int x5), (.int (nar .byte ((p2 >>> ((0 : Int32) &&& 31)).toInt8.toInt32))), (.int (nar .byte ((p2 >>> ((8 : Int32) &&& 31)).toInt8.toInt32)))] (.int 0) := Arv.set Ar331 q331 S331 N_331 H331 G331 (fits_nar_byte _) W332 7 rfl (Nat.le_of_ble_eq_true rfl)
  have N332 := Fr.snoc X332 N329 g0
  have KP332 : Keep h0 h332 [a0] := KP329.wr W332 (Or.inl (List.mem_of_getElem? (i := 0) rfl))
  have SZ332 : h0.size ≤ h332.size := KP332.1
  have Z332 : n0 ≤ h332.size := Nat.le_trans Z0 SZ332
  obtain ⟨fs, hr, hrun, hended, hW, hsame⟩ := X332.leave (v := none) (fun _ => rfl)
  refine ⟨_, _, pre0 _ ?_, hrun, hended, _, _, rfl, ?_, ⟨_, rfl⟩, hW, hsame.mono (by decide) (by decide)⟩
  · show Steps p.tables e below (s₁.setTop (mkF m 0 #[vr a0, vi 3, vi p2] [])) _
    refine st326 _ ?_
    refine XS.ifYes X326.here hx rfl (pc0 := 3) (pc' := 28) rfl (hb hby od122) rfl ((if0 _ _).trans (feq (by decide : ¬ ((1 : Int32) = (0 : Int32)))).2) (by decide) (by decide) ?_
    refine XS.iloadN X326.here hx rfl (hb hby od123) rfl ?_
    refine XS.iconst X326.here hx rfl (hb hby od124) ?_
    refine XS.ishl X326.here hx rfl (hb hby od125) rfl ?_
    refine XS.istoreN X326.here hx rfl (hb hby od126) rfl (l' := #[vr a0, vi ((3 : Int32) <<< ((1 : Int32) &&& 31)), vi p2]) rfl ?_
    refine XS.aloadN X326.here hx rfl (hb hby od127) rfl rfl ?_
    refine XS.iloadN X326.here hx rfl (hb hby od128) rfl ?_
    refine XS.iinc X326.here hx rfl (hb hby od129) rfl (l' := #[vr a0, vi (((3 : Int32) <<< ((1 : Int32) &&& 31)) + (1 : Int32)), vi p2]) rfl ?_
    refine XS.iloadN X326.here hx rfl (hb hby od130) rfl ?_
    refine st327 _ ?_
    refine XS.ishr X327.here hx rfl (hb hby od132) rfl ?_
    refine XS.i2b X327.here hx rfl (hb hby od133) rfl ?_
    refine st329 _ ?_
    refine XS.aloadN X329.here hx rfl (hb hby od135) rfl rfl ?_
    refine XS.iloadN X329.here hx rfl (hb hby od136) rfl ?_
    refine XS.iloadN X329.here hx rfl (hb hby od137) rfl ?_
    refine st330 _ ?_
    refine XS.ishr X330.here hx rfl (hb hby od139) rfl ?_
    refine XS.i2b X330.here hx rfl (hb hby od140) rfl ?_
    refine st332 _ ?_
    exact X332.returnOut hx Bd.returns (hb hby od142) hr
  · show Q_put4_3 Z a0 p2 kb1 x0 x1 x2 x3 x4 x5 x6 x7 h0 n0 _ T332.heap _
    rw [e332]
    exact ⟨rfl, N332, KP332, V_a0_332⟩
theorem own_ef_tob4 (m : MethodId) (a0 : Addr) : entryFrame m #[(.ref a0), (.int 0), (.int 4)] 5 = mkF m 0 #[vr a0, vi 0, vi 4, .unset, .unset] [] := by first | (simp [entryFrame, mkF, argsToLocals, Value.category]; done) | rfl
def Q_tob4 (Z : State) (a0 : Addr) (kc1 : ClassId) (c0 : Int32) (c1 : Int32) (c2 : Int32) (c3 : Int32) (h0 : Heap) (n0 : Nat) (v : Option Value) (h : Heap) (L : List Loc) : Prop := ∃ (r : Addr) (k : ClassId), v = some (.ref r) ∧ Fr n0 L ∧ Ext h0 h ∧ h0.size ≤ r ∧ Arv Z h r k .byte (8 : Int32) [(.int (nar .byte ((c0 >>> ((0 : Int32) &&& 31)).toInt8.toInt32))), (.int (nar .byte ((c0 >>> ((8 : Int32) &&& 31)).toInt8.toInt32))), (.int (nar .byte ((c1 >>> ((0 : Int32) &&& 31)).toInt8.toInt32))), (.int (nar .byte ((c1 >>> ((8 : Int32) &&& 31)).toInt8.toInt32))), (.int (nar .byte ((c2 >>> ((0 : Int32) &&& 31)).toInt8.toInt32))), (.int (nar .byte ((c2 >>> ((8 : Int32) &&& 31)).toInt8.toInt32))), (.int (nar .byte ((c3 >>> ((0 : Int32) &&& 31)).toInt8.toInt32))), (.int (nar .byte ((c3 >>> ((8 : Int32) &&& 31)).toInt8.toInt32)))] (.int 0)
theorem rm_tob4 (l : Launch) (Z : State) (a0' : Array Value) (hw : ∀ d ∈ tables_1, d.before a0' Z = true) (ws : List Jvm.Cond) (a0 : Addr) (kc1 : ClassId) (c0 : Int32) (c1 : Int32) (c2 : Int32) (c3 : Int32) (h0 : Heap) (n0 : Nat) (Z0 : n0 ≤ h0.size) (VA : Arv Z h0 a0 kc1 .char (4 : Int32) [(.int c0), (.int c1), (.int c2), (.int c3)] (.int 0)) (S_ad : Sta Z h0 "java/lang/StringUTF16" "$assertionsDisabled" "Z" (.int 1)) (S_hi : Sta Z h0 "java/lang/StringUTF16" "HI_BYTE_SHIFT" "I" (.int 0)) (S_lo : Sta Z h0 "java/lang/StringUTF16" "LO_BYTE_SHIFT" "I" (.int 8)) :
    MF l nm15 jdk_52_method_14_code 5 (some (.array .byte)) ws (⟨2, 1, 8, 24⟩ : Room) #[(.ref a0), (.int 0), (.int 4)] Z h0 (Q_tob4 Z a0 kc1 c0 c1 c2 c3 h0 n0) := by
  refine MetFree.of_bodySF (plainFor_of_name own_pn3) hisR ?_
  intro p e s m args below meth c s₁ Bd hml0 hP hK
  obtain ⟨rfl, hZ, hh⟩ := hP
  have hx := Bd.exec
  have hby := Bd.bytes
  have hml : c.maxLocals = 5 := hml0
  have hown : s.vm.findClass "java/lang/StringUTF16" = some m.cls := findClass_of_methodNamed Bd.named
  have hnm := (name_of_methodNamed Bd.named Bd.method).1
  have X0 : Stand p l e (⟨2, 1, 8, 24⟩ : Room) s m #[(.ref a0), (.int 0), (.int 4)] below meth c s₁ [] 0 0 := Stand.of_body Bd
  have e0 : s₁.heap = h0 := by rw [← hh, Bd.state]; rfl
  have N0 := Fr.nil n0
  have pre0 : PT p e below (s₁.setTop (mkF m 0 #[vr a0, vi 0, vi 4, .unset, .unset] [])) (s₁.setTop (entryFrame m #[(.ref a0), (.int 0), (.int 4)] 5)) := fun t k => castTop (own_ef_tob4 m a0) k
  obtain ⟨_, _, ⟨T333, L333, k333, n333⟩, -, X333, ⟨Lc333, hQ333, l333, y333, z333⟩, st333⟩ := Jvm.LawKit.callS X0 hx (y := nm13) hown (mvT hZ (ow hw 91 rfl)) (mvT hZ (ow hw 92 rfl)) (mvT hZ (ow hw 41 rfl)) (mvT hZ (ow hw 93 rfl)) (by decide) (backOf (W := 0) (rm_nbf4 l Z a0' hw []  h0 n0 Z0) hZ (ow hw 93 rfl) (ow hw 41 rfl) (by decide) (by decide)) (g := (mkF m 1 #[vr a0, vi 0, vi 4, .unset, .unset] [(.int 4)])) rfl (by rw [hml]; rfl) (argsL := [(.int 4)]) (rest := []) (lenOf own_pd8 rfl) rfl (by show 2 * 0 + _ ≤ _; exact Nat.le_of_eq rfl) (hb hby od144) (fun _ _ => ⟨rfl, e0, (by decide : 0 + 1 ≤ _), (by decide : 0 + 8 ≤ _)⟩)
  dsimp only [Pt.U, Pt.locs, Pt.cells, Pt.slots] at X333 l333 y333 z333 st333 hQ333
  subst l333 y333 z333
  obtain ⟨r333, kk333, rfl, N333q, E333, zz333, V333⟩ := hQ333
  have N333 := Fr.app N0 N333q
  have ne333_a0_r333 : a0 ≠ r333 := Nat.ne_of_lt (Nat.lt_of_lt_of_le VA.lt zz333)
  have g_r333 : n0 ≤ r333 := Nat.le_trans Z0 zz333
  have sz_r333 : h0.size ≤ r333 := Nat.le_trans (Nat.le_refl _) zz333
  have EX333 : Ext h0 T333.heap := E333
  have SZ333 : h0.size ≤ T333.heap.size := EX333.1
  have Z333 : n0 ≤ T333.heap.size := Nat.le_trans Z0 SZ333
  have fx334 := (VA.ext E333)
  have Vc335 := fx334
  obtain ⟨cl335, Ar335, q335, S335, N_335, H335, G335⟩ := Vc335
  have hin335 : ¬ ((0 : Int32) < 0 ∨ cl335.slots.size ≤ ((0 : Int32)).toNatClampNeg) := inb_of S335 ⟨by decide, by decide⟩
  have hat335 : cl335.slots[((0 : Int32)).toNatClampNeg]? = some (.int c0) := H335 0 (by rw [S335]; decide)
  obtain ⟨_, _, ⟨T336, L336, k336, n336⟩, -, X336, ⟨Lc336, hQ336, l336, y336, z336⟩, st336⟩ := Jvm.LawKit.callS X333 hx (y := nm14) hown (mvT hZ (ow hw 98 rfl)) (mvT hZ (ow hw 99 rfl)) (mvT hZ (ow hw 41 rfl)) (mvT hZ (ow hw 100 rfl)) (by decide) (backOf (W := 0) (rm_put4_0 l Z a0' hw [] r333 c0 kk333 (0 : Int32) (0 : Int32) (0 : Int32) (0 : Int32) (0 : Int32) (0 : Int32) (0 : Int32) (0 : Int32) T333.heap n0 Z333 V333 g_r333 (S_ad.ext EX333) (S_hi.ext EX333) (S_lo.ext EX333)) hZ (ow hw 100 rfl) (ow hw 41 rfl) (by decide) (by decide)) (g := (mkF m 20 #[vr a0, vi 0, vi 4, vr r333, vi 0] [(.int c0), (.int 0), (.ref r333)])) rfl (by rw [hml]; rfl) (argsL := [(.ref r333), (.int 0), (.int c0)]) (rest := []) (lenOf own_pd9 rfl) rfl (by show 2 * 0 + _ ≤ _; exact Nat.le_of_eq rfl) (hb hby od156) (fun _ _ => ⟨rfl, rfl, (by decide : 1 + 0 ≤ _), (by decide : 8 + 0 ≤ _)⟩)
  dsimp only [Pt.U, Pt.locs, Pt.cells, Pt.slots] at X336 l336 y336 z336 st336 hQ336
  subst l336 y336 z336
  obtain ⟨rfl, N336q, K336, V336⟩ := hQ336
  have N336 := Fr.app N333 N336q
  have EX336 : Ext h0 T336.heap := own_extkeep EX333 K336 sz_r333
  have SZ336 : h0.size ≤ T336.heap.size := EX336.1
  have Z336 : n0 ≤ T336.heap.size := Nat.le_trans Z0 SZ336
  have fx337 := (fx334.keep K336 (ninS ne333_a0_r333 nin0))
  have Vc338 := fx337
  obtain ⟨cl338, Ar338, q338, S338, N_338, H338, G338⟩ := Vc338
  have hin338 : ¬ (((0 : Int32) + (1 : Int32)) < 0 ∨ cl338.slots.size ≤ (((0 : Int32) + (1 : Int32))).toNatClampNeg) := inb_of S338 ⟨by decide, by decide⟩
  have hat338 : cl338.slots[(((0 : Int32) + (1 : Int32))).toNatClampNeg]? = some (.int c1) := H338 1 (by rw [S338]; decide)
  obtain ⟨_, _, ⟨T339, L339, k339, n339⟩, -, X339, ⟨Lc339, hQ339, l339, y339, z339⟩, st339⟩ := Jvm.LawKit.callS X336 hx (y := nm14) hown (mvT hZ (ow hw 98 rfl)) (mvT hZ (ow hw 99 rfl)) (mvT hZ (ow hw 41 rfl)) (mvT hZ (ow hw 100 rfl)) (by decide) (backOf (W := 0) (rm_put4_1 l Z a0' hw [] r333 c1 kk333 (nar .byte ((c0 >>> ((0 : Int32) &&& 31)).toInt8.toInt32)) (nar .byte ((c0 >>> ((8 : Int32) &&& 31)).toInt8.toInt32)) (0 : Int32) (0 : Int32) (0 : Int32) (0 : Int32) (0 : Int32) (0 : Int32) T336.heap n0 Z336 V336 g_r333 (S_ad.ext EX336) (S_hi.ext EX336) (S_lo.ext EX336)) hZ (ow hw 100 rfl) (ow hw 41 rfl) (by decide) (by decide)) (g := (mkF m 20 #[vr a0, vi ((0 : Int32) + (1 : Int32)), vi 4, vr r333, vi ((0 : Int32) + (1 : Int32))] [(.int c1), (.int ((0 : Int32) + (1 : Int32))), (.ref r333)])) rfl (by rw [hml]; rfl) (argsL := [(.ref r333), (.int ((0 : Int32) + (1 : Int32))), (.int c1)]) (rest := []) (lenOf own_pd9 rfl) rfl (by show 2 * 0 + _ ≤ _; exact Nat.le_of_eq rfl) (hb hby od156) (fun _ _ => ⟨rfl, rfl, (by decide : 1 + 0 ≤ _), (by decide : 8 + 0 ≤ _)⟩)
  dsimp only [Pt.U, Pt.locs, Pt.cells, Pt.slots] at X339 l339 y339 z339 st339 hQ339
  subst l339 y339 z339
  obtain ⟨rfl, N339q, K339, V339⟩ := hQ339
  have N339 := Fr.app N336 N339q
  have EX339 : Ext h0 T339.heap := own_extkeep EX336 K339 sz_r333
  have SZ339 : h0.size ≤ T339.heap.size := EX339.1
  have Z339 : n0 ≤ T339.heap.size := Nat.le_trans Z0 SZ339
  have fx340 := (fx337.keep K339 (ninS ne333_a0_r333 nin0))
  have Vc341 := fx340
  obtain ⟨cl341, Ar341, q341, S341, N_341, H341, G341⟩ := Vc341
  have hin341 : ¬ ((((0 : Int32) + (1 : Int32)) + (1 : Int32)) < 0 ∨ cl341.slots.size ≤ ((((0 : Int32) + (1 : Int32)) + (1 : Int32))).toNatClampNeg) := inb_of S341 ⟨by decide, by decide⟩
  have hat341 : cl341.slots[((((0 : Int32) + (1 : Int32)) + (1 : Int32))).toNatClampNeg]? = some (.int c2) := H341 2 (by rw [S341]; decide)
  obtain ⟨_, _, ⟨T342, L342, k342, n342⟩, -, X342, ⟨Lc342, hQ342, l342, y342, z342⟩, st342⟩ := Jvm.LawKit.callS X339 hx (y := nm14) hown (mvT hZ (ow hw 98 rfl)) (mvT hZ (ow hw 99 rfl)) (mvT hZ (ow hw 41 rfl)) (mvT hZ (ow hw 100 rfl)) (by decide) (backOf (W := 0) (rm_put4_2 l Z a0' hw [] r333 c2 kk333 (nar .byte ((c0 >>> ((0 : Int32) &&& 31)).toInt8.toInt32)) (nar .byte ((c0 >>> ((8 : Int32) &&& 31)).toInt8.toInt32)) (nar .byte ((c1 >>> ((0 : Int32) &&& 31)).toInt8.toInt32)) (nar .byte ((c1 >>> ((8 : Int32) &&& 31)).toInt8.toInt32)) (0 : Int32) (0 : Int32) (0 : Int32) (0 : Int32) T339.heap n0 Z339 V339 g_r333 (S_ad.ext EX339) (S_hi.ext EX339) (S_lo.ext EX339)) hZ (ow hw 100 rfl) (ow hw 41 rfl) (by decide) (by decide)) (g := (mkF m 20 #[vr a0, vi (((0 : Int32) + (1 : Int32)) + (1 : Int32)), vi 4, vr r333, vi (((0 : Int32) + (1 : Int32)) + (1 : Int32))] [(.int c2), (.int (((0 : Int32) + (1 : Int32)) + (1 : Int32))), (.ref r333)])) rfl (by rw [hml]; rfl) (argsL := [(.ref r333), (.int (((0 : Int32) + (1 : Int32)) + (1 : Int32))), (.int c2)]) (rest := []) (lenOf own_pd9 rfl) rfl (by show 2 * 0 + _ ≤ _; exact Nat.le_of_eq rfl) (hb hby od156) (fun _ _ => ⟨rfl, rfl, (by decide : 1 + 0 ≤ _), (by decide : 8 + 0 ≤ _)⟩)
  dsimp only [Pt.U, Pt.locs, Pt.cells, Pt.slots] at X342 l342 y342 z342 st342 hQ342
  subst l342 y342 z342
  obtain ⟨rfl, N342q, K342, V342⟩ := hQ342
  have N342 := Fr.app N339 N342q
  have EX342 : Ext h0 T342.heap := own_extkeep EX339 K342 sz_r333
  have SZ342 : h0.size ≤ T342.heap.size := EX342.1
  have Z342 : n0 ≤ T342.heap.size := Nat.le_trans Z0 SZ342
  have fx343 := (fx340.keep K342 (ninS ne333_a0_r333 nin0))
  have Vc344 := fx343
  obtain ⟨cl344, Ar344, q344, S344, N_344, H344, G344⟩ := Vc344
  have hin344 : ¬ (((((0 : Int32) + (1 : Int32)) + (1 : Int32)) + (1 : Int32)) < 0 ∨ cl344.slots.size ≤ (((((0 : Int32) + (1 : Int32)) + (1 : Int32)) + (1 : Int32))).toNatClampNeg) := inb_of S344 ⟨by decide, by decide⟩
  have hat344 : cl344.slots[(((((0 : Int32) + (1 : Int32)) + (1 : Int32)) + (1 : Int32))).toNatClampNeg]? = some (.int c3) := H344 3 (by rw [S344]; decide)
  obtain ⟨_, _, ⟨T345, L345, k345, n345⟩, -, X345, ⟨Lc345, hQ345, l345, y345, z345⟩, st345⟩ := Jvm.LawKit.callS X342 hx (y := nm14) hown (mvT hZ (ow hw 98 rfl)) (mvT hZ (ow hw 99 rfl)) (mvT hZ (ow hw 41 rfl)) (mvT hZ (ow hw 100 rfl)) (by decide) (backOf (W := 0) (rm_put4_3 l Z a0' hw [] r333 c3 kk333 (nar .byte ((c0 >>> ((0 : Int32) &&& 31)).toInt8.toInt32)) (nar .byte ((c0 >>> ((8 : Int32) &&& 31)).toInt8.toInt32)) (nar .byte ((c1 >>> ((0 : Int32) &&& 31)).toInt8.toInt32)) (nar .byte ((c1 >>> ((8 : Int32) &&& 31)).toInt8.toInt32)) (nar .byte ((c2 >>> ((0 : Int32) &&& 31)).toInt8.toInt32)) (nar .byte ((c2 >>> ((8 : Int32) &&& 31)).toInt8.toInt32)) (0 : Int32) (0 : Int32) T342.heap n0 Z342 V342 g_r333 (S_ad.ext EX342) (S_hi.ext EX342) (S_lo.ext EX342)) hZ (ow hw 100 rfl) (ow hw 41 rfl) (by decide) (by decide)) (g := (mkF m 20 #[vr a0, vi ((((0 : Int32) + (1 : Int32)) + (1 : Int32)) + (1 : Int32)), vi 4, vr r333, vi ((((0 : Int32) + (1 : Int32)) + (1 : Int32)) + (1 : Int32))] [(.int c3), (.int ((((0 : Int32) + (1 : Int32)) + (1 : Int32)) + (1 : Int32))), (.ref r333)])) rfl (by rw [hml]; rfl) (argsL := [(.ref r333), (.int ((((0 : Int32) + (1 : Int32)) + (1 : Int32)) + (1 : Int32))), (.int c3)]) (rest := []) (lenOf own_pd9 rfl) rfl (by show 2 * 0 + _ ≤ _; exact Nat.le_of_eq rfl) (hb hby od156) (fun _ _ => ⟨rfl, rfl, (by decide : 1 + 0 ≤ _), (by decide : 8 + 0 ≤ _)⟩)
  dsimp only [Pt.U, Pt.locs, Pt.cells, Pt.slots] at X345 l345 y345 z345 st345 hQ345
  subst l345 y345 z345
  obtain ⟨rfl, N345q, K345, V345⟩ := hQ345
  have N345 := Fr.app N342 N345q
  have EX345 : Ext h0 T345.heap := own_extkeep EX342 K345 sz_r333
  have SZ345 : h0.size ≤ T345.heap.size := EX345.1
  have Z345 : n0 ≤ T345.heap.size := Nat.le_trans Z0 SZ345
  obtain ⟨fs, hr, hrun, hended, hW, hsame⟩ := X345.leave (v := some (.ref r333)) (fun h => by rw [Bd.returns] at h; cases h)
  refine ⟨_, _, pre0 _ ?_, hrun, hended, _, _, rfl, ?_, ⟨_, rfl⟩, hW, hsame.mono (by decide) (by decide)⟩
  · show Steps p.tables e below (s₁.setTop (mkF m 0 #[vr a0, vi 0, vi 4, .unset, .unset] [])) _
    refine XS.iloadN X0.here hx rfl (hb hby od143) rfl ?_
    refine st333 _ ?_
    refine XS.astoreN X333.here hx rfl (hb hby od145) rfl rfl (l' := #[vr a0, vi 0, vi 4, vr r333, .unset]) rfl ?_
    refine XS.iconst X333.here hx rfl (hb hby od146) ?_
    refine XS.istore X333.here hx rfl (hb hby od147) rfl (l' := #[vr a0, vi 0, vi 4, vr r333, vi 0]) rfl ?_
    refine XS.iload X333.here hx rfl (hb hby od148) rfl ?_
    refine XS.iloadN X333.here hx rfl (hb hby od149) rfl ?_
    refine XS.icmpNo X333.here hx rfl (hb hby od150) rfl (tlt (by decide : (0 : Int32) < (4 : Int32))).2.1 ?_
    refine XS.aloadN X333.here hx rfl (hb hby od151) rfl rfl ?_
    refine XS.iload X333.here hx rfl (hb hby od152) rfl ?_
    refine XS.aloadN X333.here hx rfl (hb hby od153) rfl rfl ?_
    refine XS.iloadN X333.here hx rfl (hb hby od154) rfl ?_
    refine X333.caload hx (j := (0 : Int32)) (v := (.int c0)) (by exact Ar335.1) (State.isArrayOf_alike hZ.alike Ar335.2.1) Ar335.2.2 hin335 hat335 (g := (mkF m 19 #[vr a0, vi 0, vi 4, vr r333, vi 0] [(.int 0), (.ref a0), (.int 0), (.ref r333)])) rfl rfl (hb hby od155) _ ?_
    refine st336 _ ?_
    refine XS.iinc X336.here hx rfl (hb hby od157) rfl (l' := #[vr a0, vi ((0 : Int32) + (1 : Int32)), vi 4, vr r333, vi 0]) rfl ?_
    refine XS.iinc X336.here hx rfl (hb hby od158) rfl (l' := #[vr a0, vi ((0 : Int32) + (1 : Int32)), vi 4, vr r333, vi ((0 : Int32) + (1 : Int32))]) rfl ?_
    refine XS.goto X336.here hx rfl (pc0 := 29) (pc' := 8) rfl (hb hby od159) (by decide) (by decide) ?_
    refine XS.iload X336.here hx rfl (hb hby od148) rfl ?_
    refine XS.iloadN X336.here hx rfl (hb hby od149) rfl ?_
    refine XS.icmpNo X336.here hx rfl (hb hby od150) rfl (tlt (by decide : ((0 : Int32) + (1 : Int32)) < (4 : Int32))).2.1 ?_
    refine XS.aloadN X336.here hx rfl (hb hby od151) rfl rfl ?_
    refine XS.iload X336.here hx rfl (hb hby od152) rfl ?_
    refine XS.aloadN X336.here hx rfl (hb hby od153) rfl rfl ?_
    refine XS.iloadN X336.here hx rfl (hb hby od154) rfl ?_
    refine X336.caload hx (j := ((0 : Int32) + (1 : Int32))) (v := (.int c1)) (by exact Ar338.1) (State.isArrayOf_alike hZ.alike Ar338.2.1) Ar338.2.2 hin338 hat338 (g := (mkF m 19 #[vr a0, vi ((0 : Int32) + (1 : Int32)), vi 4, vr r333, vi ((0 : Int32) + (1 : Int32))] [(.int ((0 : Int32) + (1 : Int32))), (.ref a0), (.int ((0 : Int32) + (1 : Int32))), (.ref r333)])) rfl rfl (hb hby od155) _ ?_
    refine st339 _ ?_
    refine XS.iinc X339.here hx rfl (hb hby od157) rfl (l' := #[vr a0, vi (((0 : Int32) + (1 : Int32)) + (1 : Int32)), vi 4, vr r333, vi ((0 : Int32) + (1 : Int32))]) rfl ?_
    refine XS.iinc X339.here hx rfl (hb hby od158) rfl (l' := #[vr a0, vi (((0 : Int32) + (1 : Int32)) + (1 : Int32)), vi 4, vr r333, vi (((0 : Int32) + (1 : Int32)) + (1 : Int32))]) rfl ?_
    refine XS.goto X339.here hx rfl (pc0 := 29) (pc' := 8) rfl (hb hby od159) (by decide) (by decide) ?_
    refine XS.iload X339.here hx rfl (hb hby od148) rfl ?_
    refine XS.iloadN X339.here hx rfl (hb hby od149) rfl ?_
    refine XS.icmpNo X339.here hx rfl (hb hby od150) rfl (tlt (by decide : (((0 : Int32) + (1 : Int32)) + (1 : Int32)) < (4 : Int32))).2.1 ?_
    refine XS.aloadN X339.here hx rfl (hb hby od151) rfl rfl ?_
    refine XS.iload X339.here hx rfl (hb hby od152) rfl ?_
    refine XS.aloadN X339.here hx rfl (hb hby od153) rfl rfl ?_
    refine XS.iloadN X339.here hx rfl (hb hby od154) rfl ?_
    refine X339.caload hx (j := (((0 : Int32) + (1 : Int32)) + (1 : Int32))) (v := (.int c2)) (by exact Ar341.1) (State.isArrayOf_alike hZ.alike Ar341.2.1) Ar341.2.2 hin341 hat341 (g := (mkF m 19 #[vr a0, vi (((0 : Int32) + (1 : Int32)) + (1 : Int32)), vi 4, vr r333, vi (((0 : Int32) + (1 : Int32)) + (1 : Int32))] [(.int (((0 : Int32) + (1 : Int32)) + (1 : Int32))), (.ref a0), (.int (((0 : Int32) + (1 : Int32)) + (1 : Int32))), (.ref r333)])) rfl rfl (hb hby od155) _ ?_
    refine st342 _ ?_
    refine XS.iinc X342.here hx rfl (hb hby od157) rfl (l' := #[vr a0, vi ((((0 : Int32) + (1 : Int32)) + (1 : Int32)) + (1 : Int32)), vi 4, vr r333, vi (((0 : Int32) + (1 : Int32)) + (1 : Int32))]) rfl ?_
    refine XS.iinc X342.here hx rfl (hb hby od158) rfl (l' := #[vr a0, vi ((((0 : Int32) + (1 : Int32)) + (1 : Int32)) + (1 : Int32)), vi 4, vr r333, vi ((((0 : Int32) + (1 : Int32)) + (1 : Int32)) + (1 : Int32))]) rfl ?_
    refine XS.goto X342.here hx rfl (pc0 := 29) (pc' := 8) rfl (hb hby od159) (by decide) (by decide) ?_
    refine XS.iload X342.here hx rfl (hb hby od148) rfl ?_
    refine XS.iloadN X342.here hx rfl (hb hby od149) rfl ?_
    refine XS.icmpNo X342.here hx rfl (hb hby od150) rfl (tlt (by decide : ((((0 : Int32) + (1 : Int32)) + (1 : Int32)) + (1 : Int32)) < (4 : Int32))).2.1 ?_
    refine XS.aloadN X342.here hx rfl (hb hby od151) rfl rfl ?_
    refine XS.iload X342.here hx rfl (hb hby od152) rfl ?_
    refine XS.aloadN X342.here hx rfl (hb hby od153) rfl rfl ?_
    refine XS.iloadN X342.here hx rfl (hb hby od154) rfl ?_
    refine X342.caload hx (j := ((((0 : Int32) + (1 : Int32)) + (1 : Int32)) + (1 : Int32))) (v := (.int c3)) (by exact Ar344.1) (State.isArrayOf_alike hZ.alike Ar344.2.1) Ar344.2.2 hin344 hat344 (g := (mkF m 19 #[vr a0, vi ((((0 : Int32) + (1 : Int32)) + (1 : Int32)) + (1 : Int32)), vi 4, vr r333, vi ((((0 : Int32) + (1 : Int32)) + (1 : Int32)) + (1 : Int32))] [(.int ((((0 : Int32) + (1 : Int32)) + (1 : Int32)) + (1 : Int32))), (.ref a0), (.int ((((0 : Int32) + (1 : Int32)) + (1 : Int32)) + (1 : Int32))), (.ref r333)])) rfl rfl (hb hby od155) _ ?_
    refine st345 _ ?_
    refine XS.iinc X345.here hx rfl (hb hby od157) rfl (l' := #[vr a0, vi (((((0 : Int32) + (1 : Int32)) + (1 : Int32)) + (1 : Int32)) + (1 : Int32)), vi 4, vr r333, vi ((((0 : Int32) + (1 : Int32)) + (1 : Int32)) + (1 : Int32))]) rfl ?_
    refine XS.iinc X345.here hx rfl (hb hby od158) rfl (l' := #[vr a0, vi (((((0 : Int32) + (1 : Int32)) + (1 : Int32)) + (1 : Int32)) + (1 : Int32)), vi 4, vr r333, vi (((((0 : Int32) + (1 : Int32)) + (1 : Int32)) + (1 : Int32)) + (1 : Int32))]) rfl ?_
    refine XS.goto X345.here hx rfl (pc0 := 29) (pc' := 8) rfl (hb hby od159) (by decide) (by decide) ?_
    refine XS.iload X345.here hx rfl (hb hby od148) rfl ?_
    refine XS.iloadN X345.here hx rfl (hb hby od149) rfl ?_
    refine XS.icmpYes X345.here hx rfl (pc0 := 11) (pc' := 32) rfl (hb hby od150) rfl (flt (by decide : ¬ ((((((0 : Int32) + (1 : Int32)) + (1 : Int32)) + (1 : Int32)) + (1 : Int32)) < (4 : Int32)))).2.1 (by decide) (by decide) ?_
    refine XS.aloadN X345.here hx rfl (hb hby od160) rfl rfl ?_
    exact own_retA X345 hx Bd.returns rfl rfl rfl (hb hby od161) hr
  · show Q_tob4 Z a0 kc1 c0 c1 c2 c3 h0 n0 _ T345.heap _
    exact ⟨_, _, rfl, N345, EX345, sz_r333, V345⟩
theorem own_ef_cmpI4_0 (m : MethodId) (a0 : Addr) (a2 : Addr) : entryFrame m #[(.ref a0), (.int 0), (.ref a2), (.int 0), (.int 4)] 7 = mkF m 0 #[vr a0, vi 0, vr a2, vi 0, vi 4, .unset, .unset] [] := by first | (simp [entryFrame, mkF, argsToLocals, Value.category]; done) | rfl
def Q_cmpI4_0 (Z : State) (a0 : Addr) (a2 : Addr) (kc1 : ClassId) (c0 : Int32) (c1 : Int32) (c2 : Int32) (c3 : Int32) (kb1 : ClassId) (h0 : Heap) (n0 : Nat) (v : Option Value) (h : Heap) (L : List Loc) : Prop := v = some (.int 0) ∧ Fr n0 L ∧ Keep h0 h [a2]
theorem rm_cmpI4_0 (l : Launch) (Z : State) (a0' : Array Value) (hw : ∀ d ∈ tables_1, d.before a0' Z = true) (ws : List Jvm.Cond) (a0 : Addr) (a2 : Addr) (kc1 : ClassId) (c0 : Int32) (c1 : Int32) (c2 : Int32) (c3 : Int32) (kb1 : ClassId) (h0 : Heap) (n0 : Nat) (Z0 : n0 ≤ h0.size) (VA : Arv Z h0 a0 kc1 .char (4 : Int32) [(.int c0), (.int c1), (.int c2), (.int c3)] (.int 0)) (VB : Arv Z h0 a2 kb1 .byte (4 : Int32) [(.int 0), (.int 0), (.int 0), (.int 0)] (.int 0)) (nab : a0 ≠ a2) (g2 : n0 ≤ a2) (hc_c0 : (255 : Int32) < c0) :
    MF l nm16 jdk_52_method_21_code 7 (some .int) ws (⟨0, 0, 0, 0⟩ : Room) #[(.ref a0), (.int 0), (.ref a2), (.int 0), (.int 4)] Z h0 (Q_cmpI4_0 Z a0 a2 kc1 c0 c1 c2 c3 kb1 h0 n0) := by
  refine MetFree.of_bodySF (plainFor_of_name own_pn3) hisR ?_
  intro p e s m args below meth c s₁ Bd hml0 hP hK
  obtain ⟨rfl, hZ, hh⟩ := hP
  have hx := Bd.exec
  have hby := Bd.bytes
  have hml : c.maxLocals = 7 := hml0
  have hown : s.vm.findClass "java/lang/StringUTF16" = some m.cls := findClass_of_methodNamed Bd.named
  have hnm := (name_of_methodNamed Bd.named Bd.method).1
  have X0 : Stand p l e (⟨0, 0, 0, 0⟩ : Room) s m #[(.ref a0), (.int 0), (.ref a2), (.int 0), (.int 4)] below meth c s₁ [] 0 0 := Stand.of_body Bd
  have e0 : s₁.heap = h0 := by rw [← hh, Bd.state]; rfl
  have N0 := Fr.nil n0
  have pre0 : PT p e below (s₁.setTop (mkF m 0 #[vr a0, vi 0, vr a2, vi 0, vi 4, .unset, .unset] [])) (s₁.setTop (entryFrame m #[(.ref a0), (.int 0), (.ref a2), (.int 0), (.int 4)] 7)) := fun t k => castTop (own_ef_cmpI4_0 m a0 a2) k
  have Vc346 := VA
  obtain ⟨cl346, Ar346, q346, S346, N_346, H346, G346⟩ := Vc346
  have hin346 : ¬ ((0 : Int32) < 0 ∨ cl346.slots.size ≤ ((0 : Int32)).toNatClampNeg) := inb_of S346 ⟨by decide, by decide⟩
  have hat346 : cl346.slots[((0 : Int32)).toNatClampNeg]? = some (.int c0) := H346 0 (by rw [S346]; decide)
  obtain ⟨fs, hr, hrun, hended, hW, hsame⟩ := X0.leave (v := some (.int 0)) (fun h => by rw [Bd.returns] at h; cases h)
  refine ⟨_, _, pre0 _ ?_, hrun, hended, _, _, rfl, ?_, ⟨_, rfl⟩, hW, hsame.mono (by decide) (by decide)⟩
  · show Steps p.tables e below (s₁.setTop (mkF m 0 #[vr a0, vi 0, vr a2, vi 0, vi 4, .unset, .unset] [])) _
    refine XS.iconst X0.here hx rfl (hb hby od162) ?_
    refine XS.istore X0.here hx rfl (hb hby od163) rfl (l' := #[vr a0, vi 0, vr a2, vi 0, vi 4, vi 0, .unset]) rfl ?_
    refine XS.iload X0.here hx rfl (hb hby od164) rfl ?_
    refine XS.iload X0.here hx rfl (hb hby od165) rfl ?_
    refine XS.icmpNo X0.here hx rfl (hb hby od166) rfl (tlt (by decide : (0 : Int32) < (4 : Int32))).2.1 ?_
    refine XS.aloadN X0.here hx rfl (hb hby od167) rfl rfl ?_
    refine XS.iloadN X0.here hx rfl (hb hby od168) rfl ?_
    refine X0.caload hx (j := (0 : Int32)) (v := (.int c0)) (by rw [e0]; exact Ar346.1) (State.isArrayOf_alike hZ.alike Ar346.2.1) Ar346.2.2 hin346 hat346 (g := (mkF m 12 #[vr a0, vi 0, vr a2, vi 0, vi 4, vi 0, .unset] [(.int 0), (.ref a0)])) rfl rfl (hb hby od169) _ ?_
    refine XS.istore X0.here hx rfl (hb hby od170) rfl (l' := #[vr a0, vi 0, vr a2, vi 0, vi 4, vi 0, vi c0]) rfl ?_
    refine XS.iload X0.here hx rfl (hb hby od171) rfl ?_
    refine XS.sipush X0.here hx rfl (hb hby od172) ?_
    refine XS.icmpNo X0.here hx rfl (hb hby od173) rfl (tlt hc_c0).2.2.2 ?_
    refine XS.iload X0.here hx rfl (hb hby od174) rfl ?_
    exact own_retI X0 hx Bd.returns (hb hby od175) hr
  · show Q_cmpI4_0 Z a0 a2 kc1 c0 c1 c2 c3 kb1 h0 n0 _ s₁.heap _
    rw [e0]
    exact ⟨rfl, N0, (Keep.refl h0 [a2])⟩
theorem own_ef_cmpA4_0 (m : MethodId) (a0 : Addr) : entryFrame m #[(.ref a0), (.int 0), (.int 4)] 6 = mkF m 0 #[vr a0, vi 0, vi 4, .unset, .unset, .unset] [] := by first | (simp [entryFrame, mkF, argsToLocals, Value.category]; done) | rfl
def Q_cmpA4_0 (Z : State) (a0 : Addr) (kc1 : ClassId) (c0 : Int32) (c1 : Int32) (c2 : Int32) (c3 : Int32) (h0 : Heap) (n0 : Nat) (v : Option Value) (h : Heap) (L : List Loc) : Prop := ∃ (r : Addr) (k : ClassId), v = some (.ref r) ∧ Fr n0 L ∧ Ext h0 h ∧ h0.size ≤ r ∧ Arv Z h r k .byte (8 : Int32) [(.int (nar .byte ((c0 >>> ((0 : Int32) &&& 31)).toInt8.toInt32))), (.int (nar .byte ((c0 >>> ((8 : Int32) &&& 31)).toInt8.toInt32))), (.int (nar .byte ((c1 >>> ((0 : Int32) &&& 31)).toInt8.toInt32))), (.int (nar .byte ((c1 >>> ((8 : Int32) &&& 31)).toInt8.toInt32))), (.int (nar .byte ((c2 >>> ((0 : Int32) &&& 31)).toInt8.toInt32))), (.int (nar .byte ((c2 >>> ((8 : Int32) &&& 31)).toInt8.toInt32))), (.int (nar .byte ((c3 >>> ((0 : Int32) &&& 31)).toInt8.toInt32))), (.int (nar .byte ((c3 >>> ((8 : Int32) &&& 31)).toInt8.toInt32)))] (.int 0)
theorem rm_cmpA4_0 (l : Launch) (Z : State) (a0' : Array Value) (hw : ∀ d ∈ tables_1, d.before a0' Z = true) (ws : List Jvm.Cond) (a0 : Addr) (kc1 : ClassId) (c0 : Int32) (c1 : Int32) (c2 : Int32) (c3 : Int32) (h0 : Heap) (n0 : Nat) (Z0 : n0 ≤ h0.size) (VA : Arv Z h0 a0 kc1 .char (4 : Int32) [(.int c0), (.int c1), (.int c2), (.int c3)] (.int 0)) (hc_c0 : (255 : Int32) < c0) (hb_c0 : 0 ≤ c0.toInt ∧ c0.toInt ≤ 65535) (S_ad : Sta Z h0 "java/lang/StringUTF16" "$assertionsDisabled" "Z" (.int 1)) (S_hi : Sta Z h0 "java/lang/StringUTF16" "HI_BYTE_SHIFT" "I" (.int 0)) (S_lo : Sta Z h0 "java/lang/StringUTF16" "LO_BYTE_SHIFT" "I" (.int 8)) :
    MF l nm17 jdk_52_method_16_code 6 (some (.array .byte)) ws (⟨3, 2, 12, 40⟩ : Room) #[(.ref a0), (.int 0), (.int 4)] Z h0 (Q_cmpA4_0 Z a0 kc1 c0 c1 c2 c3 h0 n0) := by
  refine MetFree.of_bodySF (plainFor_of_name own_pn3) hisR ?_
  intro p e s m args below meth c s₁ Bd hml0 hP hK
  obtain ⟨rfl, hZ, hh⟩ := hP
  have hx := Bd.exec
  have hby := Bd.bytes
  have hml : c.maxLocals = 6 := hml0
  have hown : s.vm.findClass "java/lang/StringUTF16" = some m.cls := findClass_of_methodNamed Bd.named
  have hnm := (name_of_methodNamed Bd.named Bd.method).1
  have X0 : Stand p l e (⟨3, 2, 12, 40⟩ : Room) s m #[(.ref a0), (.int 0), (.int 4)] below meth c s₁ [] 0 0 := Stand.of_body Bd
  have e0 : s₁.heap = h0 := by rw [← hh, Bd.state]; rfl
  have N0 := Fr.nil n0
  have pre0 : PT p e below (s₁.setTop (mkF m 0 #[vr a0, vi 0, vi 4, .unset, .unset, .unset] [])) (s₁.setTop (entryFrame m #[(.ref a0), (.int 0), (.int 4)] 6)) := fun t k => castTop (own_ef_cmpA4_0 m a0) k
  obtain ⟨T347, h347, k347, X347, e347, E347, A347, st347⟩ := newP X0 hx hZ (ow hw 17 rfl) e0 (g := (mkF m 1 #[vr a0, vi 0, vi 4, .unset, .unset, .unset] [(.int 4)])) rfl (hb hby od177) rfl (by decide) (cap := 4) (by decide) (by decide) (by decide) (by decide)
  obtain ⟨b347, g347⟩ : ∃ z, z = h0.size := ⟨_, rfl⟩
  rw [← g347] at A347 st347
  have ne347_a0_b347 : a0 ≠ b347 := Nat.ne_of_lt (Nat.lt_of_lt_of_le VA.lt (Nat.le_of_eq g347.symm))
  have V_b347 : Arv Z h347 b347 k347 .byte (4 : Int32) [(.int 0), (.int 0), (.int 0), (.int 0)] (.int 0) := (Arv.new A347 (by decide)).pad (pad_rep [] (.int 0) 4)
  have g_b347 : n0 ≤ b347 := Nat.le_trans Z0 (Nat.le_of_eq g347.symm)
  have sz_b347 : h0.size ≤ b347 := Nat.le_trans (Nat.le_refl _) (Nat.le_of_eq g347.symm)
  have EX347 : Ext h0 h347 := E347
  have SZ347 : h0.size ≤ h347.size := EX347.1
  have Z347 : n0 ≤ h347.size := Nat.le_trans Z0 SZ347
  have fx349 := (VA.ext E347)
  obtain ⟨_, _, ⟨T348, L348, k348, n348⟩, -, X348, ⟨Lc348, hQ348, l348, y348, z348⟩, st348⟩ := Jvm.LawKit.callS X347 hx (y := nm16) hown (mvT hZ (ow hw 43 rfl)) (mvT hZ (ow hw 44 rfl)) (mvT hZ (ow hw 41 rfl)) (mvT hZ (ow hw 45 rfl)) (by decide) (backOf (W := 0) (rm_cmpI4_0 l Z a0' hw [] a0 b347 kc1 c0 c1 c2 c3 k347 h347 n0 Z347 fx349 V_b347 ne347_a0_b347 g_b347 hc_c0) hZ (ow hw 45 rfl) (ow hw 41 rfl) (by decide) (by decide)) (g := (mkF m 9 #[vr a0, vi 0, vi 4, vr b347, .unset, .unset] [(.int 4), (.int 0), (.ref b347), (.int 0), (.ref a0)])) rfl (by rw [hml]; rfl) (argsL := [(.ref a0), (.int 0), (.ref b347), (.int 0), (.int 4)]) (rest := []) (lenOf own_pd10 rfl) rfl (by show 2 * 0 + _ ≤ _; exact Nat.le_of_eq rfl) (hb hby od184) (fun _ _ => ⟨rfl, e347, (by decide : 1 + 0 ≤ _), (by decide : 4 + 0 ≤ _)⟩)
  dsimp only [Pt.U, Pt.locs, Pt.cells, Pt.slots] at X348 l348 y348 z348 st348 hQ348
  subst l348 y348 z348
  obtain ⟨rfl, N348q, K348⟩ := hQ348
  have N348 := Fr.app N0 N348q
  have EX348 : Ext h0 T348.heap := own_extkeep EX347 K348 sz_b347
  have SZ348 : h0.size ≤ T348.heap.size := EX348.1
  have Z348 : n0 ≤ T348.heap.size := Nat.le_trans Z0 SZ348
  have fx351 := (fx349.keep K348 (ninS ne347_a0_b347 nin0))
  obtain ⟨_, _, ⟨T350, L350, k350, n350⟩, -, X350, ⟨Lc350, hQ350, l350, y350, z350⟩, st350⟩ := Jvm.LawKit.callS X348 hx (y := nm15) hown (mvT hZ (ow hw 88 rfl)) (mvT hZ (ow hw 89 rfl)) (mvT hZ (ow hw 41 rfl)) (mvT hZ (ow hw 90 rfl)) (by decide) (backOf (W := 0) (rm_tob4 l Z a0' hw [] a0 kc1 c0 c1 c2 c3 T348.heap n0 Z348 fx351 (S_ad.ext EX348) (S_hi.ext EX348) (S_lo.ext EX348)) hZ (ow hw 90 rfl) (ow hw 41 rfl) (by decide) (by decide)) (g := (mkF m 23 #[vr a0, vi 0, vi 4, vr b347, vi 0, .unset] [(.int 4), (.int 0), (.ref a0)])) rfl (by rw [hml]; rfl) (argsL := [(.ref a0), (.int 0), (.int 4)]) (rest := []) (lenOf own_pd11 rfl) rfl (by show 2 * 0 + _ ≤ _; exact Nat.le_of_eq rfl) (hb hby od192) (fun _ _ => ⟨rfl, rfl, (by decide : 1 + 1 ≤ _), (by decide : 4 + 8 ≤ _)⟩)
  dsimp only [Pt.U, Pt.locs, Pt.cells, Pt.slots] at X350 l350 y350 z350 st350 hQ350
  subst l350 y350 z350
  obtain ⟨r350, kk350, rfl, N350q, E350, zz350, V350⟩ := hQ350
  have N350 := Fr.app N348 N350q
  have ne350_a0_r350 : a0 ≠ r350 := Nat.ne_of_lt (Nat.lt_of_lt_of_le fx351.lt zz350)
  have g_r350 : n0 ≤ r350 := Nat.le_trans Z348 zz350
  have sz_r350 : h0.size ≤ r350 := Nat.le_trans SZ348 zz350
  have EX350 : Ext h0 T350.heap := own_exttr EX348 E350
  have SZ350 : h0.size ≤ T350.heap.size := EX350.1
  have Z350 : n0 ≤ T350.heap.size := Nat.le_trans Z0 SZ350
  have Vc353 := V350
  obtain ⟨cl353, Ar353, q353, S353, N_353, H353, G353⟩ := Vc353
  obtain ⟨_, _, ⟨T352, L352, k352, n352⟩, -, X352, ⟨Lc352, hQ352, l352, y352, z352⟩, st352⟩ := Jvm.LawKit.callS X350 hx (y := nm5) hown (mvT hZ (ow hw 104 rfl)) (mvT hZ (ow hw 105 rfl)) (mvT hZ (ow hw 41 rfl)) (mvT hZ (ow hw 106 rfl)) (by decide) (backOf (W := 0) (rm_getC l Z a0' hw [] r350 (0 : Int32) cl353 (nar .byte ((c0 >>> ((0 : Int32) &&& 31)).toInt8.toInt32)) (nar .byte ((c0 >>> ((8 : Int32) &&& 31)).toInt8.toInt32)) T350.heap n0 Z350 Ar353 (inb_of S353 ⟨by decide, by decide⟩) (H353 0 (by rw [S353]; decide)) (inb_of S353 ⟨by decide, by decide⟩) (H353 1 (by rw [S353]; decide)) (S_ad.ext EX350) (S_hi.ext EX350) (S_lo.ext EX350)) hZ (ow hw 106 rfl) (ow hw 41 rfl) (by decide) (by decide)) (g := (mkF m 32 #[vr a0, vi 0, vi 4, vr b347, vi 0, vr r350] [(.int 0), (.ref r350)])) rfl (by rw [hml]; rfl) (argsL := [(.ref r350), (.int 0)]) (rest := []) (lenOf own_pd4 rfl) rfl (by show 2 * 0 + _ ≤ _; exact Nat.le_of_eq rfl) (hb hby od196) (fun _ _ => ⟨rfl, rfl, (by decide : 2 + 0 ≤ _), (by decide : 12 + 0 ≤ _)⟩)
  dsimp only [Pt.U, Pt.locs, Pt.cells, Pt.slots] at X352 l352 y352 z352 st352 hQ352
  subst l352 y352 z352
  obtain ⟨rfl, N352q, e352⟩ := hQ352
  have N352 := Fr.app N350 N352q
  have q352 : (F_getC (nar .byte ((c0 >>> ((0 : Int32) &&& 31)).toInt8.toInt32)) (nar .byte ((c0 >>> ((8 : Int32) &&& 31)).toInt8.toInt32))) = c0 := by unfold F_getC; exact own_getc c0 hb_c0
  rw [q352] at st352
  obtain ⟨fs, hr, hrun, hended, hW, hsame⟩ := X352.leave (v := some (.ref r350)) (fun h => by rw [Bd.returns] at h; cases h)
  refine ⟨_, _, pre0 _ ?_, hrun, hended, _, _, rfl, ?_, ⟨_, rfl⟩, hW, hsame.mono (by decide) (by decide)⟩
  · show Steps p.tables e below (s₁.setTop (mkF m 0 #[vr a0, vi 0, vi 4, .unset, .unset, .unset] [])) _
    refine XS.iloadN X0.here hx rfl (hb hby od176) rfl ?_
    refine st347 _ ?_
    refine XS.astoreN X347.here hx rfl (hb hby od178) rfl rfl (l' := #[vr a0, vi 0, vi 4, vr b347, .unset, .unset]) rfl ?_
    refine XS.aloadN X347.here hx rfl (hb hby od179) rfl rfl ?_
    refine XS.iloadN X347.here hx rfl (hb hby od180) rfl ?_
    refine XS.aloadN X347.here hx rfl (hb hby od181) rfl rfl ?_
    refine XS.iconst X347.here hx rfl (hb hby od182) ?_
    refine XS.iloadN X347.here hx rfl (hb hby od183) rfl ?_
    refine st348 _ ?_
    refine XS.istore X348.here hx rfl (hb hby od185) rfl (l' := #[vr a0, vi 0, vi 4, vr b347, vi 0, .unset]) rfl ?_
    refine XS.iload X348.here hx rfl (hb hby od186) rfl ?_
    refine XS.iloadN X348.here hx rfl (hb hby od187) rfl ?_
    refine XS.icmpNo X348.here hx rfl (hb hby od188) rfl (feq (by decide : ¬ ((0 : Int32) = (4 : Int32)))).1 ?_
    refine XS.aloadN X348.here hx rfl (hb hby od189) rfl rfl ?_
    refine XS.iloadN X348.here hx rfl (hb hby od190) rfl ?_
    refine XS.iloadN X348.here hx rfl (hb hby od191) rfl ?_
    refine st350 _ ?_
    refine XS.astore X350.here hx rfl (hb hby od193) rfl rfl (l' := #[vr a0, vi 0, vi 4, vr b347, vi 0, vr r350]) rfl ?_
    refine XS.aload X350.here hx rfl (hb hby od194) rfl rfl ?_
    refine XS.iload X350.here hx rfl (hb hby od195) rfl ?_
    refine st352 _ ?_
    refine XS.sipush X352.here hx rfl (hb hby od197) ?_
    refine XS.icmpYes X352.here hx rfl (pc0 := 38) (pc' := 54) rfl (hb hby od198) rfl (tlt hc_c0).2.2.1 (by decide) (by decide) ?_
    refine XS.aload X352.here hx rfl (hb hby od199) rfl rfl ?_
    exact own_retA X352 hx Bd.returns rfl rfl rfl (hb hby od200) hr
  · show Q_cmpA4_0 Z a0 kc1 c0 c1 c2 c3 h0 n0 _ T352.heap _
    rw [e352]
    exact ⟨_, _, rfl, N352, EX350, sz_r350, V350⟩
theorem own_ef_cmpI4_1 (m : MethodId) (a0 : Addr) (a2 : Addr) : entryFrame m #[(.ref a0), (.int 0), (.ref a2), (.int 0), (.int 4)] 7 = mkF m 0 #[vr a0, vi 0, vr a2, vi 0, vi 4, .unset, .unset] [] := by first | (simp [entryFrame, mkF, argsToLocals, Value.category]; done) | rfl
def Q_cmpI4_1 (Z : State) (a0 : Addr) (a2 : Addr) (kc1 : ClassId) (c0 : Int32) (c1 : Int32) (c2 : Int32) (c3 : Int32) (kb1 : ClassId) (h0 : Heap) (n0 : Nat) (v : Option Value) (h : Heap) (L : List Loc) : Prop := v = some (.int 1) ∧ Fr n0 L ∧ Keep h0 h [a2]
theorem rm_cmpI4_1 (l : Launch) (Z : State) (a0' : Array Value) (hw : ∀ d ∈ tables_1, d.before a0' Z = true) (ws : List Jvm.Cond) (a0 : Addr) (a2 : Addr) (kc1 : ClassId) (c0 : Int32) (c1 : Int32) (c2 : Int32) (c3 : Int32) (kb1 : ClassId) (h0 : Heap) (n0 : Nat) (Z0 : n0 ≤ h0.size) (VA : Arv Z h0 a0 kc1 .char (4 : Int32) [(.int c0), (.int c1), (.int c2), (.int c3)] (.int 0)) (VB : Arv Z h0 a2 kb1 .byte (4 : Int32) [(.int 0), (.int 0), (.int 0), (.int 0)] (.int 0)) (nab : a0 ≠ a2) (g2 : n0 ≤ a2) (hc_c0 : ¬ ((255 : Int32) < c0)) (hc_c1 : (255 : Int32) < c1) :
    MF l nm16 jdk_52_method_21_code 7 (some .int) ws (⟨0, 0, 0, 0⟩ : Room) #[(.ref a0), (.int 0), (.ref a2), (.int 0), (.int 4)] Z h0 (Q_cmpI4_1 Z a0 a2 kc1 c0 c1 c2 c3 kb1 h0 n0) := by
  refine MetFree.of_bodySF (plainFor_of_name own_pn3) hisR ?_
  intro p e s m args below meth c s₁ Bd hml0 hP hK
  obtain ⟨rfl, hZ, hh⟩ := hP
  have hx := Bd.exec
  have hby := Bd.bytes
  have hml : c.maxLocals = 7 := hml0
  have hown : s.vm.findClass "java/lang/StringUTF16" = some m.cls := findClass_of_methodNamed Bd.named
  have hnm := (name_of_methodNamed Bd.named Bd.method).1
  have X0 : Stand p l e (⟨0, 0, 0, 0⟩ : Room) s m #[(.ref a0), (.int 0), (.ref a2), (.int 0), (.int 4)] below meth c s₁ [] 0 0 := Stand.of_body Bd
  have e0 : s₁.heap = h0 := by rw [← hh, Bd.state]; rfl
  have N0 := Fr.nil n0
  have pre0 : PT p e below (s₁.setTop (mkF m 0 #[vr a0, vi 0, vr a2, vi 0, vi 4, .unset, .unset] [])) (s₁.setTop (entryFrame m #[(.ref a0), (.int 0), (.ref a2), (.int 0), (.int 4)] 7)) := fun t k => castTop (own_ef_cmpI4_1 m a0 a2) k
  have Vc354 := VA
  obtain ⟨cl354, Ar354, q354, S354, N_354, H354, G354⟩ := Vc354
  have hin354 : ¬ ((0 : Int32) < 0 ∨ cl354.slots.size ≤ ((0 : Int32)).toNatClampNeg) := inb_of S354 ⟨by decide, by decide⟩
  have hat354 : cl354.slots[((0 : Int32)).toNatClampNeg]? = some (.int c0) := H354 0 (by rw [S354]; decide)
  have Vc355 := VB
  obtain ⟨cl355, Ar355, q355, S355, N_355, H355, G355⟩ := Vc355
  have hin355 : ¬ ((0 : Int32) < 0 ∨ cl355.slots.size ≤ ((0 : Int32)).toNatClampNeg) := inb_of S355 ⟨by decide, by decide⟩
  obtain ⟨T356, h356, X356, e356, W356, st356⟩ := stB X0 hx hZ e0 Ar355 (j := (0 : Int32)) hin355 (g := (mkF m 31 #[vr a0, vi 0, vr a2, vi 0, vi 4, vi 0, vi c0] [(.int (c0.toInt8.toInt32)), (.int 0), (.ref a2)])) rfl rfl (hb hby od241)
  have V_a2_356 : Arv Z h356 a2 kb1 .byte (4 : Int32) [(.int (nar .byte (c0.toInt8.toInt32))), (.int 0), (.int 0), (.int 0)] (.int 0) := Arv.set Ar355 q355 S355 N_355 H355 G355 (fits_nar_byte _) W356 0 rfl (Nat.le_of_ble_eq_true rfl)
  have N356 := Fr.snoc X356 N0 g2
  have KP356 : Keep h0 h356 [a2] := (Keep.refl h0 [a2]).wr W356 (Or.inl (List.mem_of_getElem? (i := 0) rfl))
  have SZ356 : h0.size ≤ h356.size := KP356.1
  have Z356 : n0 ≤ h356.size := Nat.le_trans Z0 SZ356
  have fx357 := (VA.other W356 nab)
  have Vc358 := fx357
  obtain ⟨cl358, Ar358, q358, S358, N_358, H358, G358⟩ := Vc358
  have hin358 : ¬ (((0 : Int32) + (1 : Int32)) < 0 ∨ cl358.slots.size ≤ (((0 : Int32) + (1 : Int32))).toNatClampNeg) := inb_of S358 ⟨by decide, by decide⟩
  have hat358 : cl358.slots[(((0 : Int32) + (1 : Int32))).toNatClampNeg]? = some (.int c1) := H358 1 (by rw [S358]; decide)
  obtain ⟨fs, hr, hrun, hended, hW, hsame⟩ := X356.leave (v := some (.int ((0 : Int32) + (1 : Int32)))) (fun h => by rw [Bd.returns] at h; cases h)
  refine ⟨_, _, pre0 _ ?_, hrun, hended, _, _, rfl, ?_, ⟨_, rfl⟩, hW, hsame.mono (by decide) (by decide)⟩
  · show Steps p.tables e below (s₁.setTop (mkF m 0 #[vr a0, vi 0, vr a2, vi 0, vi 4, .unset, .unset] [])) _
    refine XS.iconst X0.here hx rfl (hb hby od162) ?_
    refine XS.istore X0.here hx rfl (hb hby od163) rfl (l' := #[vr a0, vi 0, vr a2, vi 0, vi 4, vi 0, .unset]) rfl ?_
    refine XS.iload X0.here hx rfl (hb hby od164) rfl ?_
    refine XS.iload X0.here hx rfl (hb hby od165) rfl ?_
    refine XS.icmpNo X0.here hx rfl (hb hby od166) rfl (tlt (by decide : (0 : Int32) < (4 : Int32))).2.1 ?_
    refine XS.aloadN X0.here hx rfl (hb hby od167) rfl rfl ?_
    refine XS.iloadN X0.here hx rfl (hb hby od168) rfl ?_
    refine X0.caload hx (j := (0 : Int32)) (v := (.int c0)) (by rw [e0]; exact Ar354.1) (State.isArrayOf_alike hZ.alike Ar354.2.1) Ar354.2.2 hin354 hat354 (g := (mkF m 12 #[vr a0, vi 0, vr a2, vi 0, vi 4, vi 0, .unset] [(.int 0), (.ref a0)])) rfl rfl (hb hby od169) _ ?_
    refine XS.istore X0.here hx rfl (hb hby od170) rfl (l' := #[vr a0, vi 0, vr a2, vi 0, vi 4, vi 0, vi c0]) rfl ?_
    refine XS.iload X0.here hx rfl (hb hby od171) rfl ?_
    refine XS.sipush X0.here hx rfl (hb hby od172) ?_
    refine XS.icmpYes X0.here hx rfl (pc0 := 20) (pc' := 26) rfl (hb hby od173) rfl (flt hc_c0).2.2.2 (by decide) (by decide) ?_
    refine XS.aloadN X0.here hx rfl (hb hby od237) rfl rfl ?_
    refine XS.iloadN X0.here hx rfl (hb hby od238) rfl ?_
    refine XS.iload X0.here hx rfl (hb hby od239) rfl ?_
    refine XS.i2b X0.here hx rfl (hb hby od240) rfl ?_
    refine st356 _ ?_
    refine XS.iinc X356.here hx rfl (hb hby od242) rfl (l' := #[vr a0, vi ((0 : Int32) + (1 : Int32)), vr a2, vi 0, vi 4, vi 0, vi c0]) rfl ?_
    refine XS.iinc X356.here hx rfl (hb hby od243) rfl (l' := #[vr a0, vi ((0 : Int32) + (1 : Int32)), vr a2, vi ((0 : Int32) + (1 : Int32)), vi 4, vi 0, vi c0]) rfl ?_
    refine XS.iinc X356.here hx rfl (hb hby od244) rfl (l' := #[vr a0, vi ((0 : Int32) + (1 : Int32)), vr a2, vi ((0 : Int32) + (1 : Int32)), vi 4, vi ((0 : Int32) + (1 : Int32)), vi c0]) rfl ?_
    refine XS.goto X356.here hx rfl (pc0 := 41) (pc' := 3) rfl (hb hby od245) (by decide) (by decide) ?_
    refine XS.iload X356.here hx rfl (hb hby od164) rfl ?_
    refine XS.iload X356.here hx rfl (hb hby od165) rfl ?_
    refine XS.icmpNo X356.here hx rfl (hb hby od166) rfl (tlt (by decide : ((0 : Int32) + (1 : Int32)) < (4 : Int32))).2.1 ?_
    refine XS.aloadN X356.here hx rfl (hb hby od167) rfl rfl ?_
    refine XS.iloadN X356.here hx rfl (hb hby od168) rfl ?_
    refine X356.caload hx (j := ((0 : Int32) + (1 : Int32))) (v := (.int c1)) (by rw [e356]; exact Ar358.1) (State.isArrayOf_alike hZ.alike Ar358.2.1) Ar358.2.2 hin358 hat358 (g := (mkF m 12 #[vr a0, vi ((0 : Int32) + (1 : Int32)), vr a2, vi ((0 : Int32) + (1 : Int32)), vi 4, vi ((0 : Int32) + (1 : Int32)), vi c0] [(.int ((0 : Int32) + (1 : Int32))), (.ref a0)])) rfl rfl (hb hby od169) _ ?_
    refine XS.istore X356.here hx rfl (hb hby od170) rfl (l' := #[vr a0, vi ((0 : Int32) + (1 : Int32)), vr a2, vi ((0 : Int32) + (1 : Int32)), vi 4, vi ((0 : Int32) + (1 : Int32)), vi c1]) rfl ?_
    refine XS.iload X356.here hx rfl (hb hby od171) rfl ?_
    refine XS.sipush X356.here hx rfl (hb hby od172) ?_
    refine XS.icmpNo X356.here hx rfl (hb hby od173) rfl (tlt hc_c1).2.2.2 ?_
    refine XS.iload X356.here hx rfl (hb hby od174) rfl ?_
    exact own_retI X356 hx Bd.returns (hb hby od175) hr
  · show Q_cmpI4_1 Z a0 a2 kc1 c0 c1 c2 c3 kb1 h0 n0 _ T356.heap _
    rw [e356]
    exact ⟨rfl, N356, KP356⟩
theorem own_ef_cmpA4_1 (m : MethodId) (a0 : Addr) : entryFrame m #[(.ref a0), (.int 0), (.int 4)] 6 = mkF m 0 #[vr a0, vi 0, vi 4, .unset, .unset, .unset] [] := by first | (simp [entryFrame, mkF, argsToLocals, Value.category]; done) | rfl
def Q_cmpA4_1 (Z : State) (a0 : Addr) (kc1 : ClassId) (c0 : Int32) (c1 : Int32) (c2 : Int32) (c3 : Int32) (h0 : Heap) (n0 : Nat) (v : Option Value) (h : Heap) (L : List Loc) : Prop := ∃ (r : Addr) (k : ClassId), v = some (.ref r) ∧ Fr n0 L ∧ Ext h0 h ∧ h0.size ≤ r ∧ Arv Z h r k .byte (8 : Int32) [(.int (nar .byte ((c0 >>> ((0 : Int32) &&& 31)).toInt8.toInt32))), (.int (nar .byte ((c0 >>> ((8 : Int32) &&& 31)).toInt8.toInt32))), (.int (nar .byte ((c1 >>> ((0 : Int32) &&& 31)).toInt8.toInt32))), (.int (nar .byte ((c1 >>> ((8 : Int32) &&& 31)).toInt8.toInt32))), (.int (nar .byte ((c2 >>> ((0 : Int32) &&& 31)).toInt8.toInt32))), (.int (nar .byte ((c2 >>> ((8 : Int32) &&& 31)).toInt8.toInt32))), (.int (nar .byte ((c3 >>> ((0 : Int32) &&& 31)).toInt8.toInt32))), (.int (nar .byte ((c3 >>> ((8 : Int32) &&& 31)).toInt8.toInt32)))] (.int 0)
theorem rm_cmpA4_1 (l : Launch) (Z : State) (a0' : Array Value) (hw : ∀ d ∈ tables_1, d.before a0' Z = true) (ws : List Jvm.Cond) (a0 : Addr) (kc1 : ClassId) (c0 : Int32) (c1 : Int32) (c2 : Int32) (c3 : Int32) (h0 : Heap) (n0 : Nat) (Z0 : n0 ≤ h0.size) (VA : Arv Z h0 a0 kc1 .char (4 : Int32) [(.int c0), (.int c1), (.int c2), (.int c3)] (.int 0)) (hc_c0 : ¬ ((255 : Int32) < c0)) (hc_c1 : (255 : Int32) < c1) (hb_c1 : 0 ≤ c1.toInt ∧ c1.toInt ≤ 65535) (S_ad : Sta Z h0 "java/lang/StringUTF16" "$assertionsDisabled" "Z" (.int 1)) (S_hi : Sta Z h0 "java/lang/StringUTF16" "HI_BYTE_SHIFT" "I" (.int 0)) (S_lo : Sta Z h0 "java/lang/StringUTF16" "LO_BYTE_SHIFT" "I" (.int 8)) :
    MF l nm17 jdk_52_method_16_code 6 (some (.array .byte)) ws (⟨3, 2, 12, 40⟩ : Room) #[(.ref a0), (.int 0), (.int 4)] Z h0 (Q_cmpA4_1 Z a0 kc1 c0 c1 c2 c3 h0 n0) := by
  refine MetFree.of_bodySF (plainFor_of_name own_pn3) hisR ?_
  intro p e s m args below meth c s₁ Bd hml0 hP hK
  obtain ⟨rfl, hZ, hh⟩ := hP
  have hx := Bd.exec
  have hby := Bd.bytes
  have hml : c.maxLocals = 6 := hml0
  have hown : s.vm.findClass "java/lang/StringUTF16" = some m.cls := findClass_of_methodNamed Bd.named
  have hnm := (name_of_methodNamed Bd.named Bd.method).1
  have X0 : Stand p l e (⟨3, 2, 12, 40⟩ : Room) s m #[(.ref a0), (.int 0), (.int 4)] below meth c s₁ [] 0 0 := Stand.of_body Bd
  have e0 : s₁.heap = h0 := by rw [← hh, Bd.state]; rfl
  have N0 := Fr.nil n0
  have pre0 : PT p e below (s₁.setTop (mkF m 0 #[vr a0, vi 0, vi 4, .unset, .unset, .unset] [])) (s₁.setTop (entryFrame m #[(.ref a0), (.int 0), (.int 4)] 6)) := fun t k => castTop (own_ef_cmpA4_1 m a0) k
  obtain ⟨T359, h359, k359, X359, e359, E359, A359, st359⟩ := newP X0 hx hZ (ow hw 17 rfl) e0 (g := (mkF m 1 #[vr a0, vi 0, vi 4, .unset, .unset, .unset] [(.int 4)])) rfl (hb hby od177) rfl (by decide) (cap := 4) (by decide) (by decide) (by decide) (by decide)
  obtain ⟨b359, g359⟩ : ∃ z, z = h0.size := ⟨_, rfl⟩
  rw [← g359] at A359 st359
  have ne359_a0_b359 : a0 ≠ b359 := Nat.ne_of_lt (Nat.lt_of_lt_of_le VA.lt (Nat.le_of_eq g359.symm))
  have V_b359 : Arv Z h359 b359 k359 .byte (4 : Int32) [(.int 0), (.int 0), (.int 0), (.int 0)] (.int 0) := (Arv.new A359 (by decide)).pad (pad_rep [] (.int 0) 4)
  have g_b359 : n0 ≤ b359 := Nat.le_trans Z0 (Nat.le_of_eq g359.symm)
  have sz_b359 : h0.size ≤ b359 := Nat.le_trans (Nat.le_refl _) (Nat.le_of_eq g359.symm)
  have EX359 : Ext h0 h359 := E359
  have SZ359 : h0.size ≤ h359.size := EX359.1
  have Z359 : n0 ≤ h359.size := Nat.le_trans Z0 SZ359
  have fx361 := (VA.ext E359)
  obtain ⟨_, _, ⟨T360, L360, k360, n360⟩, -, X360, ⟨Lc360, hQ360, l360, y360, z360⟩, st360⟩ := Jvm.LawKit.callS X359 hx (y := nm16) hown (mvT hZ (ow hw 43 rfl)) (mvT hZ (ow hw 44 rfl)) (mvT hZ (ow hw 41 rfl)) (mvT hZ (ow hw 45 rfl)) (by decide) (backOf (W := 0) (rm_cmpI4_1 l Z a0' hw [] a0 b359 kc1 c0 c1 c2 c3 k359 h359 n0 Z359 fx361 V_b359 ne359_a0_b359 g_b359 hc_c0 hc_c1) hZ (ow hw 45 rfl) (ow hw 41 rfl) (by decide) (by decide)) (g := (mkF m 9 #[vr a0, vi 0, vi 4, vr b359, .unset, .unset] [(.int 4), (.int 0), (.ref b359), (.int 0), (.ref a0)])) rfl (by rw [hml]; rfl) (argsL := [(.ref a0), (.int 0), (.ref b359), (.int 0), (.int 4)]) (rest := []) (lenOf own_pd10 rfl) rfl (by show 2 * 0 + _ ≤ _; exact Nat.le_of_eq rfl) (hb hby od184) (fun _ _ => ⟨rfl, e359, (by decide : 1 + 0 ≤ _), (by decide : 4 + 0 ≤ _)⟩)
  dsimp only [Pt.U, Pt.locs, Pt.cells, Pt.slots] at X360 l360 y360 z360 st360 hQ360
  subst l360 y360 z360
  obtain ⟨rfl, N360q, K360⟩ := hQ360
  have N360 := Fr.app N0 N360q
  have EX360 : Ext h0 T360.heap := own_extkeep EX359 K360 sz_b359
  have SZ360 : h0.size ≤ T360.heap.size := EX360.1
  have Z360 : n0 ≤ T360.heap.size := Nat.le_trans Z0 SZ360
  have fx363 := (fx361.keep K360 (ninS ne359_a0_b359 nin0))
  obtain ⟨_, _, ⟨T362, L362, k362, n362⟩, -, X362, ⟨Lc362, hQ362, l362, y362, z362⟩, st362⟩ := Jvm.LawKit.callS X360 hx (y := nm15) hown (mvT hZ (ow hw 88 rfl)) (mvT hZ (ow hw 89 rfl)) (mvT hZ (ow hw 41 rfl)) (mvT hZ (ow hw 90 rfl)) (by decide) (backOf (W := 0) (rm_tob4 l Z a0' hw [] a0 kc1 c0 c1 c2 c3 T360.heap n0 Z360 fx363 (S_ad.ext EX360) (S_hi.ext EX360) (S_lo.ext EX360)) hZ (ow hw 90 rfl) (ow hw 41 rfl) (by decide) (by decide)) (g := (mkF m 23 #[vr a0, vi 0, vi 4, vr b359, vi 1, .unset] [(.int 4), (.int 0), (.ref a0)])) rfl (by rw [hml]; rfl) (argsL := [(.ref a0), (.int 0), (.int 4)]) (rest := []) (lenOf own_pd11 rfl) rfl (by show 2 * 0 + _ ≤ _; exact Nat.le_of_eq rfl) (hb hby od192) (fun _ _ => ⟨rfl, rfl, (by decide : 1 + 1 ≤ _), (by decide : 4 + 8 ≤ _)⟩)
  dsimp only [Pt.U, Pt.locs, Pt.cells, Pt.slots] at X362 l362 y362 z362 st362 hQ362
  subst l362 y362 z362
  obtain ⟨r362, kk362, rfl, N362q, E362, zz362, V362⟩ := hQ362
  have N362 := Fr.app N360 N362q
  have ne362_a0_r362 : a0 ≠ r362 := Nat.ne_of_lt (Nat.lt_of_lt_of_le fx363.lt zz362)
  have g_r362 : n0 ≤ r362 := Nat.le_trans Z360 zz362
  have sz_r362 : h0.size ≤ r362 := Nat.le_trans SZ360 zz362
  have EX362 : Ext h0 T362.heap := own_exttr EX360 E362
  have SZ362 : h0.size ≤ T362.heap.size := EX362.1
  have Z362 : n0 ≤ T362.heap.size := Nat.le_trans Z0 SZ362
  have Vc365 := V362
  obtain ⟨cl365, Ar365, q365, S365, N_365, H365, G365⟩ := Vc365
  obtain ⟨_, _, ⟨T364, L364, k364, n364⟩, -, X364, ⟨Lc364, hQ364, l364, y364, z364⟩, st364⟩ := Jvm.LawKit.callS X362 hx (y := nm5) hown (mvT hZ (ow hw 104 rfl)) (mvT hZ (ow hw 105 rfl)) (mvT hZ (ow hw 41 rfl)) (mvT hZ (ow hw 106 rfl)) (by decide) (backOf (W := 0) (rm_getC l Z a0' hw [] r362 (1 : Int32) cl365 (nar .byte ((c1 >>> ((0 : Int32) &&& 31)).toInt8.toInt32)) (nar .byte ((c1 >>> ((8 : Int32) &&& 31)).toInt8.toInt32)) T362.heap n0 Z362 Ar365 (inb_of S365 ⟨by decide, by decide⟩) (H365 2 (by rw [S365]; decide)) (inb_of S365 ⟨by decide, by decide⟩) (H365 3 (by rw [S365]; decide)) (S_ad.ext EX362) (S_hi.ext EX362) (S_lo.ext EX362)) hZ (ow hw 106 rfl) (ow hw 41 rfl) (by decide) (by decide)) (g := (mkF m 32 #[vr a0, vi 0, vi 4, vr b359, vi 1, vr r362] [(.int 1), (.ref r362)])) rfl (by rw [hml]; rfl) (argsL := [(.ref r362), (.int 1)]) (rest := []) (lenOf own_pd4 rfl) rfl (by show 2 * 0 + _ ≤ _; exact Nat.le_of_eq rfl) (hb hby od196) (fun _ _ => ⟨rfl, rfl, (by decide : 2 + 0 ≤ _), (by decide : 12 + 0 ≤ _)⟩)
  dsimp only [Pt.U, Pt.locs, Pt.cells, Pt.slots] at X364 l364 y364 z364 st364 hQ364
  subst l364 y364 z364
  obtain ⟨rfl, N364q, e364⟩ := hQ364
  have N364 := Fr.app N362 N364q
  have q364 : (F_getC (nar .byte ((c1 >>> ((0 : Int32) &&& 31)).toInt8.toInt32)) (nar .byte ((c1 >>> ((8 : Int32) &&& 31)).toInt8.toInt32))) = c1 := by unfold F_getC; exact own_getc c1 hb_c1
  rw [q364] at st364
  obtain ⟨fs, hr, hrun, hended, hW, hsame⟩ := X364.leave (v := some (.ref r362)) (fun h => by rw [Bd.returns] at h; cases h)
  refine ⟨_, _, pre0 _ ?_, hrun, hended, _, _, rfl, ?_, ⟨_, rfl⟩, hW, hsame.mono (by decide) (by decide)⟩
  · show Steps p.tables e below (s₁.setTop (mkF m 0 #[vr a0, vi 0, vi 4, .unset, .unset, .unset] [])) _
    refine XS.iloadN X0.here hx rfl (hb hby od176) rfl ?_
    refine st359 _ ?_
    refine XS.astoreN X359.here hx rfl (hb hby od178) rfl rfl (l' := #[vr a0, vi 0, vi 4, vr b359, .unset, .unset]) rfl ?_
    refine XS.aloadN X359.here hx rfl (hb hby od179) rfl rfl ?_
    refine XS.iloadN X359.here hx rfl (hb hby od180) rfl ?_
    refine XS.aloadN X359.here hx rfl (hb hby od181) rfl rfl ?_
    refine XS.iconst X359.here hx rfl (hb hby od182) ?_
    refine XS.iloadN X359.here hx rfl (hb hby od183) rfl ?_
    refine st360 _ ?_
    refine XS.istore X360.here hx rfl (hb hby od185) rfl (l' := #[vr a0, vi 0, vi 4, vr b359, vi 1, .unset]) rfl ?_
    refine XS.iload X360.here hx rfl (hb hby od186) rfl ?_
    refine XS.iloadN X360.here hx rfl (hb hby od187) rfl ?_
    refine XS.icmpNo X360.here hx rfl (hb hby od188) rfl (feq (by decide : ¬ ((1 : Int32) = (4 : Int32)))).1 ?_
    refine XS.aloadN X360.here hx rfl (hb hby od189) rfl rfl ?_
    refine XS.iloadN X360.here hx rfl (hb hby od190) rfl ?_
    refine XS.iloadN X360.here hx rfl (hb hby od191) rfl ?_
    refine st362 _ ?_
    refine XS.astore X362.here hx rfl (hb hby od193) rfl rfl (l' := #[vr a0, vi 0, vi 4, vr b359, vi 1, vr r362]) rfl ?_
    refine XS.aload X362.here hx rfl (hb hby od194) rfl rfl ?_
    refine XS.iload X362.here hx rfl (hb hby od195) rfl ?_
    refine st364 _ ?_
    refine XS.sipush X364.here hx rfl (hb hby od197) ?_
    refine XS.icmpYes X364.here hx rfl (pc0 := 38) (pc' := 54) rfl (hb hby od198) rfl (tlt hc_c1).2.2.1 (by decide) (by decide) ?_
    refine XS.aload X364.here hx rfl (hb hby od199) rfl rfl ?_
    exact own_retA X364 hx Bd.returns rfl rfl rfl (hb hby od200) hr
  · show Q_cmpA4_1 Z a0 kc1 c0 c1 c2 c3 h0 n0 _ T364.heap _
    rw [e364]
    exact ⟨_, _, rfl, N364, EX362, sz_r362, V362⟩
theorem own_ef_cmpI4_2 (m : MethodId) (a0 : Addr) (a2 : Addr) : entryFrame m #[(.ref a0), (.int 0), (.ref a2), (.int 0), (.int 4)] 7 = mkF m 0 #[vr a0, vi 0, vr a2, vi 0, vi 4, .unset, .unset] [] := by first | (simp [entryFrame, mkF, argsToLocals, Value.category]; done) | rfl
def Q_cmpI4_2 (Z : State) (a0 : Addr) (a2 : Addr) (kc1 : ClassId) (c0 : Int32) (c1 : Int32) (c2 : Int32) (c3 : Int32) (kb1 : ClassId) (h0 : Heap) (n0 : Nat) (v : Option Value) (h : Heap) (L : List Loc) : Prop := v = some (.int 2) ∧ Fr n0 L ∧ Keep h0 h [a2]
theorem rm_cmpI4_2 (l : Launch) (Z : State) (a0' : Array Value) (hw : ∀ d ∈ tables_1, d.before a0' Z = true) (ws : List Jvm.Cond) (a0 : Addr) (a2 : Addr) (kc1 : ClassId) (c0 : Int32) (c1 : Int32) (c2 : Int32) (c3 : Int32) (kb1 : ClassId) (h0 : Heap) (n0 : Nat) (Z0 : n0 ≤ h0.size) (VA : Arv Z h0 a0 kc1 .char (4 : Int32) [(.int c0), (.int c1), (.int c2), (.int c3)] (.int 0)) (VB : Arv Z h0 a2 kb1 .byte (4 : Int32) [(.int 0), (.int 0), (.int 0), (.int 0)] (.int 0)) (nab : a0 ≠ a2) (g2 : n0 ≤ a2) (hc_c0 : ¬ ((255 : Int32) < c0)) (hc_c1 : ¬ ((255 : Int32) < c1)) (hc_c2 : (255 : Int32) < c2) :
    MF l nm16 jdk_52_method_21_code 7 (some .int) ws (⟨0, 0, 0, 0⟩ : Room) #[(.ref a0), (.int 0), (.ref a2), (.int 0), (.int 4)] Z h0 (Q_cmpI4_2 Z a0 a2 kc1 c0 c1 c2 c3 kb1 h0 n0) := by
  refine MetFree.of_bodySF (plainFor_of_name own_pn3) hisR ?_
  intro p e s m args below meth c s₁ Bd hml0 hP hK
  obtain ⟨rfl, hZ, hh⟩ := hP
  have hx := Bd.exec
  have hby := Bd.bytes
  have hml : c.maxLocals = 7 := hml0
  have hown : s.vm.findClass "java/lang/StringUTF16" = some m.cls := findClass_of_methodNamed Bd.named
  have hnm := (name_of_methodNamed Bd.named Bd.method).1
  have X0 : Stand p l e (⟨0, 0, 0, 0⟩ : Room) s m #[(.ref a0), (.int 0), (.ref a2), (.int 0), (.int 4)] below meth c s₁ [] 0 0 := Stand.of_body Bd
  have e0 : s₁.heap = h0 := by rw [← hh, Bd.state]; rfl
  have N0 := Fr.nil n0
  have pre0 : PT p e below (s₁.setTop (mkF m 0 #[vr a0, vi 0, vr a2, vi 0, vi 4, .unset, .unset] [])) (s₁.setTop (entryFrame m #[(.ref a0), (.int 0), (.ref a2), (.int 0), (.int 4)] 7)) := fun t k => castTop (own_ef_cmpI4_2 m a0 a2) k
  have Vc366 := VA
  obtain ⟨cl366, Ar366, q366, S366, N_366, H366, G366⟩ := Vc366
  have hin366 : ¬ ((0 : Int32) < 0 ∨ cl366.slots.size ≤ ((0 : Int32)).toNatClampNeg) := inb_of S366 ⟨by decide, by decide⟩
  have hat366 : cl366.slots[((0 : Int32)).toNatClampNeg]? = some (.int c0) := H366 0 (by rw [S366]; decide)
  have Vc367 := VB
  obtain ⟨cl367, Ar367, q367, S367, N_367, H367, G367⟩ := Vc367
  have hin367 : ¬ ((0 : Int32) < 0 ∨ cl367.slots.size ≤ ((0 : Int32)).toNatClampNeg) := inb_of S367 ⟨by decide, by decide⟩
  obtain ⟨T368, h368, X368, e368, W368, st368⟩ := stB X0 hx hZ e0 Ar367 (j := (0 : Int32)) hin367 (g := (mkF m 31 #[vr a0, vi 0, vr a2, vi 0, vi 4, vi 0, vi c0] [(.int (c0.toInt8.toInt32)), (.int 0), (.ref a2)])) rfl rfl (hb hby od241)
  have V_a2_368 : Arv Z h368 a2 kb1 .byte (4 : Int32) [(.int (nar .byte (c0.toInt8.toInt32))), (.int 0), (.int 0), (.int 0)] (.int 0) := Arv.set Ar367 q367 S367 N_367 H367 G367 (fits_nar_byte _) W368 0 rfl (Nat.le_of_ble_eq_true rfl)
  have N368 := Fr.snoc X368 N0 g2
  have KP368 : Keep h0 h368 [a2] := (Keep.refl h0 [a2]).wr W368 (Or.inl (List.mem_of_getElem? (i := 0) rfl))
  have SZ368 : h0.size ≤ h368.size := KP368.1
  have Z368 : n0 ≤ h368.size := Nat.le_trans Z0 SZ368
  have fx369 := (VA.other W368 nab)
  have Vc370 := fx369
  obtain ⟨cl370, Ar370, q370, S370, N_370, H370, G370⟩ := Vc370
  have hin370 : ¬ (((0 : Int32) + (1 : Int32)) < 0 ∨ cl370.slots.size ≤ (((0 : Int32) + (1 : Int32))).toNatClampNeg) := inb_of S370 ⟨by decide, by decide⟩
  have hat370 : cl370.slots[(((0 : Int32) + (1 : Int32))).toNatClampNeg]? = some (.int c1) := H370 1 (by rw [S370]; decide)
  have Vc371 := V_a2_368
  obtain ⟨cl371, Ar371, q371, S371, N_371, H371, G371⟩ := Vc371
  have hin371 : ¬ (((0 : Int32) + (1 : Int32)) < 0 ∨ cl371.slots.size ≤ (((0 : Int32) + (1 : Int32))).toNatClampNeg) := inb_of S371 ⟨by decide, by decide⟩
  obtain ⟨T372, h372, X372, e372, W372, st372⟩ := stB X368 hx hZ e368 Ar371 (j := ((0 : Int32) + (1 : Int32))) hin371 (g := (mkF m 31 #[vr a0, vi ((0 : Int32) + (1 : Int32)), vr a2, vi ((0 : Int32) + (1 : Int32)), vi 4, vi ((0 : Int32) + (1 : Int32)), vi c1] [(.int (c1.toInt8.toInt32)), (.int ((0 : Int32) + (1 : Int32))), (.ref a2)])) rfl rfl (hb hby od241)
  have V_a2_372 : Arv Z h372 a2 kb1 .byte (4 : Int32) [(.int (nar .byte (c0.toInt8.toInt32))), (.int (nar .byte (c1.toInt8.toInt32))), (.int 0), (.int 0)] (.int 0) := Arv.set Ar371 q371 S371 N_371 H371 G371 (fits_nar_byte _) W372 1 rfl (Nat.le_of_ble_eq_true rfl)
  have N372 := Fr.snoc X372 N368 g2
  have KP372 : Keep h0 h372 [a2] := KP368.wr W372 (Or.inl (List.mem_of_getElem? (i := 0) rfl))
  have SZ372 : h0.size ≤ h372.size := KP372.1
  have Z372 : n0 ≤ h372.size := Nat.le_trans Z0 SZ372
  have fx373 := (fx369.other W372 nab)
  have Vc374 := fx373
  obtain ⟨cl374, Ar374, q374, S374, N_374, H374, G374⟩ := Vc374
  have hin374 : ¬ ((((0 : Int32) + (1 : Int32)) + (1 : Int32)) < 0 ∨ cl374.slots.size ≤ ((((0 : Int32) + (1 : Int32)) + (1 : Int32))).toNatClampNeg) := inb_of S374 ⟨by decide, by decide⟩
  have hat374 : cl374.slots[((((0 : Int32) + (1 : Int32)) + (1 : Int32))).toNatClampNeg]? = some (.int c2) := H374 2 (by rw [S374]; decide)
  obtain ⟨fs, hr, hrun, hended, hW, hsame⟩ := X372.leave (v := some (.int (((0 : Int32) + (1 : Int32)) + (1 : Int32)))) (fun h => by rw [Bd.returns] at h; cases h)
  refine ⟨_, _, pre0 _ ?_, hrun, hended, _, _, rfl, ?_, ⟨_, rfl⟩, hW, hsame.mono (by decide) (by decide)⟩
  · show Steps p.tables e below (s₁.setTop (mkF m 0 #[vr a0, vi 0, vr a2, vi 0, vi 4, .unset, .unset] [])) _
    refine XS.iconst X0.here hx rfl (hb hby od162) ?_
    refine XS.istore X0.here hx rfl (hb hby od163) rfl (l' := #[vr a0, vi 0, vr a2, vi 0, vi 4, vi 0, .unset]) rfl ?_
    refine XS.iload X0.here hx rfl (hb hby od164) rfl ?_
    refine XS.iload X0.here hx rfl (hb hby od165) rfl ?_
    refine XS.icmpNo X0.here hx rfl (hb hby od166) rfl (tlt (by decide : (0 : Int32) < (4 : Int32))).2.1 ?_
    refine XS.aloadN X0.here hx rfl (hb hby od167) rfl rfl ?_
    refine XS.iloadN X0.here hx rfl (hb hby od168) rfl ?_
    refine X0.caload hx (j := (0 : Int32)) (v := (.int c0)) (by rw [e0]; exact Ar366.1) (State.isArrayOf_alike hZ.alike Ar366.2.1) Ar366.2.2 hin366 hat366 (g := (mkF m 12 #[vr a0, vi 0, vr a2, vi 0, vi 4, vi 0, .unset] [(.int 0), (.ref a0)])) rfl rfl (hb hby od169) _ ?_
    refine XS.istore X0.here hx rfl (hb hby od170) rfl (l' := #[vr a0, vi 0, vr a2, vi 0, vi 4, vi 0, vi c0]) rfl ?_
    refine XS.iload X0.here hx rfl (hb hby od171) rfl ?_
    refine XS.sipush X0.here hx rfl (hb hby od172) ?_
    refine XS.icmpYes X0.here hx rfl (pc0 := 20) (pc' := 26) rfl (hb hby od173) rfl (flt hc_c0).2.2.2 (by decide) (by decide) ?_
    refine XS.aloadN X0.here hx rfl (hb hby od237) rfl rfl ?_
    refine XS.iloadN X0.here hx rfl (hb hby od238) rfl ?_
    refine XS.iload X0.here hx rfl (hb hby od239) rfl ?_
    refine XS.i2b X0.here hx rfl (hb hby od240) rfl ?_
    refine st368 _ ?_
    refine XS.iinc X368.here hx rfl (hb hby od242) rfl (l' := #[vr a0, vi ((0 : Int32) + (1 : Int32)), vr a2, vi 0, vi 4, vi 0, vi c0]) rfl ?_
    refine XS.iinc X368.here hx rfl (hb hby od243) rfl (l' := #[vr a0, vi ((0 : Int32) + (1 : Int32)), vr a2, vi ((0 : Int32) + (1 : Int32)), vi 4, vi 0, vi c0]) rfl ?_
    refine XS.iinc X368.here hx rfl (hb hby od244) rfl (l' := #[vr a0, vi ((0 : Int32) + (1 : Int32)), vr a2, vi ((0 : Int32) + (1 : Int32)), vi 4, vi ((0 : Int32) + (1 : Int32)), vi c0]) rfl ?_
    refine XS.goto X368.here hx rfl (pc0 := 41) (pc' := 3) rfl (hb hby od245) (by decide) (by decide) ?_
    refine XS.iload X368.here hx rfl (hb hby od164) rfl ?_
    refine XS.iload X368.here hx rfl (hb hby od165) rfl ?_
    refine XS.icmpNo X368.here hx rfl (hb hby od166) rfl (tlt (by decide : ((0 : Int32) + (1 : Int32)) < (4 : Int32))).2.1 ?_
    refine XS.aloadN X368.here hx rfl (hb hby od167) rfl rfl ?_
    refine XS.iloadN X368.here hx rfl (hb hby od168) rfl ?_
    refine X368.caload hx (j := ((0 : Int32) + (1 : Int32))) (v := (.int c1)) (by rw [e368]; exact Ar370.1) (State.isArrayOf_alike hZ.alike Ar370.2.1) Ar370.2.2 hin370 hat370 (g := (mkF m 12 #[vr a0, vi ((0 : Int32) + (1 : Int32)), vr a2, vi ((0 : Int32) + (1 : Int32)), vi 4, vi ((0 : Int32) + (1 : Int32)), vi c0] [(.int ((0 : Int32) + (1 : Int32))), (.ref a0)])) rfl rfl (hb hby od169) _ ?_
    refine XS.istore X368.here hx rfl (hb hby od170) rfl (l' := #[vr a0, vi ((0 : Int32) + (1 : Int32)), vr a2, vi ((0 : Int32) + (1 : Int32)), vi 4, vi ((0 : Int32) + (1 : Int32)), vi c1]) rfl ?_
    refine XS.iload X368.here hx rfl (hb hby od171) rfl ?_
    refine XS.sipush X368.here hx rfl (hb hby od172) ?_
    refine XS.icmpYes X368.here hx rfl (pc0 := 20) (pc' := 26) rfl (hb hby od173) rfl (flt hc_c1).2.2.2 (by decide) (by decide) ?_
    refine XS.aloadN X368.here hx rfl (hb hby od237) rfl rfl ?_
    refine XS.iloadN X368.here hx rfl (hb hby od238) rfl ?_
    refine XS.iload X368.here hx rfl (hb hby od239) rfl ?_
    refine XS.i2b X368.here hx rfl (hb hby od240) rfl ?_
    refine st372 _ ?_
    refine XS.iinc X372.here hx rfl (hb hby od242) rfl (l' := #[vr a0, vi (((0 : Int32) + (1 : Int32)) + (1 : Int32)), vr a2, vi ((0 : Int32) + (1 : Int32)), vi 4, vi ((0 : Int32) + (1 : Int32)), vi c1]) rfl ?_
    refine XS.iinc X372.here hx rfl (hb hby od243) rfl (l' := #[vr a0, vi (((0 : Int32) + (1 : Int32)) + (1 : Int32)), vr a2, vi (((0 : Int32) + (1 : Int32)) + (1 : Int32)), vi 4, vi ((0 : Int32) + (1 : Int32)), vi c1]) rfl ?_
    refine XS.iinc X372.here hx rfl (hb hby od244) rfl (l' := #[vr a0, vi (((0 : Int32) + (1 : Int32)) + (1 : Int32)), vr a2, vi (((0 : Int32) + (1 : Int32)) + (1 : Int32)), vi 4, vi (((0 : Int32) + (1 : Int32)) + (1 : Int32)), vi c1]) rfl ?_
    refine XS.goto X372.here hx rfl (pc0 := 41) (pc' := 3) rfl (hb hby od245) (by decide) (by decide) ?_
    refine XS.iload X372.here hx rfl (hb hby od164) rfl ?_
    refine XS.iload X372.here hx rfl (hb hby od165) rfl ?_
    refine XS.icmpNo X372.here hx rfl (hb hby od166) rfl (tlt (by decide : (((0 : Int32) + (1 : Int32)) + (1 : Int32)) < (4 : Int32))).2.1 ?_
    refine XS.aloadN X372.here hx rfl (hb hby od167) rfl rfl ?_
    refine XS.iloadN X372.here hx rfl (hb hby od168) rfl ?_
    refine X372.caload hx (j := (((0 : Int32) + (1 : Int32)) + (1 : Int32))) (v := (.int c2)) (by rw [e372]; exact Ar374.1) (State.isArrayOf_alike hZ.alike Ar374.2.1) Ar374.2.2 hin374 hat374 (g := (mkF m 12 #[vr a0, vi (((0 : Int32) + (1 : Int32)) + (1 : Int32)), vr a2, vi (((0 : Int32) + (1 : Int32)) + (1 : Int32)), vi 4, vi (((0 : Int32) + (1 : Int32)) + (1 : Int32)), vi c1] [(.int (((0 : Int32) + (1 : Int32)) + (1 : Int32))), (.ref a0)])) rfl rfl (hb hby od169) _ ?_
    refine XS.istore X372.here hx rfl (hb hby od170) rfl (l' := #[vr a0, vi (((0 : Int32) + (1 : Int32)) + (1 : Int32)), vr a2, vi (((0 : Int32) + (1 : Int32)) + (1 : Int32)), vi 4, vi (((0 : Int32) + (1 : Int32)) + (1 : Int32)), vi c2]) rfl ?_
    refine XS.iload X372.here hx rfl (hb hby od171) rfl ?_
    refine XS.sipush X372.here hx rfl (hb hby od172) ?_
    refine XS.icmpNo X372.here hx rfl (hb hby od173) rfl (tlt hc_c2).2.2.2 ?_
    refine XS.iload X372.here hx rfl (hb hby od174) rfl ?_
    exact own_retI X372 hx Bd.returns (hb hby od175) hr
  · show Q_cmpI4_2 Z a0 a2 kc1 c0 c1 c2 c3 kb1 h0 n0 _ T372.heap _
    rw [e372]
    exact ⟨rfl, N372, KP372⟩
theorem own_ef_cmpA4_2 (m : MethodId) (a0 : Addr) : entryFrame m #[(.ref a0), (.int 0), (.int 4)] 6 = mkF m 0 #[vr a0, vi 0, vi 4, .unset, .unset, .unset] [] := by first | (simp [entryFrame, mkF, argsToLocals, Value.category]; done) | rfl
def Q_cmpA4_2 (Z : State) (a0 : Addr) (kc1 : ClassId) (c0 : Int32) (c1 : Int32) (c2 : Int32) (c3 : Int32) (h0 : Heap) (n0 : Nat) (v : Option Value) (h : Heap) (L : List Loc) : Prop := ∃ (r : Addr) (k : ClassId), v = some (.ref r) ∧ Fr n0 L ∧ Ext h0 h ∧ h0.size ≤ r ∧ Arv Z h r k .byte (8 : Int32) [(.int (nar .byte ((c0 >>> ((0 : Int32) &&& 31)).toInt8.toInt32))), (.int (nar .byte ((c0 >>> ((8 : Int32) &&& 31)).toInt8.toInt32))), (.int (nar .byte ((c1 >>> ((0 : Int32) &&& 31)).toInt8.toInt32))), (.int (nar .byte ((c1 >>> ((8 : Int32) &&& 31)).toInt8.toInt32))), (.int (nar .byte ((c2 >>> ((0 : Int32) &&& 31)).toInt8.toInt32))), (.int (nar .byte ((c2 >>> ((8 : Int32) &&& 31)).toInt8.toInt32))), (.int (nar .byte ((c3 >>> ((0 : Int32) &&& 31)).toInt8.toInt32))), (.int (nar .byte ((c3 >>> ((8 : Int32) &&& 31)).toInt8.toInt32)))] (.int 0)
theorem rm_cmpA4_2 (l : Launch) (Z : State) (a0' : Array Value) (hw : ∀ d ∈ tables_1, d.before a0' Z = true) (ws : List Jvm.Cond) (a0 : Addr) (kc1 : ClassId) (c0 : Int32) (c1 : Int32) (c2 : Int32) (c3 : Int32) (h0 : Heap) (n0 : Nat) (Z0 : n0 ≤ h0.size) (VA : Arv Z h0 a0 kc1 .char (4 : Int32) [(.int c0), (.int c1), (.int c2), (.int c3)] (.int 0)) (hc_c0 : ¬ ((255 : Int32) < c0)) (hc_c1 : ¬ ((255 : Int32) < c1)) (hc_c2 : (255 : Int32) < c2) (hb_c2 : 0 ≤ c2.toInt ∧ c2.toInt ≤ 65535) (S_ad : Sta Z h0 "java/lang/StringUTF16" "$assertionsDisabled" "Z" (.int 1)) (S_hi : Sta Z h0 "java/lang/StringUTF16" "HI_BYTE_SHIFT" "I" (.int 0)) (S_lo : Sta Z h0 "java/lang/StringUTF16" "LO_BYTE_SHIFT" "I" (.int 8)) :
    MF l nm17 jdk_52_method_16_code 6 (some (.array .byte)) ws (⟨3, 2, 12, 40⟩ : Room) #[(.ref a0), (.int 0), (.int 4)] Z h0 (Q_cmpA4_2 Z a0 kc1 c0 c1 c2 c3 h0 n0) := by
  refine MetFree.of_bodySF (plainFor_of_name own_pn3) hisR ?_
  intro p e s m args below meth c s₁ Bd hml0 hP hK
  obtain ⟨rfl, hZ, hh⟩ := hP
  have hx := Bd.exec
  have hby := Bd.bytes
  have hml : c.maxLocals = 6 := hml0
  have hown : s.vm.findClass "java/lang/StringUTF16" = some m.cls := findClass_of_methodNamed Bd.named
  have hnm := (name_of_methodNamed Bd.named Bd.method).1
  have X0 : Stand p l e (⟨3, 2, 12, 40⟩ : Room) s m #[(.ref a0), (.int 0), (.int 4)] below meth c s₁ [] 0 0 := Stand.of_body Bd
  have e0 : s₁.heap = h0 := by rw [← hh, Bd.state]; rfl
  have N0 := Fr.nil n0
  have pre0 : PT p e below (s₁.setTop (mkF m 0 #[vr a0, vi 0, vi 4, .unset, .unset, .unset] [])) (s₁.setTop (entryFrame m #[(.ref a0), (.int 0), (.int 4)] 6)) := fun t k => castTop (own_ef_cmpA4_2 m a0) k
  obtain ⟨T375, h375, k375, X375, e375, E375, A375, st375⟩ := newP X0 hx hZ (ow hw 17 rfl) e0 (g := (mkF m 1 #[vr a0, vi 0, vi 4, .unset, .unset, .unset] [(.int 4)])) rfl (hb hby od177) rfl (by decide) (cap := 4) (by decide) (by decide) (by decide) (by decide)
  obtain ⟨b375, g375⟩ : ∃ z, z = h0.size := ⟨_, rfl⟩
  rw [← g375] at A375 st375
  have ne375_a0_b375 : a0 ≠ b375 := Nat.ne_of_lt (Nat.lt_of_lt_of_le VA.lt (Nat.le_of_eq g375.symm))
  have V_b375 : Arv Z h375 b375 k375 .byte (4 : Int32) [(.int 0), (.int 0), (.int 0), (.int 0)] (.int 0) := (Arv.new A375 (by decide)).pad (pad_rep [] (.int 0) 4)
  have g_b375 : n0 ≤ b375 := Nat.le_trans Z0 (Nat.le_of_eq g375.symm)
  have sz_b375 : h0.size ≤ b375 := Nat.le_trans (Nat.le_refl _) (Nat.le_of_eq g375.symm)
  have EX375 : Ext h0 h375 := E375
  have SZ375 : h0.size ≤ h375.size := EX375.1
  have Z375 : n0 ≤ h375.size := Nat.le_trans Z0 SZ375
  have fx377 := (VA.ext E375)
  obtain ⟨_, _, ⟨T376, L376, k376, n376⟩, -, X376, ⟨Lc376, hQ376, l376, y376, z376⟩, st376⟩ := Jvm.LawKit.callS X375 hx (y := nm16) hown (mvT hZ (ow hw 43 rfl)) (mvT hZ (ow hw 44 rfl)) (mvT hZ (ow hw 41 rfl)) (mvT hZ (ow hw 45 rfl)) (by decide) (backOf (W := 0) (rm_cmpI4_2 l Z a0' hw [] a0 b375 kc1 c0 c1 c2 c3 k375 h375 n0 Z375 fx377 V_b375 ne375_a0_b375 g_b375 hc_c0 hc_c1 hc_c2) hZ (ow hw 45 rfl) (ow hw 41 rfl) (by decide) (by decide)) (g := (mkF m 9 #[vr a0, vi 0, vi 4, vr b375, .unset, .unset] [(.int 4), (.int 0), (.ref b375), (.int 0), (.ref a0)])) rfl (by rw [hml]; rfl) (argsL := [(.ref a0), (.int 0), (.ref b375), (.int 0), (.int 4)]) (rest := []) (lenOf own_pd10 rfl) rfl (by show 2 * 0 + _ ≤ _; exact Nat.le_of_eq rfl) (hb hby od184) (fun _ _ => ⟨rfl, e375, (by decide : 1 + 0 ≤ _), (by decide : 4 + 0 ≤ _)⟩)
  dsimp only [Pt.U, Pt.locs, Pt.cells, Pt.slots] at X376 l376 y376 z376 st376 hQ376
  subst l376 y376 z376
  obtain ⟨rfl, N376q, K376⟩ := hQ376
  have N376 := Fr.app N0 N376q
  have EX376 : Ext h0 T376.heap := own_extkeep EX375 K376 sz_b375
  have SZ376 : h0.size ≤ T376.heap.size := EX376.1
  have Z376 : n0 ≤ T376.heap.size := Nat.le_trans Z0 SZ376
  have fx379 := (fx377.keep K376 (ninS ne375_a0_b375 nin0))
  obtain ⟨_, _, ⟨T378, L378, k378, n378⟩, -, X378, ⟨Lc378, hQ378, l378, y378, z378⟩, st378⟩ := Jvm.LawKit.callS X376 hx (y := nm15) hown (mvT hZ (ow hw 88 rfl)) (mvT hZ (ow hw 89 rfl)) (mvT hZ (ow hw 41 rfl)) (mvT hZ (ow hw 90 rfl)) (by decide) (backOf (W := 0) (rm_tob4 l Z a0' hw [] a0 kc1 c0 c1 c2 c3 T376.heap n0 Z376 fx379 (S_ad.ext EX376) (S_hi.ext EX376) (S_lo.ext EX376)) hZ (ow hw 90 rfl) (ow hw 41 rfl) (by decide) (by decide)) (g := (mkF m 23 #[vr a0, vi 0, vi 4, vr b375, vi 2, .unset] [(.int 4), (.int 0), (.ref a0)])) rfl (by rw [hml]; rfl) (argsL := [(.ref a0), (.int 0), (.int 4)]) (rest := []) (lenOf own_pd11 rfl) rfl (by show 2 * 0 + _ ≤ _; exact Nat.le_of_eq rfl) (hb hby od192) (fun _ _ => ⟨rfl, rfl, (by decide : 1 + 1 ≤ _), (by decide : 4 + 8 ≤ _)⟩)
  dsimp only [Pt.U, Pt.locs, Pt.cells, Pt.slots] at X378 l378 y378 z378 st378 hQ378
  subst l378 y378 z378
  obtain ⟨r378, kk378, rfl, N378q, E378, zz378, V378⟩ := hQ378
  have N378 := Fr.app N376 N378q
  have ne378_a0_r378 : a0 ≠ r378 := Nat.ne_of_lt (Nat.lt_of_lt_of_le fx379.lt zz378)
  have g_r378 : n0 ≤ r378 := Nat.le_trans Z376 zz378
  have sz_r378 : h0.size ≤ r378 := Nat.le_trans SZ376 zz378
  have EX378 : Ext h0 T378.heap := own_exttr EX376 E378
  have SZ378 : h0.size ≤ T378.heap.size := EX378.1
  have Z378 : n0 ≤ T378.heap.size := Nat.le_trans Z0 SZ378
  have Vc381 := V378
  obtain ⟨cl381, Ar381, q381, S381, N_381, H381, G381⟩ := Vc381
  obtain ⟨_, _, ⟨T380, L380, k380, n380⟩, -, X380, ⟨Lc380, hQ380, l380, y380, z380⟩, st380⟩ := Jvm.LawKit.callS X378 hx (y := nm5) hown (mvT hZ (ow hw 104 rfl)) (mvT hZ (ow hw 105 rfl)) (mvT hZ (ow hw 41 rfl)) (mvT hZ (ow hw 106 rfl)) (by decide) (backOf (W := 0) (rm_getC l Z a0' hw [] r378 (2 : Int32) cl381 (nar .byte ((c2 >>> ((0 : Int32) &&& 31)).toInt8.toInt32)) (nar .byte ((c2 >>> ((8 : Int32) &&& 31)).toInt8.toInt32)) T378.heap n0 Z378 Ar381 (inb_of S381 ⟨by decide, by decide⟩) (H381 4 (by rw [S381]; decide)) (inb_of S381 ⟨by decide, by decide⟩) (H381 5 (by rw [S381]; decide)) (S_ad.ext EX378) (S_hi.ext EX378) (S_lo.ext EX378)) hZ (ow hw 106 rfl) (ow hw 41 rfl) (by decide) (by decide)) (g := (mkF m 32 #[vr a0, vi 0, vi 4, vr b375, vi 2, vr r378] [(.int 2), (.ref r378)])) rfl (by rw [hml]; rfl) (argsL := [(.ref r378), (.int 2)]) (rest := []) (lenOf own_pd4 rfl) rfl (by show 2 * 0 + _ ≤ _; exact Nat.le_of_eq rfl) (hb hby od196) (fun _ _ => ⟨rfl, rfl, (by decide : 2 + 0 ≤ _), (by decide : 12 + 0 ≤ _)⟩)
  dsimp only [Pt.U, Pt.locs, Pt.cells, Pt.slots] at X380 l380 y380 z380 st380 hQ380
  subst l380 y380 z380
  obtain ⟨rfl, N380q, e380⟩ := hQ380
  have N380 := Fr.app N378 N380q
  have q380 : (F_getC (nar .byte ((c2 >>> ((0 : Int32) &&& 31)).toInt8.toInt32)) (nar .byte ((c2 >>> ((8 : Int32) &&& 31)).toInt8.toInt32))) = c2 := by unfold F_getC; exact own_getc c2 hb_c2
  rw [q380] at st380
  obtain ⟨fs, hr, hrun, hended, hW, hsame⟩ := X380.leave (v := some (.ref r378)) (fun h => by rw [Bd.returns] at h; cases h)
  refine ⟨_, _, pre0 _ ?_, hrun, hended, _, _, rfl, ?_, ⟨_, rfl⟩, hW, hsame.mono (by decide) (by decide)⟩
  · show Steps p.tables e below (s₁.setTop (mkF m 0 #[vr a0, vi 0, vi 4, .unset, .unset, .unset] [])) _
    refine XS.iloadN X0.here hx rfl (hb hby od176) rfl ?_
    refine st375 _ ?_
    refine XS.astoreN X375.here hx rfl (hb hby od178) rfl rfl (l' := #[vr a0, vi 0, vi 4, vr b375, .unset, .unset]) rfl ?_
    refine XS.aloadN X375.here hx rfl (hb hby od179) rfl rfl ?_
    refine XS.iloadN X375.here hx rfl (hb hby od180) rfl ?_
    refine XS.aloadN X375.here hx rfl (hb hby od181) rfl rfl ?_
    refine XS.iconst X375.here hx rfl (hb hby od182) ?_
    refine XS.iloadN X375.here hx rfl (hb hby od183) rfl ?_
    refine st376 _ ?_
    refine XS.istore X376.here hx rfl (hb hby od185) rfl (l' := #[vr a0, vi 0, vi 4, vr b375, vi 2, .unset]) rfl ?_
    refine XS.iload X376.here hx rfl (hb hby od186) rfl ?_
    refine XS.iloadN X376.here hx rfl (hb hby od187) rfl ?_
    refine XS.icmpNo X376.here hx rfl (hb hby od188) rfl (feq (by decide : ¬ ((2 : Int32) = (4 : Int32)))).1 ?_
    refine XS.aloadN X376.here hx rfl (hb hby od189) rfl rfl ?_
    refine XS.iloadN X376.here hx rfl (hb hby od190) rfl ?_
    refine XS.iloadN X376.here hx rfl (hb hby od191) rfl ?_
    refine st378 _ ?_
    refine XS.astore X378.here hx rfl (hb hby od193) rfl rfl (l' := #[vr a0, vi 0, vi 4, vr b375, vi 2, vr r378]) rfl ?_
    refine XS.aload X378.here hx rfl (hb hby od194) rfl rfl ?_
    refine XS.iload X378.here hx rfl (hb hby od195) rfl ?_
    refine st380 _ ?_
    refine XS.sipush X380.here hx rfl (hb hby od197) ?_
    refine XS.icmpYes X380.here hx rfl (pc0 := 38) (pc' := 54) rfl (hb hby od198) rfl (tlt hc_c2).2.2.1 (by decide) (by decide) ?_
    refine XS.aload X380.here hx rfl (hb hby od199) rfl rfl ?_
    exact own_retA X380 hx Bd.returns rfl rfl rfl (hb hby od200) hr
  · show Q_cmpA4_2 Z a0 kc1 c0 c1 c2 c3 h0 n0 _ T380.heap _
    rw [e380]
    exact ⟨_, _, rfl, N380, EX378, sz_r378, V378⟩
theorem own_ef_cmpI4_3 (m : MethodId) (a0 : Addr) (a2 : Addr) : entryFrame m #[(.ref a0), (.int 0), (.ref a2), (.int 0), (.int 4)] 7 = mkF m 0 #[vr a0, vi 0, vr a2, vi 0, vi 4, .unset, .unset] [] := by first | (simp [entryFrame, mkF, argsToLocals, Value.category]; done) | rfl
def Q_cmpI4_3 (Z : State) (a0 : Addr) (a2 : Addr) (kc1 : ClassId) (c0 : Int32) (c1 : Int32) (c2 : Int32) (c3 : Int32) (kb1 : ClassId) (h0 : Heap) (n0 : Nat) (v : Option Value) (h : Heap) (L : List Loc) : Prop := v = some (.int 3) ∧ Fr n0 L ∧ Keep h0 h [a2]
theorem rm_cmpI4_3 (l : Launch) (Z : State) (a0' : Array Value) (hw : ∀ d ∈ tables_1, d.before a0' Z = true) (ws : List Jvm.Cond) (a0 : Addr) (a2 : Addr) (kc1 : ClassId) (c0 : Int32) (c1 : Int32) (c2 : Int32) (c3 : Int32) (kb1 : ClassId) (h0 : Heap) (n0 : Nat) (Z0 : n0 ≤ h0.size) (VA : Arv Z h0 a0 kc1 .char (4 : Int32) [(.int c0), (.int c1), (.int c2), (.int c3)] (.int 0)) (VB : Arv Z h0 a2 kb1 .byte (4 : Int32) [(.int 0), (.int 0), (.int 0), (.int 0)] (.int 0)) (nab : a0 ≠ a2) (g2 : n0 ≤ a2) (hc_c0 : ¬ ((255 : Int32) < c0)) (hc_c1 : ¬ ((255 : Int32) < c1)) (hc_c2 : ¬ ((255 : Int32) < c2)) (hc_c3 : (255 : Int32) < c3) :
    MF l nm16 jdk_52_method_21_code 7 (some .int) ws (⟨0, 0, 0, 0⟩ : Room) #[(.ref a0), (.int 0), (.ref a2), (.int 0), (.int 4)] Z h0 (Q_cmpI4_3 Z a0 a2 kc1 c0 c1 c2 c3 kb1 h0 n0) := by
  refine MetFree.of_bodySF (plainFor_of_name own_pn3) hisR ?_
  intro p e s m args below meth c s₁ Bd hml0 hP hK
  obtain ⟨rfl, hZ, hh⟩ := hP
  have hx := Bd.exec
  have hby := Bd.bytes
  have hml : c.maxLocals = 7 := hml0
  have hown : s.vm.findClass "java/lang/StringUTF16" = some m.cls := findClass_of_methodNamed Bd.named
  have hnm := (name_of_methodNamed Bd.named Bd.method).1
  have X0 : Stand p l e (⟨0, 0, 0, 0⟩ : Room) s m #[(.ref a0), (.int 0), (.ref a2), (.int 0), (.int 4)] below meth c s₁ [] 0 0 := Stand.of_body Bd
  have e0 : s₁.heap = h0 := by rw [← hh, Bd.state]; rfl
  have N0 := Fr.nil n0
  have pre0 : PT p e below (s₁.setTop (mkF m 0 #[vr a0, vi 0, vr a2, vi 0, vi 4, .unset, .unset] [])) (s₁.setTop (entryFrame m #[(.ref a0), (.int 0), (.ref a2), (.int 0), (.int 4)] 7)) := fun t k => castTop (own_ef_cmpI4_3 m a0 a2) k
  have Vc382 := VA
  obtain ⟨cl382, Ar382, q382, S382, N_382, H382, G382⟩ := Vc382
  have hin382 : ¬ ((0 : Int32) < 0 ∨ cl382.slots.size ≤ ((0 : Int32)).toNatClampNeg) := inb_of S382 ⟨by decide, by decide⟩
  have hat382 : cl382.slots[((0 : Int32)).toNatClampNeg]? = some (.int c0) := H382 0 (by rw [S382]; decide)
  have Vc383 := VB
  obtain ⟨cl383, Ar383, q383, S383, N_383, H383, G383⟩ := Vc383
  have hin383 : ¬ ((0 : Int32) < 0 ∨ cl383.slots.size ≤ ((0 : Int32)).toNatClampNeg) := inb_of S383 ⟨by decide, by decide⟩
  obtain ⟨T384, h384, X384, e384, W384, st384⟩ := stB X0 hx hZ e0 Ar383 (j := (0 : Int32)) hin383 (g := (mkF m 31 #[vr a0, vi 0, vr a2, vi 0, vi 4, vi 0, vi c0] [(.int (c0.toInt8.toInt32)), (.int 0), (.ref a2)])) rfl rfl (hb hby od241)
  have V_a2_384 : Arv Z h384 a2 kb1 .byte (4 : Int32) [(.int (nar .byte (c0.toInt8.toInt32))), (.int 0), (.int 0), (.int 0)] (.int 0) := Arv.set Ar383 q383 S383 N_383 H383 G383 (fits_nar_byte _) W384 0 rfl (Nat.le_of_ble_eq_true rfl)
  have N384 := Fr.snoc X384 N0 g2
  have KP384 : Keep h0 h384 [a2] := (Keep.refl h0 [a2]).wr W384 (Or.inl (List.mem_of_getElem? (i := 0) rfl))
  have SZ384 : h0.size ≤ h384.size := KP384.1
  have Z384 : n0 ≤ h384.size := Nat.le_trans Z0 SZ384
  have fx385 := (VA.other W384 nab)
  have Vc386 := fx385
  obtain ⟨cl386, Ar386, q386, S386, N_386, H386, G386⟩ := Vc386
  have hin386 : ¬ (((0 : Int32) + (1 : Int32)) < 0 ∨ cl386.slots.size ≤ (((0 : Int32) + (1 : Int32))).toNatClampNeg) := inb_of S386 ⟨by decide, by decide⟩
  have hat386 : cl386.slots[(((0 : Int32) + (1 : Int32))).toNatClampNeg]? = some (.int c1) := H386 1 (by rw [S386]; decide)
  have Vc387 := V_a2_384
  obtain ⟨cl387, Ar387, q387, S387, N_387, H387, G387⟩ := Vc387
  have hin387 : ¬ (((0 : Int32) + (1 : Int32)) < 0 ∨ cl387.slots.size ≤ (((0 : Int32) + (1 : Int32))).toNatClampNeg) := inb_of S387 ⟨by decide, by decide⟩
  obtain ⟨T388, h388, X388, e388, W388, st388⟩ := stB X384 hx hZ e384 Ar387 (j := ((0 : Int32) + (1 : Int32))) hin387 (g := (mkF m 31 #[vr a0, vi ((0 : Int32) + (1 : Int32)), vr a2, vi ((0 : Int32) + (1 : Int32)), vi 4, vi ((0 : Int32) + (1 : Int32)), vi c1] [(.int (c1.toInt8.toInt32)), (.int ((0 : Int32) + (1 : Int32))), (.ref a2)])) rfl rfl (hb hby od241)
  have V_a2_388 : Arv Z h388 a2 kb1 .byte (4 : Int32) [(.int (nar .byte (c0.toInt8.toInt32))), (.int (nar .byte (c1.toInt8.toInt32))), (.int 0), (.int 0)] (.int 0) := Arv.set Ar387 q387 S387 N_387 H387 G387 (fits_nar_byte _) W388 1 rfl (Nat.le_of_ble_eq_true rfl)
  have N388 := Fr.snoc X388 N384 g2
  have KP388 : Keep h0 h388 [a2] := KP384.wr W388 (Or.inl (List.mem_of_getElem? (i := 0) rfl))
  have SZ388 : h0.size ≤ h388.size := KP388.1
  have Z388 : n0 ≤ h388.size := Nat.le_trans Z0 SZ388
  have fx389 := (fx385.other W388 nab)
  have Vc390 := fx389
  obtain ⟨cl390, Ar390, q390, S390, N_390, H390, G390⟩ := Vc390
  have hin390 : ¬ ((((0 : Int32) + (1 : Int32)) + (1 : Int32)) < 0 ∨ cl390.slots.size ≤ ((((0 : Int32) + (1 : Int32)) + (1 : Int32))).toNatClampNeg) := inb_of S390 ⟨by decide, by decide⟩
  have hat390 : cl390.slots[((((0 : Int32) + (1 : Int32)) + (1 : Int32))).toNatClampNeg]? = some (.int c2) := H390 2 (by rw [S390]; decide)
  have Vc391 := V_a2_388
  obtain ⟨cl391, Ar391, q391, S391, N_391, H391, G391⟩ := Vc391
  have hin391 : ¬ ((((0 : Int32) + (1 : Int32)) + (1 : Int32)) < 0 ∨ cl391.slots.size ≤ ((((0 : Int32) + (1 : Int32)) + (1 : Int32))).toNatClampNeg) := inb_of S391 ⟨by decide, by decide⟩
  obtain ⟨T392, h392, X392, e392, W392, st392⟩ := stB X388 hx hZ e388 Ar391 (j := (((0 : Int32) + (1 : Int32)) + (1 : Int32))) hin391 (g := (mkF m 31 #[vr a0, vi (((0 : Int32) + (1 : Int32)) + (1 : Int32)), vr a2, vi (((0 : Int32) + (1 : Int32)) + (1 : Int32)), vi 4, vi (((0 : Int32) + (1 : Int32)) + (1 : Int32)), vi c2] [(.int (c2.toInt8.toInt32)), (.int (((0 : Int32) + (1 : Int32)) + (1 : Int32))), (.ref a2)])) rfl rfl (hb hby od241)
  have V_a2_392 : Arv Z h392 a2 kb1 .byte (4 : Int32) [(.int (nar .byte (c0.toInt8.toInt32))), (.int (nar .byte (c1.toInt8.toInt32))), (.int (nar .byte (c2.toInt8.toInt32))), (.int 0)] (.int 0) := Arv.set Ar391 q391 S391 N_391 H391 G391 (fits_nar_byte _) W392 2 rfl (Nat.le_of_ble_eq_true rfl)
  have N392 := Fr.snoc X392 N388 g2
  have KP392 : Keep h0 h392 [a2] := KP388.wr W392 (Or.inl (List.mem_of_getElem? (i := 0) rfl))
  have SZ392 : h0.size ≤ h392.size := KP392.1
  have Z392 : n0 ≤ h392.size := Nat.le_trans Z0 SZ392
  have fx393 := (fx389.other W392 nab)
  have Vc394 := fx393
  obtain ⟨cl394, Ar394, q394, S394, N_394, H394, G394⟩ := Vc394
  have hin394 : ¬ (((((0 : Int32) + (1 : Int32)) + (1 : Int32)) + (1 : Int32)) < 0 ∨ cl394.slots.size ≤ (((((0 : Int32) + (1 : Int32)) + (1 : Int32)) + (1 : Int32))).toNatClampNeg) := inb_of S394 ⟨by decide, by decide⟩
  have hat394 : cl394.slots[(((((0 : Int32) + (1 : Int32)) + (1 : Int32)) + (1 : Int32))).toNatClampNeg]? = some (.int c3) := H394 3 (by rw [S394]; decide)
  obtain ⟨fs, hr, hrun, hended, hW, hsame⟩ := X392.leave (v := some (.int ((((0 : Int32) + (1 : Int32)) + (1 : Int32)) + (1 : Int32)))) (fun h => by rw [Bd.returns] at h; cases h)
  refine ⟨_, _, pre0 _ ?_, hrun, hended, _, _, rfl, ?_, ⟨_, rfl⟩, hW, hsame.mono (by decide) (by decide)⟩
  · show Steps p.tables e below (s₁.setTop (mkF m 0 #[vr a0, vi 0, vr a2, vi 0, vi 4, .unset, .unset] [])) _
    refine XS.iconst X0.here hx rfl (hb hby od162) ?_
    refine XS.istore X0.here hx rfl (hb hby od163) rfl (l' := #[vr a0, vi 0, vr a2, vi 0, vi 4, vi 0, .unset]) rfl ?_
    refine XS.iload X0.here hx rfl (hb hby od164) rfl ?_
    refine XS.iload X0.here hx rfl (hb hby od165) rfl ?_
    refine XS.icmpNo X0.here hx rfl (hb hby od166) rfl (tlt (by decide : (0 : Int32) < (4 : Int32))).2.1 ?_
    refine XS.aloadN X0.here hx rfl (hb hby od167) rfl rfl ?_
    refine XS.iloadN X0.here hx rfl (hb hby od168) rfl ?_
    refine X0.caload hx (j := (0 : Int32)) (v := (.int c0)) (by rw [e0]; exact Ar382.1) (State.isArrayOf_alike hZ.alike Ar382.2.1) Ar382.2.2 hin382 hat382 (g := (mkF m 12 #[vr a0, vi 0, vr a2, vi 0, vi 4, vi 0, .unset] [(.int 0), (.ref a0)])) rfl rfl (hb hby od169) _ ?_
    refine XS.istore X0.here hx rfl (hb hby od170) rfl (l' := #[vr a0, vi 0, vr a2, vi 0, vi 4, vi 0, vi c0]) rfl ?_
    refine XS.iload X0.here hx rfl (hb hby od171) rfl ?_
    refine XS.sipush X0.here hx rfl (hb hby od172) ?_
    refine XS.icmpYes X0.here hx rfl (pc0 := 20) (pc' := 26) rfl (hb hby od173) rfl (flt hc_c0).2.2.2 (by decide) (by decide) ?_
    refine XS.aloadN X0.here hx rfl (hb hby od237) rfl rfl ?_
    refine XS.iloadN X0.here hx rfl (hb hby od238) rfl ?_
    refine XS.iload X0.here hx rfl (hb hby od239) rfl ?_
    refine XS.i2b X0.here hx rfl (hb hby od240) rfl ?_
    refine st384 _ ?_
    refine XS.iinc X384.here hx rfl (hb hby od242) rfl (l' := #[vr a0, vi ((0 : Int32) + (1 : Int32)), vr a2, vi 0, vi 4, vi 0, vi c0]) rfl ?_
    refine XS.iinc X384.here hx rfl (hb hby od243) rfl (l' := #[vr a0, vi ((0 : Int32) + (1 : Int32)), vr a2, vi ((0 : Int32) + (1 : Int32)), vi 4, vi 0, vi c0]) rfl ?_
    refine XS.iinc X384.here hx rfl (hb hby od244) rfl (l' := #[vr a0, vi ((0 : Int32) + (1 : Int32)), vr a2, vi ((0 : Int32) + (1 : Int32)), vi 4, vi ((0 : Int32) + (1 : Int32)), vi c0]) rfl ?_
    refine XS.goto X384.here hx rfl (pc0 := 41) (pc' := 3) rfl (hb hby od245) (by decide) (by decide) ?_
    refine XS.iload X384.here hx rfl (hb hby od164) rfl ?_
    refine XS.iload X384.here hx rfl (hb hby od165) rfl ?_
    refine XS.icmpNo X384.here hx rfl (hb hby od166) rfl (tlt (by decide : ((0 : Int32) + (1 : Int32)) < (4 : Int32))).2.1 ?_
    refine XS.aloadN X384.here hx rfl (hb hby od167) rfl rfl ?_
    refine XS.iloadN X384.here hx rfl (hb hby od168) rfl ?_
    refine X384.caload hx (j := ((0 : Int32) + (1 : Int32))) (v := (.int c1)) (by rw [e384]; exact Ar386.1) (State.isArrayOf_alike hZ.alike Ar386.2.1) Ar386.2.2 hin386 hat386 (g := (mkF m 12 #[vr a0, vi ((0 : Int32) + (1 : Int32)), vr a2, vi ((0 : Int32) + (1 : Int32)), vi 4, vi ((0 : Int32) + (1 : Int32)), vi c0] [(.int ((0 : Int32) + (1 : Int32))), (.ref a0)])) rfl rfl (hb hby od169) _ ?_
    refine XS.istore X384.here hx rfl (hb hby od170) rfl (l' := #[vr a0, vi ((0 : Int32) + (1 : Int32)), vr a2, vi ((0 : Int32) + (1 : Int32)), vi 4, vi ((0 : Int32) + (1 : Int32)), vi c1]) rfl ?_
    refine XS.iload X384.here hx rfl (hb hby od171) rfl ?_
    refine XS.sipush X384.here hx rfl (hb hby od172) ?_
    refine XS.icmpYes X384.here hx rfl (pc0 := 20) (pc' := 26) rfl (hb hby od173) rfl (flt hc_c1).2.2.2 (by decide) (by decide) ?_
    refine XS.aloadN X384.here hx rfl (hb hby od237) rfl rfl ?_
    refine XS.iloadN X384.here hx rfl (hb hby od238) rfl ?_
    refine XS.iload X384.here hx rfl (hb hby od239) rfl ?_
    refine XS.i2b X384.here hx rfl (hb hby od240) rfl ?_
    refine st388 _ ?_
    refine XS.iinc X388.here hx rfl (hb hby od242) rfl (l' := #[vr a0, vi (((0 : Int32) + (1 : Int32)) + (1 : Int32)), vr a2, vi ((0 : Int32) + (1 : Int32)), vi 4, vi ((0 : Int32) + (1 : Int32)), vi c1]) rfl ?_
    refine XS.iinc X388.here hx rfl (hb hby od243) rfl (l' := #[vr a0, vi (((0 : Int32) + (1 : Int32)) + (1 : Int32)), vr a2, vi (((0 : Int32) + (1 : Int32)) + (1 : Int32)), vi 4, vi ((0 : Int32) + (1 : Int32)), vi c1]) rfl ?_
    refine XS.iinc X388.here hx rfl (hb hby od244) rfl (l' := #[vr a0, vi (((0 : Int32) + (1 : Int32)) + (1 : Int32)), vr a2, vi (((0 : Int32) + (1 : Int32)) + (1 : Int32)), vi 4, vi (((0 : Int32) + (1 : Int32)) + (1 : Int32)), vi c1]) rfl ?_
    refine XS.goto X388.here hx rfl (pc0 := 41) (pc' := 3) rfl (hb hby od245) (by decide) (by decide) ?_
    refine XS.iload X388.here hx rfl (hb hby od164) rfl ?_
    refine XS.iload X388.here hx rfl (hb hby od165) rfl ?_
    refine XS.icmpNo X388.here hx rfl (hb hby od166) rfl (tlt (by decide : (((0 : Int32) + (1 : Int32)) + (1 : Int32)) < (4 : Int32))).2.1 ?_
    refine XS.aloadN X388.here hx rfl (hb hby od167) rfl rfl ?_
    refine XS.iloadN X388.here hx rfl (hb hby od168) rfl ?_
    refine X388.caload hx (j := (((0 : Int32) + (1 : Int32)) + (1 : Int32))) (v := (.int c2)) (by rw [e388]; exact Ar390.1) (State.isArrayOf_alike hZ.alike Ar390.2.1) Ar390.2.2 hin390 hat390 (g := (mkF m 12 #[vr a0, vi (((0 : Int32) + (1 : Int32)) + (1 : Int32)), vr a2, vi (((0 : Int32) + (1 : Int32)) + (1 : Int32)), vi 4, vi (((0 : Int32) + (1 : Int32)) + (1 : Int32)), vi c1] [(.int (((0 : Int32) + (1 : Int32)) + (1 : Int32))), (.ref a0)])) rfl rfl (hb hby od169) _ ?_
    refine XS.istore X388.here hx rfl (hb hby od170) rfl (l' := #[vr a0, vi (((0 : Int32) + (1 : Int32)) + (1 : Int32)), vr a2, vi (((0 : Int32) + (1 : Int32)) + (1 : Int32)), vi 4, vi (((0 : Int32) + (1 : Int32)) + (1 : Int32)), vi c2]) rfl ?_
    refine XS.iload X388.here hx rfl (hb hby od171) rfl ?_
    refine XS.sipush X388.here hx rfl (hb hby od172) ?_
    refine XS.icmpYes X388.here hx rfl (pc0 := 20) (pc' := 26) rfl (hb hby od173) rfl (flt hc_c2).2.2.2 (by decide) (by decide) ?_
    refine XS.aloadN X388.here hx rfl (hb hby od237) rfl rfl ?_
    refine XS.iloadN X388.here hx rfl (hb hby od238) rfl ?_
    refine XS.iload X388.here hx rfl (hb hby od239) rfl ?_
    refine XS.i2b X388.here hx rfl (hb hby od240) rfl ?_
    refine st392 _ ?_
    refine XS.iinc X392.here hx rfl (hb hby od242) rfl (l' := #[vr a0, vi ((((0 : Int32) + (1 : Int32)) + (1 : Int32)) + (1 : Int32)), vr a2, vi (((0 : Int32) + (1 : Int32)) + (1 : Int32)), vi 4, vi (((0 : Int32) + (1 : Int32)) + (1 : Int32)), vi c2]) rfl ?_
    refine XS.iinc X392.here hx rfl (hb hby od243) rfl (l' := #[vr a0, vi ((((0 : Int32) + (1 : Int32)) + (1 : Int32)) + (1 : Int32)), vr a2, vi ((((0 : Int32) + (1 : Int32)) + (1 : Int32)) + (1 : Int32)), vi 4, vi (((0 : Int32) + (1 : Int32)) + (1 : Int32)), vi c2]) rfl ?_
    refine XS.iinc X392.here hx rfl (hb hby od244) rfl (l' := #[vr a0, vi ((((0 : Int32) + (1 : Int32)) + (1 : Int32)) + (1 : Int32)), vr a2, vi ((((0 : Int32) + (1 : Int32)) + (1 : Int32)) + (1 : Int32)), vi 4, vi ((((0 : Int32) + (1 : Int32)) + (1 : Int32)) + (1 : Int32)), vi c2]) rfl ?_
    refine XS.goto X392.here hx rfl (pc0 := 41) (pc' := 3) rfl (hb hby od245) (by decide) (by decide) ?_
    refine XS.iload X392.here hx rfl (hb hby od164) rfl ?_
    refine XS.iload X392.here hx rfl (hb hby od165) rfl ?_
    refine XS.icmpNo X392.here hx rfl (hb hby od166) rfl (tlt (by decide : ((((0 : Int32) + (1 : Int32)) + (1 : Int32)) + (1 : Int32)) < (4 : Int32))).2.1 ?_
    refine XS.aloadN X392.here hx rfl (hb hby od167) rfl rfl ?_
    refine XS.iloadN X392.here hx rfl (hb hby od168) rfl ?_
    refine X392.caload hx (j := ((((0 : Int32) + (1 : Int32)) + (1 : Int32)) + (1 : Int32))) (v := (.int c3)) (by rw [e392]; exact Ar394.1) (State.isArrayOf_alike hZ.alike Ar394.2.1) Ar394.2.2 hin394 hat394 (g := (mkF m 12 #[vr a0, vi ((((0 : Int32) + (1 : Int32)) + (1 : Int32)) + (1 : Int32)), vr a2, vi ((((0 : Int32) + (1 : Int32)) + (1 : Int32)) + (1 : Int32)), vi 4, vi ((((0 : Int32) + (1 : Int32)) + (1 : Int32)) + (1 : Int32)), vi c2] [(.int ((((0 : Int32) + (1 : Int32)) + (1 : Int32)) + (1 : Int32))), (.ref a0)])) rfl rfl (hb hby od169) _ ?_
    refine XS.istore X392.here hx rfl (hb hby od170) rfl (l' := #[vr a0, vi ((((0 : Int32) + (1 : Int32)) + (1 : Int32)) + (1 : Int32)), vr a2, vi ((((0 : Int32) + (1 : Int32)) + (1 : Int32)) + (1 : Int32)), vi 4, vi ((((0 : Int32) + (1 : Int32)) + (1 : Int32)) + (1 : Int32)), vi c3]) rfl ?_
    refine XS.iload X392.here hx rfl (hb hby od171) rfl ?_
    refine XS.sipush X392.here hx rfl (hb hby od172) ?_
    refine XS.icmpNo X392.here hx rfl (hb hby od173) rfl (tlt hc_c3).2.2.2 ?_
    refine XS.iload X392.here hx rfl (hb hby od174) rfl ?_
    exact own_retI X392 hx Bd.returns (hb hby od175) hr
  · show Q_cmpI4_3 Z a0 a2 kc1 c0 c1 c2 c3 kb1 h0 n0 _ T392.heap _
    rw [e392]
    exact ⟨rfl, N392, KP392⟩
theorem own_ef_cmpA4_3 (m : MethodId) (a0 : Addr) : entryFrame m #[(.ref a0), (.int 0), (.int 4)] 6 = mkF m 0 #[vr a0, vi 0, vi 4, .unset, .unset, .unset] [] := by first | (simp [entryFrame, mkF, argsToLocals, Value.category]; done) | rfl
def Q_cmpA4_3 (Z : State) (a0 : Addr) (kc1 : ClassId) (c0 : Int32) (c1 : Int32) (c2 : Int32) (c3 : Int32) (h0 : Heap) (n0 : Nat) (v : Option Value) (h : Heap) (L : List Loc) : Prop := ∃ (r : Addr) (k : ClassId), v = some (.ref r) ∧ Fr n0 L ∧ Ext h0 h ∧ h0.size ≤ r ∧ Arv Z h r k .byte (8 : Int32) [(.int (nar .byte ((c0 >>> ((0 : Int32) &&& 31)).toInt8.toInt32))), (.int (nar .byte ((c0 >>> ((8 : Int32) &&& 31)).toInt8.toInt32))), (.int (nar .byte ((c1 >>> ((0 : Int32) &&& 31)).toInt8.toInt32))), (.int (nar .byte ((c1 >>> ((8 : Int32) &&& 31)).toInt8.toInt32))), (.int (nar .byte ((c2 >>> ((0 : Int32) &&& 31)).toInt8.toInt32))), (.int (nar .byte ((c2 >>> ((8 : Int32) &&& 31)).toInt8.toInt32))), (.int (nar .byte ((c3 >>> ((0 : Int32) &&& 31)).toInt8.toInt32))), (.int (nar .byte ((c3 >>> ((8 : Int32) &&& 31)).toInt8.toInt32)))] (.int 0)
theorem rm_cmpA4_3 (l : Launch) (Z : State) (a0' : Array Value) (hw : ∀ d ∈ tables_1, d.before a0' Z = true) (ws : List Jvm.Cond) (a0 : Addr) (kc1 : ClassId) (c0 : Int32) (c1 : Int32) (c2 : Int32) (c3 : Int32) (h0 : Heap) (n0 : Nat) (Z0 : n0 ≤ h0.size) (VA : Arv Z h0 a0 kc1 .char (4 : Int32) [(.int c0), (.int c1), (.int c2), (.int c3)] (.int 0)) (hc_c0 : ¬ ((255 : Int32) < c0)) (hc_c1 : ¬ ((255 : Int32) < c1)) (hc_c2 : ¬ ((255 : Int32) < c2)) (hc_c3 : (255 : Int32) < c3) (hb_c3 : 0 ≤ c3.toInt ∧ c3.toInt ≤ 65535) (S_ad : Sta Z h0 "java/lang/StringUTF16" "$assertionsDisabled" "Z" (.int 1)) (S_hi : Sta Z h0 "java/lang/StringUTF16" "HI_BYTE_SHIFT" "I" (.int 0)) (S_lo : Sta Z h0 "java/lang/StringUTF16" "LO_BYTE_SHIFT" "I" (.int 8)) :
    MF l nm17 jdk_52_method_16_code 6 (some (.array .byte)) ws (⟨3, 2, 12, 40⟩ : Room) #[(.ref a0), (.int 0), (.int 4)] Z h0 (Q_cmpA4_3 Z a0 kc1 c0 c1 c2 c3 h0 n0) := by
  refine MetFree.of_bodySF (plainFor_of_name own_pn3) hisR ?_
  intro p e s m args below meth c s₁ Bd hml0 hP hK
  obtain ⟨rfl, hZ, hh⟩ := hP
  have hx := Bd.exec
  have hby := Bd.bytes
  have hml : c.maxLocals = 6 := hml0
  have hown : s.vm.findClass "java/lang/StringUTF16" = some m.cls := findClass_of_methodNamed Bd.named
  have hnm := (name_of_methodNamed Bd.named Bd.method).1
  have X0 : Stand p l e (⟨3, 2, 12, 40⟩ : Room) s m #[(.ref a0), (.int 0), (.int 4)] below meth c s₁ [] 0 0 := Stand.of_body Bd
  have e0 : s₁.heap = h0 := by rw [← hh, Bd.state]; rfl
  have N0 := Fr.nil n0
  have pre0 : PT p e below (s₁.setTop (mkF m 0 #[vr a0, vi 0, vi 4, .unset, .unset, .unset] [])) (s₁.setTop (entryFrame m #[(.ref a0), (.int 0), (.int 4)] 6)) := fun t k => castTop (own_ef_cmpA4_3 m a0) k
  obtain ⟨T395, h395, k395, X395, e395, E395, A395, st395⟩ := newP X0 hx hZ (ow hw 17 rfl) e0 (g := (mkF m 1 #[vr a0, vi 0, vi 4, .unset, .unset, .unset] [(.int 4)])) rfl (hb hby od177) rfl (by decide) (cap := 4) (by decide) (by decide) (by decide) (by decide)
  obtain ⟨b395, g395⟩ : ∃ z, z = h0.size := ⟨_, rfl⟩
  rw [← g395] at A395 st395
  have ne395_a0_b395 : a0 ≠ b395 := Nat.ne_of_lt (Nat.lt_of_lt_of_le VA.lt (Nat.le_of_eq g395.symm))
  have V_b395 : Arv Z h395 b395 k395 .byte (4 : Int32) [(.int 0), (.int 0), (.int 0), (.int 0)] (.int 0) := (Arv.new A395 (by decide)).pad (pad_rep [] (.int 0) 4)
  have g_b395 : n0 ≤ b395 := Nat.le_trans Z0 (Nat.le_of_eq g395.symm)
  have sz_b395 : h0.size ≤ b395 := Nat.le_trans (Nat.le_refl _) (Nat.le_of_eq g395.symm)
  have EX395 : Ext h0 h395 := E395
  have SZ395 : h0.size ≤ h395.size := EX395.1
  have Z395 : n0 ≤ h395.size := Nat.le_trans Z0 SZ395
  have fx397 := (VA.ext E395)
  obtain ⟨_, _, ⟨T396, L396, k396, n396⟩, -, X396, ⟨Lc396, hQ396, l396, y396, z396⟩, st396⟩ := Jvm.LawKit.callS X395 hx (y := nm16) hown (mvT hZ (ow hw 43 rfl)) (mvT hZ (ow hw 44 rfl)) (mvT hZ (ow hw 41 rfl)) (mvT hZ (ow hw 45 rfl)) (by decide) (backOf (W := 0) (rm_cmpI4_3 l Z a0' hw [] a0 b395 kc1 c0 c1 c2 c3 k395 h395 n0 Z395 fx397 V_b395 ne395_a0_b395 g_b395 hc_c0 hc_c1 hc_c2 hc_c3) hZ (ow hw 45 rfl) (ow hw 41 rfl) (by decide) (by decide)) (g := (mkF m 9 #[vr a0, vi 0, vi 4, vr b395, .unset, .unset] [(.int 4), (.int 0), (.ref b395), (.int 0), (.ref a0)])) rfl (by rw [hml]; rfl) (argsL := [(.ref a0), (.int 0), (.ref b395), (.int 0), (.int 4)]) (rest := []) (lenOf own_pd10 rfl) rfl (by show 2 * 0 + _ ≤ _; exact Nat.le_of_eq rfl) (hb hby od184) (fun _ _ => ⟨rfl, e395, (by decide : 1 + 0 ≤ _), (by decide : 4 + 0 ≤ _)⟩)
  dsimp only [Pt.U, Pt.locs, Pt.cells, Pt.slots] at X396 l396 y396 z396 st396 hQ396
  subst l396 y396 z396
  obtain ⟨rfl, N396q, K396⟩ := hQ396
  have N396 := Fr.app N0 N396q
  have EX396 : Ext h0 T396.heap := own_extkeep EX395 K396 sz_b395
  have SZ396 : h0.size ≤ T396.heap.size := EX396.1
  have Z396 : n0 ≤ T396.heap.size := Nat.le_trans Z0 SZ396
  have fx399 := (fx397.keep K396 (ninS ne395_a0_b395 nin0))
  obtain ⟨_, _, ⟨T398, L398, k398, n398⟩, -, X398, ⟨Lc398, hQ398, l398, y398, z398⟩, st398⟩ := Jvm.LawKit.callS X396 hx (y := nm15) hown (mvT hZ (ow hw 88 rfl)) (mvT hZ (ow hw 89 rfl)) (mvT hZ (ow hw 41 rfl)) (mvT hZ (ow hw 90 rfl)) (by decide) (backOf (W := 0) (rm_tob4 l Z a0' hw [] a0 kc1 c0 c1 c2 c3 T396.heap n0 Z396 fx399 (S_ad.ext EX396) (S_hi.ext EX396) (S_lo.ext EX396)) hZ (ow hw 90 rfl) (ow hw 41 rfl) (by decide) (by decide)) (g := (mkF m 23 #[vr a0, vi 0, vi 4, vr b395, vi 3, .unset] [(.int 4), (.int 0), (.ref a0)])) rfl (by rw [hml]; rfl) (argsL := [(.ref a0), (.int 0), (.int 4)]) (rest := []) (lenOf own_pd11 rfl) rfl (by show 2 * 0 + _ ≤ _; exact Nat.le_of_eq rfl) (hb hby od192) (fun _ _ => ⟨rfl, rfl, (by decide : 1 + 1 ≤ _), (by decide : 4 + 8 ≤ _)⟩)
  dsimp only [Pt.U, Pt.locs, Pt.cells, Pt.slots] at X398 l398 y398 z398 st398 hQ398
  subst l398 y398 z398
  obtain ⟨r398, kk398, rfl, N398q, E398, zz398, V398⟩ := hQ398
  have N398 := Fr.app N396 N398q
  have ne398_a0_r398 : a0 ≠ r398 := Nat.ne_of_lt (Nat.lt_of_lt_of_le fx399.lt zz398)
  have g_r398 : n0 ≤ r398 := Nat.le_trans Z396 zz398
  have sz_r398 : h0.size ≤ r398 := Nat.le_trans SZ396 zz398
  have EX398 : Ext h0 T398.heap := own_exttr EX396 E398
  have SZ398 : h0.size ≤ T398.heap.size := EX398.1
  have Z398 : n0 ≤ T398.heap.size := Nat.le_trans Z0 SZ398
  have Vc401 := V398
  obtain ⟨cl401, Ar401, q401, S401, N_401, H401, G401⟩ := Vc401
  obtain ⟨_, _, ⟨T400, L400, k400, n400⟩, -, X400, ⟨Lc400, hQ400, l400, y400, z400⟩, st400⟩ := Jvm.LawKit.callS X398 hx (y := nm5) hown (mvT hZ (ow hw 104 rfl)) (mvT hZ (ow hw 105 rfl)) (mvT hZ (ow hw 41 rfl)) (mvT hZ (ow hw 106 rfl)) (by decide) (backOf (W := 0) (rm_getC l Z a0' hw [] r398 (3 : Int32) cl401 (nar .byte ((c3 >>> ((0 : Int32) &&& 31)).toInt8.toInt32)) (nar .byte ((c3 >>> ((8 : Int32) &&& 31)).toInt8.toInt32)) T398.heap n0 Z398 Ar401 (inb_of S401 ⟨by decide, by decide⟩) (H401 6 (by rw [S401]; decide)) (inb_of S401 ⟨by decide, by decide⟩) (H401 7 (by rw [S401]; decide)) (S_ad.ext EX398) (S_hi.ext EX398) (S_lo.ext EX398)) hZ (ow hw 106 rfl) (ow hw 41 rfl) (by decide) (by decide)) (g := (mkF m 32 #[vr a0, vi 0, vi 4, vr b395, vi 3, vr r398] [(.int 3), (.ref r398)])) rfl (by rw [hml]; rfl) (argsL := [(.ref r398), (.int 3)]) (rest := []) (lenOf own_pd4 rfl) rfl (by show 2 * 0 + _ ≤ _; exact Nat.le_of_eq rfl) (hb hby od196) (fun _ _ => ⟨rfl, rfl, (by decide : 2 + 0 ≤ _), (by decide : 12 + 0 ≤ _)⟩)
  dsimp only [Pt.U, Pt.locs, Pt.cells, Pt.slots] at X400 l400 y400 z400 st400 hQ400
  subst l400 y400 z400
  obtain ⟨rfl, N400q, e400⟩ := hQ400
  have N400 := Fr.app N398 N400q
  have q400 : (F_getC (nar .byte ((c3 >>> ((0 : Int32) &&& 31)).toInt8.toInt32)) (nar .byte ((c3 >>> ((8 : Int32) &&& 31)).toInt8.toInt32))) = c3 := by unfold F_getC; exact own_getc c3 hb_c3
  rw [q400] at st400
  obtain ⟨fs, hr, hrun, hended, hW, hsame⟩ := X400.leave (v := some (.ref r398)) (fun h => by rw [Bd.returns] at h; cases h)
  refine ⟨_, _, pre0 _ ?_, hrun, hended, _, _, rfl, ?_, ⟨_, rfl⟩, hW, hsame.mono (by decide) (by decide)⟩
  · show Steps p.tables e below (s₁.setTop (mkF m 0 #[vr a0, vi 0, vi 4, .unset, .unset, .unset] [])) _
    refine XS.iloadN X0.here hx rfl (hb hby od176) rfl ?_
    refine st395 _ ?_
    refine XS.astoreN X395.here hx rfl (hb hby od178) rfl rfl (l' := #[vr a0, vi 0, vi 4, vr b395, .unset, .unset]) rfl ?_
    refine XS.aloadN X395.here hx rfl (hb hby od179) rfl rfl ?_
    refine XS.iloadN X395.here hx rfl (hb hby od180) rfl ?_
    refine XS.aloadN X395.here hx rfl (hb hby od181) rfl rfl ?_
    refine XS.iconst X395.here hx rfl (hb hby od182) ?_
    refine XS.iloadN X395.here hx rfl (hb hby od183) rfl ?_
    refine st396 _ ?_
    refine XS.istore X396.here hx rfl (hb hby od185) rfl (l' := #[vr a0, vi 0, vi 4, vr b395, vi 3, .unset]) rfl ?_
    refine XS.iload X396.here hx rfl (hb hby od186) rfl ?_
    refine XS.iloadN X396.here hx rfl (hb hby od187) rfl ?_
    refine XS.icmpNo X396.here hx rfl (hb hby od188) rfl (feq (by decide : ¬ ((3 : Int32) = (4 : Int32)))).1 ?_
    refine XS.aloadN X396.here hx rfl (hb hby od189) rfl rfl ?_
    refine XS.iloadN X396.here hx rfl (hb hby od190) rfl ?_
    refine XS.iloadN X396.here hx rfl (hb hby od191) rfl ?_
    refine st398 _ ?_
    refine XS.astore X398.here hx rfl (hb hby od193) rfl rfl (l' := #[vr a0, vi 0, vi 4, vr b395, vi 3, vr r398]) rfl ?_
    refine XS.aload X398.here hx rfl (hb hby od194) rfl rfl ?_
    refine XS.iload X398.here hx rfl (hb hby od195) rfl ?_
    refine st400 _ ?_
    refine XS.sipush X400.here hx rfl (hb hby od197) ?_
    refine XS.icmpYes X400.here hx rfl (pc0 := 38) (pc' := 54) rfl (hb hby od198) rfl (tlt hc_c3).2.2.1 (by decide) (by decide) ?_
    refine XS.aload X400.here hx rfl (hb hby od199) rfl rfl ?_
    exact own_retA X400 hx Bd.returns rfl rfl rfl (hb hby od200) hr
  · show Q_cmpA4_3 Z a0 kc1 c0 c1 c2 c3 h0 n0 _ T400.heap _
    rw [e400]
    exact ⟨_, _, rfl, N400, EX398, sz_r398, V398⟩
theorem rm_cmpU4 (l : Launch) (Z : State) (a0' : Array Value) (hw : ∀ d ∈ tables_1, d.before a0' Z = true) (ws : List Jvm.Cond) (a0 : Addr) (kc1 : ClassId) (c0 : Int32) (c1 : Int32) (c2 : Int32) (c3 : Int32) (h0 : Heap) (n0 : Nat) (Z0 : n0 ≤ h0.size) (VA : Arv Z h0 a0 kc1 .char (4 : Int32) [(.int c0), (.int c1), (.int c2), (.int c3)] (.int 0)) (hup : ¬ (¬ ((255 : Int32) < c0) ∧ ¬ ((255 : Int32) < c1) ∧ ¬ ((255 : Int32) < c2) ∧ ¬ ((255 : Int32) < c3))) (hb_c0 : 0 ≤ c0.toInt ∧ c0.toInt ≤ 65535) (hb_c1 : 0 ≤ c1.toInt ∧ c1.toInt ≤ 65535) (hb_c2 : 0 ≤ c2.toInt ∧ c2.toInt ≤ 65535) (hb_c3 : 0 ≤ c3.toInt ∧ c3.toInt ≤ 65535) (S_ad : Sta Z h0 "java/lang/StringUTF16" "$assertionsDisabled" "Z" (.int 1)) (S_hi : Sta Z h0 "java/lang/StringUTF16" "HI_BYTE_SHIFT" "I" (.int 0)) (S_lo : Sta Z h0 "java/lang/StringUTF16" "LO_BYTE_SHIFT" "I" (.int 8)) :
    MF l nm17 jdk_52_method_16_code 6 (some (.array .byte)) ws (⟨3, 2, 12, 40⟩ : Room) #[(.ref a0), (.int 0), (.int 4)] Z h0 (Q_cmpA4_0 Z a0 kc1 c0 c1 c2 c3  h0 n0) := by
  by_cases q0 : (255 : Int32) < c0
  · exact rm_cmpA4_0 l Z a0' hw ws a0 kc1 c0 c1 c2 c3  h0 n0 Z0 VA q0 hb_c0 S_ad S_hi S_lo
  by_cases q1 : (255 : Int32) < c1
  · exact rm_cmpA4_1 l Z a0' hw ws a0 kc1 c0 c1 c2 c3  h0 n0 Z0 VA q0 q1 hb_c1 S_ad S_hi S_lo
  by_cases q2 : (255 : Int32) < c2
  · exact rm_cmpA4_2 l Z a0' hw ws a0 kc1 c0 c1 c2 c3  h0 n0 Z0 VA q0 q1 q2 hb_c2 S_ad S_hi S_lo
  by_cases q3 : (255 : Int32) < c3
  · exact rm_cmpA4_3 l Z a0' hw ws a0 kc1 c0 c1 c2 c3  h0 n0 Z0 VA q0 q1 q2 q3 hb_c3 S_ad S_hi S_lo
  exact absurd ⟨q0, q1, q2, q3⟩ hup
def F_cfu4  : Int32 := (nar .byte (((((4 : Int32) - (8 : Int32)).toUInt32 >>> ((31 : Int32) &&& 31).toUInt32).toInt32).toInt8.toInt32))
theorem own_ef_cfu4 (m : MethodId) (a0 : Addr) : entryFrame m #[(.ref a0), (.int 4)] 2 = mkF m 0 #[vr a0, vi 4] [] := by first | (simp [entryFrame, mkF, argsToLocals, Value.category]; done) | rfl
def Q_cfu4 (Z : State) (a0 : Addr) (kb1 : ClassId) (vs1 : List Value) (dv1 : Value) (h0 : Heap) (n0 : Nat) (v : Option Value) (h : Heap) (L : List Loc) : Prop := v = some (.int F_cfu4) ∧ Fr n0 L ∧ h = h0
theorem rm_cfu4 (l : Launch) (Z : State) (a0' : Array Value) (hw : ∀ d ∈ tables_1, d.before a0' Z = true) (ws : List Jvm.Cond) (a0 : Addr) (kb1 : ClassId) (vs1 : List Value) (dv1 : Value) (h0 : Heap) (n0 : Nat) (Z0 : n0 ≤ h0.size) (VB : Arv Z h0 a0 kb1 .byte (8 : Int32) vs1 dv1) :
    MF l nm18 jdk_52_method_15_code 2 (some .byte) ws (⟨0, 0, 0, 0⟩ : Room) #[(.ref a0), (.int 4)] Z h0 (Q_cfu4 Z a0 kb1 vs1 dv1 h0 n0) := by
  refine MetFree.of_bodySF (plainFor_of_name own_pn3) hisR ?_
  intro p e s m args below meth c s₁ Bd hml0 hP hK
  obtain ⟨rfl, hZ, hh⟩ := hP
  have hx := Bd.exec
  have hby := Bd.bytes
  have hml : c.maxLocals = 2 := hml0
  have hown : s.vm.findClass "java/lang/StringUTF16" = some m.cls := findClass_of_methodNamed Bd.named
  have hnm := (name_of_methodNamed Bd.named Bd.method).1
  have X0 : Stand p l e (⟨0, 0, 0, 0⟩ : Room) s m #[(.ref a0), (.int 4)] below meth c s₁ [] 0 0 := Stand.of_body Bd
  have e0 : s₁.heap = h0 := by rw [← hh, Bd.state]; rfl
  have N0 := Fr.nil n0
  have pre0 : PT p e below (s₁.setTop (mkF m 0 #[vr a0, vi 4] [])) (s₁.setTop (entryFrame m #[(.ref a0), (.int 4)] 2)) := fun t k => castTop (own_ef_cfu4 m a0) k
  have Vc402 := VB
  obtain ⟨cl402, Ar402, q402, S402, N_402, H402, G402⟩ := Vc402
  obtain ⟨fs, hr, hrun, hended, hW, hsame⟩ := X0.leave (v := some (.int (nar .byte (((((4 : Int32) - (8 : Int32)).toUInt32 >>> ((31 : Int32) &&& 31).toUInt32).toInt32).toInt8.toInt32)))) (fun h => by rw [Bd.returns] at h; cases h)
  refine ⟨_, _, pre0 _ ?_, hrun, hended, _, _, rfl, ?_, ⟨_, rfl⟩, hW, hsame.mono (by decide) (by decide)⟩
  · show Steps p.tables e below (s₁.setTop (mkF m 0 #[vr a0, vi 4] [])) _
    refine XS.iloadN X0.here hx rfl (hb hby od201) rfl ?_
    refine XS.aloadN X0.here hx rfl (hb hby od202) rfl rfl ?_
    refine X0.arraylength hx (by rw [e0]; exact Ar402.1) (State.isArrayOf_alike hZ.alike Ar402.2.1) (g := (mkF m 2 #[vr a0, vi 4] [(.ref a0), (.int 4)])) rfl rfl (hb hby od203) _ ?_
    rw [len_of S402 N_402]
    refine XS.isub X0.here hx rfl (hb hby od204) rfl ?_
    refine XS.bipush X0.here hx rfl (hb hby od205) ?_
    refine XS.iushr X0.here hx rfl (hb hby od206) rfl ?_
    refine XS.i2b X0.here hx rfl (hb hby od207) rfl ?_
    exact retN X0 hx (t := .byte) Bd.returns (by simp) (hb hby od208) hr
  · show Q_cfu4 Z a0 kb1 vs1 dv1 h0 n0 _ s₁.heap _
    refine ⟨?_, N0, e0⟩
    rw [F_cfu4]
theorem own_ef_in4U4 (m : MethodId) (a0 : Addr) (a1 : Addr) : entryFrame m #[(.ref a0), (.ref a1), (.int 0), (.int 4), .null] 6 = mkF m 0 #[vr a0, vr a1, vi 0, vi 4, .val .null, .unset] [] := by first | (simp [entryFrame, mkF, argsToLocals, Value.category]; done) | rfl
def Q_in4U4 (Z : State) (a0 : Addr) (a1 : Addr) (kc1 : ClassId) (c0 : Int32) (c1 : Int32) (c2 : Int32) (c3 : Int32) (kc : Int32) (h0 : Heap) (n0 : Nat) (v : Option Value) (h : Heap) (L : List Loc) : Prop := v = none ∧ Fr n0 L ∧ Keep h0 h [a0] ∧ Exa Z h a0 "java/lang/String" ∧ Fld Z h a0 "java/lang/String" "coder" "B" (.int 1) ∧ ∃ (b : Addr) (k : ClassId), Fld Z h a0 "java/lang/String" "value" "[B" (.ref b) ∧ Arv Z h b k .byte (8 : Int32) [(.int (nar .byte ((c0 >>> ((0 : Int32) &&& 31)).toInt8.toInt32))), (.int (nar .byte ((c0 >>> ((8 : Int32) &&& 31)).toInt8.toInt32))), (.int (nar .byte ((c1 >>> ((0 : Int32) &&& 31)).toInt8.toInt32))), (.int (nar .byte ((c1 >>> ((8 : Int32) &&& 31)).toInt8.toInt32))), (.int (nar .byte ((c2 >>> ((0 : Int32) &&& 31)).toInt8.toInt32))), (.int (nar .byte ((c2 >>> ((8 : Int32) &&& 31)).toInt8.toInt32))), (.int (nar .byte ((c3 >>> ((0 : Int32) &&& 31)).toInt8.toInt32))), (.int (nar .byte ((c3 >>> ((8 : Int32) &&& 31)).toInt8.toInt32)))] (.int 0)
theorem rm_in4U4 (l : Launch) (Z : State) (a0' : Array Value) (hw : ∀ d ∈ tables_1, d.before a0' Z = true) (ws : List Jvm.Cond) (a0 : Addr) (a1 : Addr) (kc1 : ClassId) (c0 : Int32) (c1 : Int32) (c2 : Int32) (c3 : Int32) (kc : Int32) (h0 : Heap) (n0 : Nat) (Z0 : n0 ≤ h0.size) (E_t : Exa Z h0 a0 "java/lang/String") (F0v : Fld Z h0 a0 "java/lang/String" "value" "[B" .null) (F0c : Fld Z h0 a0 "java/lang/String" "coder" "B" (.int 0)) (g_t : n0 ≤ a0) (VA : Arv Z h0 a1 kc1 .char (4 : Int32) [(.int c0), (.int c1), (.int c2), (.int c3)] (.int 0)) (na1 : a0 ≠ a1) (hup : ¬ (¬ ((255 : Int32) < c0) ∧ ¬ ((255 : Int32) < c1) ∧ ¬ ((255 : Int32) < c2) ∧ ¬ ((255 : Int32) < c3))) (hb_c0 : 0 ≤ c0.toInt ∧ c0.toInt ≤ 65535) (hb_c1 : 0 ≤ c1.toInt ∧ c1.toInt ≤ 65535) (hb_c2 : 0 ≤ c2.toInt ∧ c2.toInt ≤ 65535) (hb_c3 : 0 ≤ c3.toInt ∧ c3.toInt ≤ 65535) (S_cs : Sta Z h0 "java/lang/String" "COMPACT_STRINGS" "Z" (.int kc)) (hkc : ¬ (kc = (0 : Int32))) (S_ad : Sta Z h0 "java/lang/StringUTF16" "$assertionsDisabled" "Z" (.int 1)) (S_hi : Sta Z h0 "java/lang/StringUTF16" "HI_BYTE_SHIFT" "I" (.int 0)) (S_lo : Sta Z h0 "java/lang/StringUTF16" "LO_BYTE_SHIFT" "I" (.int 8)) :
    MF l nm19 jdk_42_method_149_code 6 none ws (⟨4, 2, 12, 57⟩ : Room) #[(.ref a0), (.ref a1), (.int 0), (.int 4), .null] Z h0 (Q_in4U4 Z a0 a1 kc1 c0 c1 c2 c3 kc h0 n0) := by
  refine MetFree.of_bodySF (plainFor_of_name own_pn1) hisR ?_
  intro p e s m args below meth c s₁ Bd hml0 hP hK
  obtain ⟨rfl, hZ, hh⟩ := hP
  have hx := Bd.exec
  have hby := Bd.bytes
  have hml : c.maxLocals = 6 := hml0
  have hown : s.vm.findClass "java/lang/String" = some m.cls := findClass_of_methodNamed Bd.named
  have hnm := (name_of_methodNamed Bd.named Bd.method).1
  have X0 : Stand p l e (⟨4, 2, 12, 57⟩ : Room) s m #[(.ref a0), (.ref a1), (.int 0), (.int 4), .null] below meth c s₁ [] 0 0 := Stand.of_body Bd
  have e0 : s₁.heap = h0 := by rw [← hh, Bd.state]; rfl
  have N0 := Fr.nil n0
  have pre0 : PT p e below (s₁.setTop (mkF m 0 #[vr a0, vr a1, vi 0, vi 4, .val .null, .unset] [])) (s₁.setTop (entryFrame m #[(.ref a0), (.ref a1), (.int 0), (.int 4), .null] 6)) := fun t k => castTop (own_ef_in4U4 m a0 a1) k
  obtain ⟨T403, X403, e403, st403⟩ := initO X0 hx hZ hown (ow hw 13 rfl) (ow hw 14 rfl) (ow hw 15 rfl) e0 (g := (mkF m 1 #[vr a0, vr a1, vi 0, vi 4, .val .null, .unset] [(.ref a0)])) rfl (by rw [hml]; rfl) rfl (hb hby od210) (by decide) (W := 0) (by show 2 * 0 + _ ≤ _; exact Nat.le_of_eq rfl) (by decide)
  obtain ⟨T404, X404, e404, st404⟩ := getS2 X403 hx hZ hown (host := "") (Or.inl (ow hw 38 rfl)) Via.refl e403 S_cs (g := (mkF m 27 #[vr a0, vr a1, vi 0, vi 4, .val .null, .unset] [])) rfl (hb hby od213)
  obtain ⟨_, _, ⟨T405, L405, k405, n405⟩, -, X405, ⟨Lc405, hQ405, l405, y405, z405⟩, st405⟩ := Jvm.LawKit.callS X404 hx (y := nm17) hown (mvT hZ (ow hw 39 rfl)) (mvT hZ (ow hw 40 rfl)) (mvT hZ (ow hw 41 rfl)) (mvT hZ (ow hw 42 rfl)) (by decide) (backOf (W := 0) (rm_cmpU4 l Z a0' hw [] a1 kc1 c0 c1 c2 c3 h0 n0 Z0 VA hup hb_c0 hb_c1 hb_c2 hb_c3 S_ad S_hi S_lo) hZ (ow hw 42 rfl) (ow hw 41 rfl) (by decide) (by decide)) (g := (mkF m 36 #[vr a0, vr a1, vi 0, vi 4, .val .null, .unset] [(.int 4), (.int 0), (.ref a1)])) rfl (by rw [hml]; rfl) (argsL := [(.ref a1), (.int 0), (.int 4)]) (rest := []) (lenOf own_pd11 rfl) rfl (by show 2 * 0 + _ ≤ _; exact Nat.le_of_eq rfl) (hb hby od218) (fun _ _ => ⟨rfl, e404, (by decide : 0 + 2 ≤ _), (by decide : 0 + 12 ≤ _)⟩)
  dsimp only [Pt.U, Pt.locs, Pt.cells, Pt.slots] at X405 l405 y405 z405 st405 hQ405
  subst l405 y405 z405
  obtain ⟨r405, kk405, rfl, N405q, E405, zz405, V405⟩ := hQ405
  have N405 := Fr.app N0 N405q
  have ne405_a0_r405 : a0 ≠ r405 := Nat.ne_of_lt (Nat.lt_of_lt_of_le E_t.lt zz405)
  have ne405_a1_r405 : a1 ≠ r405 := Nat.ne_of_lt (Nat.lt_of_lt_of_le VA.lt zz405)
  have g_r405 : n0 ≤ r405 := Nat.le_trans Z0 zz405
  have sz_r405 : h0.size ≤ r405 := Nat.le_trans (Nat.le_refl _) zz405
  have KP405 : Keep h0 T405.heap [a0] := (Keep.refl h0 [a0]).ext E405
  have SZ405 : h0.size ≤ T405.heap.size := KP405.1
  have Z405 : n0 ≤ T405.heap.size := Nat.le_trans Z0 SZ405
  obtain ⟨_, _, ⟨T406, L406, k406, n406⟩, -, X406, ⟨Lc406, hQ406, l406, y406, z406⟩, st406⟩ := Jvm.LawKit.callS X405 hx (y := nm18) hown (mvT hZ (ow hw 46 rfl)) (mvT hZ (ow hw 47 rfl)) (mvT hZ (ow hw 41 rfl)) (mvT hZ (ow hw 48 rfl)) (by decide) (backOf (W := 1) (rm_cfu4 l Z a0' hw [] r405 kk405 _ _ T405.heap n0 Z405 V405) hZ (ow hw 48 rfl) (ow hw 41 rfl) (by decide) (by decide)) (g := (mkF m 45 #[vr a0, vr a1, vi 0, vi 4, .val .null, vr r405] [(.int 4), (.ref r405), (.ref a0)])) rfl (by rw [hml]; rfl) (argsL := [(.ref r405), (.int 4)]) (rest := [(.ref a0)]) (lenOf own_pd12 rfl) rfl (by show 2 * 0 + _ ≤ _; exact Nat.le_of_eq rfl) (hb hby od223) (fun _ _ => ⟨rfl, rfl, (by decide : 2 + 0 ≤ _), (by decide : 12 + 0 ≤ _)⟩)
  dsimp only [Pt.U, Pt.locs, Pt.cells, Pt.slots] at X406 l406 y406 z406 st406 hQ406
  subst l406 y406 z406
  obtain ⟨rfl, N406q, e406⟩ := hQ406
  have N406 := Fr.app N405 N406q
  have q406 : F_cfu4 = (1 : Int32) := by decide
  rw [q406] at st406
  have fx408 := (E_t.ext E405)
  have fx409 := (F0c.ext E405)
  have Fo407 := fx409
  obtain ⟨T410, h410, X410, e410, W410, st410⟩ := putFN X406 hx hZ hown (ow hw 23 rfl) Via.refl e406 Fo407 fx408 (Or.inr ⟨(ow hw 19 rfl), rfl, hnm⟩) (ow hw 4 rfl) (ty := .byte) (v' := (.int (nar .byte (1 : Int32)))) (by decide) rfl (fits_nar_byte _) (g := (mkF m 48 #[vr a0, vr a1, vi 0, vi 4, .val .null, vr r405] [(.int 1), (.ref a0)])) rfl rfl (hb hby od224)
  have Fw410 : Fld Z h410 a0 "java/lang/String" "coder" "B" (.int 1) := Fo407.same W410
  have N410 := Fr.snoc X410 N406 g_t
  have KP410 : Keep h0 h410 [a0] := KP405.wr W410 (Or.inl (List.mem_of_getElem? (i := 0) rfl))
  have SZ410 : h0.size ≤ h410.size := KP410.1
  have Z410 : n0 ≤ h410.size := Nat.le_trans Z0 SZ410
  have fx412 := (fx408.wr W410)
  have fx413 := ((F0v.ext E405).other W410 (Or.inr (slot_ne (a0 := a0') (Or.inr (ow hw 18 rfl)) (Or.inr (ow hw 19 rfl)) (by decide) (t := (.array .byte)) (t' := .byte) (by decide) (by decide))))
  have Fo411 := fx413
  obtain ⟨T414, h414, X414, e414, W414, st414⟩ := putF X410 hx hZ hown (host := "") (Or.inl (ow hw 22 rfl)) Via.refl e410 Fo411 fx412 (Or.inr ⟨(ow hw 18 rfl), rfl, hnm⟩) (ow hw 4 rfl) (ty := (.array .byte)) (by decide) rfl rfl (g := (mkF m 54 #[vr a0, vr a1, vi 0, vi 4, .val .null, vr r405] [(.ref r405), (.ref a0)])) rfl rfl (hb hby od227)
  have Fw414 : Fld Z h414 a0 "java/lang/String" "value" "[B" (.ref r405) := Fo411.same W414
  have N414 := Fr.snoc X414 N410 g_t
  have KP414 : Keep h0 h414 [a0] := KP410.wr W414 (Or.inl (List.mem_of_getElem? (i := 0) rfl))
  have SZ414 : h0.size ≤ h414.size := KP414.1
  have Z414 : n0 ≤ h414.size := Nat.le_trans Z0 SZ414
  have fx415 := (fx412.wr W414)
  have fx416 := (Fw410.other W414 (Or.inr (slot_ne (a0 := a0') (Or.inr (ow hw 19 rfl)) (Or.inr (ow hw 18 rfl)) (by decide) (t := .byte) (t' := (.array .byte)) (by decide) (by decide))))
  have fx417 := ((V405.other W410 (Ne.symm ne405_a0_r405)).other W414 (Ne.symm ne405_a0_r405))
  obtain ⟨fs, hr, hrun, hended, hW, hsame⟩ := X414.leave (v := none) (fun _ => rfl)
  refine ⟨_, _, pre0 _ ?_, hrun, hended, _, _, rfl, ?_, ⟨_, rfl⟩, hW, hsame.mono (by decide) (by decide)⟩
  · show Steps p.tables e below (s₁.setTop (mkF m 0 #[vr a0, vr a1, vi 0, vi 4, .val .null, .unset] [])) _
    refine XS.aloadN X0.here hx rfl (hb hby od209) rfl rfl ?_
    refine st403 _ ?_
    refine XS.iloadN X403.here hx rfl (hb hby od211) rfl ?_
    refine XS.ifYes X403.here hx rfl (pc0 := 5) (pc' := 27) rfl (hb hby od212) rfl ((if0 _ _).trans (feq (by decide : ¬ ((4 : Int32) = (0 : Int32)))).2) (by decide) (by decide) ?_
    refine st404 _ ?_
    refine XS.ifNo X404.here hx rfl (hb hby od214) rfl ((if0 _ _).trans (feq hkc).1) ?_
    refine XS.aloadN X404.here hx rfl (hb hby od215) rfl rfl ?_
    refine XS.iloadN X404.here hx rfl (hb hby od216) rfl ?_
    refine XS.iloadN X404.here hx rfl (hb hby od217) rfl ?_
    refine st405 _ ?_
    refine XS.astore X405.here hx rfl (hb hby od219) rfl rfl (l' := #[vr a0, vr a1, vi 0, vi 4, .val .null, vr r405]) rfl ?_
    refine XS.aloadN X405.here hx rfl (hb hby od220) rfl rfl ?_
    refine XS.aload X405.here hx rfl (hb hby od221) rfl rfl ?_
    refine XS.iloadN X405.here hx rfl (hb hby od222) rfl ?_
    refine st406 _ ?_
    refine st410 _ ?_
    refine XS.aloadN X410.here hx rfl (hb hby od225) rfl rfl ?_
    refine XS.aload X410.here hx rfl (hb hby od226) rfl rfl ?_
    refine st414 _ ?_
    exact X414.returnOut hx Bd.returns (hb hby od228) hr
  · show Q_in4U4 Z a0 a1 kc1 c0 c1 c2 c3 kc h0 n0 _ T414.heap _
    rw [e414]
    exact ⟨rfl, N414, KP414, fx415, fx416, _, _, Fw414, fx417⟩
theorem own_ef_in1U4 (m : MethodId) (a0 : Addr) (a1 : Addr) : entryFrame m #[(.ref a0), (.ref a1)] 2 = mkF m 0 #[vr a0, vr a1] [] := by first | (simp [entryFrame, mkF, argsToLocals, Value.category]; done) | rfl
def Q_in1U4 (Z : State) (a0 : Addr) (a1 : Addr) (kc1 : ClassId) (c0 : Int32) (c1 : Int32) (c2 : Int32) (c3 : Int32) (kc : Int32) (h0 : Heap) (n0 : Nat) (v : Option Value) (h : Heap) (L : List Loc) : Prop := v = none ∧ Fr n0 L ∧ Keep h0 h [a0] ∧ Exa Z h a0 "java/lang/String" ∧ Fld Z h a0 "java/lang/String" "coder" "B" (.int 1) ∧ ∃ (b : Addr) (k : ClassId), Fld Z h a0 "java/lang/String" "value" "[B" (.ref b) ∧ Arv Z h b k .byte (8 : Int32) [(.int (nar .byte ((c0 >>> ((0 : Int32) &&& 31)).toInt8.toInt32))), (.int (nar .byte ((c0 >>> ((8 : Int32) &&& 31)).toInt8.toInt32))), (.int (nar .byte ((c1 >>> ((0 : Int32) &&& 31)).toInt8.toInt32))), (.int (nar .byte ((c1 >>> ((8 : Int32) &&& 31)).toInt8.toInt32))), (.int (nar .byte ((c2 >>> ((0 : Int32) &&& 31)).toInt8.toInt32))), (.int (nar .byte ((c2 >>> ((8 : Int32) &&& 31)).toInt8.toInt32))), (.int (nar .byte ((c3 >>> ((0 : Int32) &&& 31)).toInt8.toInt32))), (.int (nar .byte ((c3 >>> ((8 : Int32) &&& 31)).toInt8.toInt32)))] (.int 0)
theorem rm_in1U4 (l : Launch) (Z : State) (a0' : Array Value) (hw : ∀ d ∈ tables_1, d.before a0' Z = true) (ws : List Jvm.Cond) (a0 : Addr) (a1 : Addr) (kc1 : ClassId) (c0 : Int32) (c1 : Int32) (c2 : Int32) (c3 : Int32) (kc : Int32) (h0 : Heap) (n0 : Nat) (Z0 : n0 ≤ h0.size) (E_t : Exa Z h0 a0 "java/lang/String") (F0v : Fld Z h0 a0 "java/lang/String" "value" "[B" .null) (F0c : Fld Z h0 a0 "java/lang/String" "coder" "B" (.int 0)) (g_t : n0 ≤ a0) (VA : Arv Z h0 a1 kc1 .char (4 : Int32) [(.int c0), (.int c1), (.int c2), (.int c3)] (.int 0)) (na1 : a0 ≠ a1) (hup : ¬ (¬ ((255 : Int32) < c0) ∧ ¬ ((255 : Int32) < c1) ∧ ¬ ((255 : Int32) < c2) ∧ ¬ ((255 : Int32) < c3))) (hb_c0 : 0 ≤ c0.toInt ∧ c0.toInt ≤ 65535) (hb_c1 : 0 ≤ c1.toInt ∧ c1.toInt ≤ 65535) (hb_c2 : 0 ≤ c2.toInt ∧ c2.toInt ≤ 65535) (hb_c3 : 0 ≤ c3.toInt ∧ c3.toInt ≤ 65535) (S_cs : Sta Z h0 "java/lang/String" "COMPACT_STRINGS" "Z" (.int kc)) (hkc : ¬ (kc = (0 : Int32))) (S_ad : Sta Z h0 "java/lang/StringUTF16" "$assertionsDisabled" "Z" (.int 1)) (S_hi : Sta Z h0 "java/lang/StringUTF16" "HI_BYTE_SHIFT" "I" (.int 0)) (S_lo : Sta Z h0 "java/lang/StringUTF16" "LO_BYTE_SHIFT" "I" (.int 8)) :
    MF l nm20 jdk_42_method_3_code 2 none ws (⟨5, 2, 12, 74⟩ : Room) #[(.ref a0), (.ref a1)] Z h0 (Q_in1U4 Z a0 a1 kc1 c0 c1 c2 c3 kc h0 n0) := by
  refine MetFree.of_bodySF (plainFor_of_name own_pn1) hisR ?_
  intro p e s m args below meth c s₁ Bd hml0 hP hK
  obtain ⟨rfl, hZ, hh⟩ := hP
  have hx := Bd.exec
  have hby := Bd.bytes
  have hml : c.maxLocals = 2 := hml0
  have hown : s.vm.findClass "java/lang/String" = some m.cls := findClass_of_methodNamed Bd.named
  have hnm := (name_of_methodNamed Bd.named Bd.method).1
  have X0 : Stand p l e (⟨5, 2, 12, 74⟩ : Room) s m #[(.ref a0), (.ref a1)] below meth c s₁ [] 0 0 := Stand.of_body Bd
  have e0 : s₁.heap = h0 := by rw [← hh, Bd.state]; rfl
  have N0 := Fr.nil n0
  have pre0 : PT p e below (s₁.setTop (mkF m 0 #[vr a0, vr a1] [])) (s₁.setTop (entryFrame m #[(.ref a0), (.ref a1)] 2)) := fun t k => castTop (own_ef_in1U4 m a0 a1) k
  have Vc418 := VA
  obtain ⟨cl418, Ar418, q418, S418, N_418, H418, G418⟩ := Vc418
  obtain ⟨_, _, ⟨T419, L419, k419, n419⟩, -, X419, ⟨Lc419, hQ419, l419, y419, z419⟩, st419⟩ := X0.specialBack hx (y := nm19) rfl hown (mvT hZ (ow hw 9 rfl)) (mvT hZ (ow hw 10 rfl)) (mvT hZ (ow hw 12 rfl)) (by decide) (backOf (W := 0) (rm_in4U4 l Z a0' hw [] a0 a1 kc1 c0 c1 c2 c3 kc h0 n0 Z0 E_t F0v F0c g_t VA na1 hup hb_c0 hb_c1 hb_c2 hb_c3 S_cs hkc S_ad S_hi S_lo) hZ (ow hw 12 rfl) (ow hw 5 rfl) (by decide) (by decide)) (g := (mkF m 6 #[vr a0, vr a1] [.null, (.int 4), (.int 0), (.ref a1), (.ref a0)])) rfl (by rw [hml]; rfl) (Steps.refl _) (a := a0) (argsL := [(.ref a1), (.int 0), (.int 4), .null]) (rest := []) (lenOf own_pd13 rfl) rfl (by show 2 * 0 + _ ≤ _; exact Nat.le_of_eq rfl) (hb hby od235) (fun _ _ => ⟨rfl, e0, (by decide : 0 + 2 ≤ _), (by decide : 0 + 12 ≤ _)⟩)
  dsimp only [Pt.U, Pt.locs, Pt.cells, Pt.slots] at X419 l419 y419 z419 st419 hQ419
  subst l419 y419 z419
  obtain ⟨rfl, N419q, K419, Ei419, Ci419, bi419, ki419, Fi419, Vi419⟩ := hQ419
  have N419 := Fr.app N0 N419q
  have KP419 : Keep h0 T419.heap [a0] := (Keep.refl h0 [a0]).trans K419 (allS (Or.inl (List.mem_of_getElem? (i := 0) rfl)) all0)
  have SZ419 : h0.size ≤ T419.heap.size := KP419.1
  have Z419 : n0 ≤ T419.heap.size := Nat.le_trans Z0 SZ419
  obtain ⟨fs, hr, hrun, hended, hW, hsame⟩ := X419.leave (v := none) (fun _ => rfl)
  refine ⟨_, _, pre0 _ ?_, hrun, hended, _, _, rfl, ?_, ⟨_, rfl⟩, hW, hsame.mono (by decide) (by decide)⟩
  · show Steps p.tables e below (s₁.setTop (mkF m 0 #[vr a0, vr a1] [])) _
    refine XS.aloadN X0.here hx rfl (hb hby od229) rfl rfl ?_
    refine XS.aloadN X0.here hx rfl (hb hby od230) rfl rfl ?_
    refine XS.iconst X0.here hx rfl (hb hby od231) ?_
    refine XS.aloadN X0.here hx rfl (hb hby od232) rfl rfl ?_
    refine X0.arraylength hx (by rw [e0]; exact Ar418.1) (State.isArrayOf_alike hZ.alike Ar418.2.1) (g := (mkF m 4 #[vr a0, vr a1] [(.ref a1), (.int 0), (.ref a1), (.ref a0)])) rfl rfl (hb hby od233) _ ?_
    rw [len_of S418 N_418]
    refine XS.aconstNull X0.here hx rfl (hb hby od234) ?_
    refine st419.trans ?_
    exact X419.returnOut hx Bd.returns (hb hby od236) hr
  · show Q_in1U4 Z a0 a1 kc1 c0 c1 c2 c3 kc h0 n0 _ T419.heap _
    exact ⟨rfl, N419, KP419, Ei419, Ci419, _, _, Fi419, Vi419⟩
theorem own_ef_cmpI4 (m : MethodId) (a0 : Addr) (a2 : Addr) : entryFrame m #[(.ref a0), (.int 0), (.ref a2), (.int 0), (.int 4)] 7 = mkF m 0 #[vr a0, vi 0, vr a2, vi 0, vi 4, .unset, .unset] [] := by first | (simp [entryFrame, mkF, argsToLocals, Value.category]; done) | rfl
def Q_cmpI4 (Z : State) (a0 : Addr) (a2 : Addr) (kc1 : ClassId) (c0 : Int32) (c1 : Int32) (c2 : Int32) (c3 : Int32) (kb1 : ClassId) (h0 : Heap) (n0 : Nat) (v : Option Value) (h : Heap) (L : List Loc) : Prop := v = some (.int 4) ∧ Fr n0 L ∧ Keep h0 h [a2] ∧ Arv Z h a2 kb1 .byte (4 : Int32) [(.int (nar .byte (c0.toInt8.toInt32))), (.int (nar .byte (c1.toInt8.toInt32))), (.int (nar .byte (c2.toInt8.toInt32))), (.int (nar .byte (c3.toInt8.toInt32)))] (.int 0)
theorem rm_cmpI4 (l : Launch) (Z : State) (a0' : Array Value) (hw : ∀ d ∈ tables_1, d.before a0' Z = true) (ws : List Jvm.Cond) (a0 : Addr) (a2 : Addr) (kc1 : ClassId) (c0 : Int32) (c1 : Int32) (c2 : Int32) (c3 : Int32) (kb1 : ClassId) (h0 : Heap) (n0 : Nat) (Z0 : n0 ≤ h0.size) (VA : Arv Z h0 a0 kc1 .char (4 : Int32) [(.int c0), (.int c1), (.int c2), (.int c3)] (.int 0)) (VB : Arv Z h0 a2 kb1 .byte (4 : Int32) [(.int 0), (.int 0), (.int 0), (.int 0)] (.int 0)) (nab : a0 ≠ a2) (g2 : n0 ≤ a2) (hc_c0 : ¬ ((255 : Int32) < c0)) (hc_c1 : ¬ ((255 : Int32) < c1)) (hc_c2 : ¬ ((255 : Int32) < c2)) (hc_c3 : ¬ ((255 : Int32) < c3)) :
    MF l nm16 jdk_52_method_21_code 7 (some .int) ws (⟨0, 0, 0, 0⟩ : Room) #[(.ref a0), (.int 0), (.ref a2), (.int 0), (.int 4)] Z h0 (Q_cmpI4 Z a0 a2 kc1 c0 c1 c2 c3 kb1 h0 n0) := by
  refine MetFree.of_bodySF (plainFor_of_name own_pn3) hisR ?_
  intro p e s m args below meth c s₁ Bd hml0 hP hK
  obtain ⟨rfl, hZ, hh⟩ := hP
  have hx := Bd.exec
  have hby := Bd.bytes
  have hml : c.maxLocals = 7 := hml0
  have hown : s.vm.findClass "java/lang/StringUTF16" = some m.cls := findClass_of_methodNamed Bd.named
  have hnm := (name_of_methodNamed Bd.named Bd.method).1
  have X0 : Stand p l e (⟨0, 0, 0, 0⟩ : Room) s m #[(.ref a0), (.int 0), (.ref a2), (.int 0), (.int 4)] below meth c s₁ [] 0 0 := Stand.of_body Bd
  have e0 : s₁.heap = h0 := by rw [← hh, Bd.state]; rfl
  have N0 := Fr.nil n0
  have pre0 : PT p e below (s₁.setTop (mkF m 0 #[vr a0, vi 0, vr a2, vi 0, vi 4, .unset, .unset] [])) (s₁.setTop (entryFrame m #[(.ref a0), (.int 0), (.ref a2), (.int 0), (.int 4)] 7)) := fun t k => castTop (own_ef_cmpI4 m a0 a2) k
  have Vc420 := VA
  obtain ⟨cl420, Ar420, q420, S420, N_420, H420, G420⟩ := Vc420
  have hin420 : ¬ ((0 : Int32) < 0 ∨ cl420.slots.size ≤ ((0 : Int32)).toNatClampNeg) := inb_of S420 ⟨by decide, by decide⟩
  have hat420 : cl420.slots[((0 : Int32)).toNatClampNeg]? = some (.int c0) := H420 0 (by rw [S420]; decide)
  have Vc421 := VB
  obtain ⟨cl421, Ar421, q421, S421, N_421, H421, G421⟩ := Vc421
  have hin421 : ¬ ((0 : Int32) < 0 ∨ cl421.slots.size ≤ ((0 : Int32)).toNatClampNeg) := inb_of S421 ⟨by decide, by decide⟩
  obtain ⟨T422, h422, X422, e422, W422, st422⟩ := stB X0 hx hZ e0 Ar421 (j := (0 : Int32)) hin421 (g := (mkF m 31 #[vr a0, vi 0, vr a2, vi 0, vi 4, vi 0, vi c0] [(.int (c0.toInt8.toInt32)), (.int 0), (.ref a2)])) rfl rfl (hb hby od241)
  have V_a2_422 : Arv Z h422 a2 kb1 .byte (4 : Int32) [(.int (nar .byte (c0.toInt8.toInt32))), (.int 0), (.int 0), (.int 0)] (.int 0) := Arv.set Ar421 q421 S421 N_421 H421 G421 (fits_nar_byte _) W422 0 rfl (Nat.le_of_ble_eq_true rfl)
  have N422 := Fr.snoc X422 N0 g2
  have KP422 : Keep h0 h422 [a2] := (Keep.refl h0 [a2]).wr W422 (Or.inl (List.mem_of_getElem? (i := 0) rfl))
  have SZ422 : h0.size ≤ h422.size := KP422.1
  have Z422 : n0 ≤ h422.size := Nat.le_trans Z0 SZ422
  have fx423 := (VA.other W422 nab)
  have Vc424 := fx423
  obtain ⟨cl424, Ar424, q424, S424, N_424, H424, G424⟩ := Vc424
  have hin424 : ¬ (((0 : Int32) + (1 : Int32)) < 0 ∨ cl424.slots.size ≤ (((0 : Int32) + (1 : Int32))).toNatClampNeg) := inb_of S424 ⟨by decide, by decide⟩
  have hat424 : cl424.slots[(((0 : Int32) + (1 : Int32))).toNatClampNeg]? = some (.int c1) := H424 1 (by rw [S424]; decide)
  have Vc425 := V_a2_422
  obtain ⟨cl425, Ar425, q425, S425, N_425, H425, G425⟩ := Vc425
  have hin425 : ¬ (((0 : Int32) + (1 : Int32)) < 0 ∨ cl425.slots.size ≤ (((0 : Int32) + (1 : Int32))).toNatClampNeg) := inb_of S425 ⟨by decide, by decide⟩
  obtain ⟨T426, h426, X426, e426, W426, st426⟩ := stB X422 hx hZ e422 Ar425 (j := ((0 : Int32) + (1 : Int32))) hin425 (g := (mkF m 31 #[vr a0, vi ((0 : Int32) + (1 : Int32)), vr a2, vi ((0 : Int32) + (1 : Int32)), vi 4, vi ((0 : Int32) + (1 : Int32)), vi c1] [(.int (c1.toInt8.toInt32)), (.int ((0 : Int32) + (1 : Int32))), (.ref a2)])) rfl rfl (hb hby od241)
  have V_a2_426 : Arv Z h426 a2 kb1 .byte (4 : Int32) [(.int (nar .byte (c0.toInt8.toInt32))), (.int (nar .byte (c1.toInt8.toInt32))), (.int 0), (.int 0)] (.int 0) := Arv.set Ar425 q425 S425 N_425 H425 G425 (fits_nar_byte _) W426 1 rfl (Nat.le_of_ble_eq_true rfl)
  have N426 := Fr.snoc X426 N422 g2
  have KP426 : Keep h0 h426 [a2] := KP422.wr W426 (Or.inl (List.mem_of_getElem? (i := 0) rfl))
  have SZ426 : h0.size ≤ h426.size := KP426.1
  have Z426 : n0 ≤ h426.size := Nat.le_trans Z0 SZ426
  have fx427 := (fx423.other W426 nab)
  have Vc428 := fx427
  obtain ⟨cl428, Ar428, q428, S428, N_428, H428, G428⟩ := Vc428
  have hin428 : ¬ ((((0 : Int32) + (1 : Int32)) + (1 : Int32)) < 0 ∨ cl428.slots.size ≤ ((((0 : Int32) + (1 : Int32)) + (1 : Int32))).toNatClampNeg) := inb_of S428 ⟨by decide, by decide⟩
  have hat428 : cl428.slots[((((0 : Int32) + (1 : Int32)) + (1 : Int32))).toNatClampNeg]? = some (.int c2) := H428 2 (by rw [S428]; decide)
  have Vc429 := V_a2_426
  obtain ⟨cl429, Ar429, q429, S429, N_429, H429, G429⟩ := Vc429
  have hin429 : ¬ ((((0 : Int32) + (1 : Int32)) + (1 : Int32)) < 0 ∨ cl429.slots.size ≤ ((((0 : Int32) + (1 : Int32)) + (1 : Int32))).toNatClampNeg) := inb_of S429 ⟨by decide, by decide⟩
  obtain ⟨T430, h430, X430, e430, W430, st430⟩ := stB X426 hx hZ e426 Ar429 (j := (((0 : Int32) + (1 : Int32)) + (1 : Int32))) hin429 (g := (mkF m 31 #[vr a0, vi (((0 : Int32) + (1 : Int32)) + (1 : Int32)), vr a2, vi (((0 : Int32) + (1 : Int32)) + (1 : Int32)), vi 4, vi (((0 : Int32) + (1 : Int32)) + (1 : Int32)), vi c2] [(.int (c2.toInt8.toInt32)), (.int (((0 : Int32) + (1 : Int32)) + (1 : Int32))), (.ref a2)])) rfl rfl (hb hby od241)
  have V_a2_430 : Arv Z h430 a2 kb1 .byte (4 : Int32) [(.int (nar .byte (c0.toInt8.toInt32))), (.int (nar .byte (c1.toInt8.toInt32))), (.int (nar .byte (c2.toInt8.toInt32))), (.int 0)] (.int 0) := Arv.set Ar429 q429 S429 N_429 H429 G429 (fits_nar_byte _) W430 2 rfl (Nat.le_of_ble_eq_true rfl)
  have N430 := Fr.snoc X430 N426 g2
  have KP430 : Keep h0 h430 [a2] := KP426.wr W430 (Or.inl (List.mem_of_getElem? (i := 0) rfl))
  have SZ430 : h0.size ≤ h430.size := KP430.1
  have Z430 : n0 ≤ h430.size := Nat.le_trans Z0 SZ430
  have fx431 := (fx427.other W430 nab)
  have Vc432 := fx431
  obtain ⟨cl432, Ar432, q432, S432, N_432, H432, G432⟩ := Vc432
  have hin432 : ¬ (((((0 : Int32) + (1 : Int32)) + (1 : Int32)) + (1 : Int32)) < 0 ∨ cl432.slots.size ≤ (((((0 : Int32) + (1 : Int32)) + (1 : Int32)) + (1 : Int32))).toNatClampNeg) := inb_of S432 ⟨by decide, by decide⟩
  have hat432 : cl432.slots[(((((0 : Int32) + (1 : Int32)) + (1 : Int32)) + (1 : Int32))).toNatClampNeg]? = some (.int c3) := H432 3 (by rw [S432]; decide)
  have Vc433 := V_a2_430
  obtain ⟨cl433, Ar433, q433, S433, N_433, H433, G433⟩ := Vc433
  have hin433 : ¬ (((((0 : Int32) + (1 : Int32)) + (1 : Int32)) + (1 : Int32)) < 0 ∨ cl433.slots.size ≤ (((((0 : Int32) + (1 : Int32)) + (1 : Int32)) + (1 : Int32))).toNatClampNeg) := inb_of S433 ⟨by decide, by decide⟩
  obtain ⟨T434, h434, X434, e434, W434, st434⟩ := stB X430 hx hZ e430 Ar433 (j := ((((0 : Int32) + (1 : Int32)) + (1 : Int32)) + (1 : Int32))) hin433 (g := (mkF m 31 #[vr a0, vi ((((0 : Int32) + (1 : Int32)) + (1 : Int32)) + (1 : Int32)), vr a2, vi ((((0 : Int32) + (1 : Int32)) + (1 : Int32)) + (1 : Int32)), vi 4, vi ((((0 : Int32) + (1 : Int32)) + (1 : Int32)) + (1 : Int32)), vi c3] [(.int (c3.toInt8.toInt32)), (.int ((((0 : Int32) + (1 : Int32)) + (1 : Int32)) + (1 : Int32))), (.ref a2)])) rfl rfl (hb hby od241)
  have V_a2_434 : Arv Z h434 a2 kb1 .byte (4 : Int32) [(.int (nar .byte (c0.toInt8.toInt32))), (.int (nar .byte (c1.toInt8.toInt32))), (.int (nar .byte (c2.toInt8.toInt32))), (.int (nar .byte (c3.toInt8.toInt32)))] (.int 0) := Arv.set Ar433 q433 S433 N_433 H433 G433 (fits_nar_byte _) W434 3 rfl (Nat.le_of_ble_eq_true rfl)
  have N434 := Fr.snoc X434 N430 g2
  have KP434 : Keep h0 h434 [a2] := KP430.wr W434 (Or.inl (List.mem_of_getElem? (i := 0) rfl))
  have SZ434 : h0.size ≤ h434.size := KP434.1
  have Z434 : n0 ≤ h434.size := Nat.le_trans Z0 SZ434
  obtain ⟨fs, hr, hrun, hended, hW, hsame⟩ := X434.leave (v := some (.int 4)) (fun h => by rw [Bd.returns] at h; cases h)
  refine ⟨_, _, pre0 _ ?_, hrun, hended, _, _, rfl, ?_, ⟨_, rfl⟩, hW, hsame.mono (by decide) (by decide)⟩
  · show Steps p.tables e below (s₁.setTop (mkF m 0 #[vr a0, vi 0, vr a2, vi 0, vi 4, .unset, .unset] [])) _
    refine XS.iconst X0.here hx rfl (hb hby od162) ?_
    refine XS.istore X0.here hx rfl (hb hby od163) rfl (l' := #[vr a0, vi 0, vr a2, vi 0, vi 4, vi 0, .unset]) rfl ?_
    refine XS.iload X0.here hx rfl (hb hby od164) rfl ?_
    refine XS.iload X0.here hx rfl (hb hby od165) rfl ?_
    refine XS.icmpNo X0.here hx rfl (hb hby od166) rfl (tlt (by decide : (0 : Int32) < (4 : Int32))).2.1 ?_
    refine XS.aloadN X0.here hx rfl (hb hby od167) rfl rfl ?_
    refine XS.iloadN X0.here hx rfl (hb hby od168) rfl ?_
    refine X0.caload hx (j := (0 : Int32)) (v := (.int c0)) (by rw [e0]; exact Ar420.1) (State.isArrayOf_alike hZ.alike Ar420.2.1) Ar420.2.2 hin420 hat420 (g := (mkF m 12 #[vr a0, vi 0, vr a2, vi 0, vi 4, vi 0, .unset] [(.int 0), (.ref a0)])) rfl rfl (hb hby od169) _ ?_
    refine XS.istore X0.here hx rfl (hb hby od170) rfl (l' := #[vr a0, vi 0, vr a2, vi 0, vi 4, vi 0, vi c0]) rfl ?_
    refine XS.iload X0.here hx rfl (hb hby od171) rfl ?_
    refine XS.sipush X0.here hx rfl (hb hby od172) ?_
    refine XS.icmpYes X0.here hx rfl (pc0 := 20) (pc' := 26) rfl (hb hby od173) rfl (flt hc_c0).2.2.2 (by decide) (by decide) ?_
    refine XS.aloadN X0.here hx rfl (hb hby od237) rfl rfl ?_
    refine XS.iloadN X0.here hx rfl (hb hby od238) rfl ?_
    refine XS.iload X0.here hx rfl (hb hby od239) rfl ?_
    refine XS.i2b X0.here hx rfl (hb hby od240) rfl ?_
    refine st422 _ ?_
    refine XS.iinc X422.here hx rfl (hb hby od242) rfl (l' := #[vr a0, vi ((0 : Int32) + (1 : Int32)), vr a2, vi 0, vi 4, vi 0, vi c0]) rfl ?_
    refine XS.iinc X422.here hx rfl (hb hby od243) rfl (l' := #[vr a0, vi ((0 : Int32) + (1 : Int32)), vr a2, vi ((0 : Int32) + (1 : Int32)), vi 4, vi 0, vi c0]) rfl ?_
    refine XS.iinc X422.here hx rfl (hb hby od244) rfl (l' := #[vr a0, vi ((0 : Int32) + (1 : Int32)), vr a2, vi ((0 : Int32) + (1 : Int32)), vi 4, vi ((0 : Int32) + (1 : Int32)), vi c0]) rfl ?_
    refine XS.goto X422.here hx rfl (pc0 := 41) (pc' := 3) rfl (hb hby od245) (by decide) (by decide) ?_
    refine XS.iload X422.here hx rfl (hb hby od164) rfl ?_
    refine XS.iload X422.here hx rfl (hb hby od165) rfl ?_
    refine XS.icmpNo X422.here hx rfl (hb hby od166) rfl (tlt (by decide : ((0 : Int32) + (1 : Int32)) < (4 : Int32))).2.1 ?_
    refine XS.aloadN X422.here hx rfl (hb hby od167) rfl rfl ?_
    refine XS.iloadN X422.here hx rfl (hb hby od168) rfl ?_
    refine X422.caload hx (j := ((0 : Int32) + (1 : Int32))) (v := (.int c1)) (by rw [e422]; exact Ar424.1) (State.isArrayOf_alike hZ.alike Ar424.2.1) Ar424.2.2 hin424 hat424 (g := (mkF m 12 #[vr a0, vi ((0 : Int32) + (1 : Int32)), vr a2, vi ((0 : Int32) + (1 : Int32)), vi 4, vi ((0 : Int32) + (1 : Int32)), vi c0] [(.int ((0 : Int32) + (1 : Int32))), (.ref a0)])) rfl rfl (hb hby od169) _ ?_
    refine XS.istore X422.here hx rfl (hb hby od170) rfl (l' := #[vr a0, vi ((0 : Int32) + (1 : Int32)), vr a2, vi ((0 : Int32) + (1 : Int32)), vi 4, vi ((0 : Int32) + (1 : Int32)), vi c1]) rfl ?_
    refine XS.iload X422.here hx rfl (hb hby od171) rfl ?_
    refine XS.sipush X422.here hx rfl (hb hby od172) ?_
    refine XS.icmpYes X422.here hx rfl (pc0 := 20) (pc' := 26) rfl (hb hby od173) rfl (flt hc_c1).2.2.2 (by decide) (by decide) ?_
    refine XS.aloadN X422.here hx rfl (hb hby od237) rfl rfl ?_
    refine XS.iloadN X422.here hx rfl (hb hby od238) rfl ?_
    refine XS.iload X422.here hx rfl (hb hby od239) rfl ?_
    refine XS.i2b X422.here hx rfl (hb hby od240) rfl ?_
    refine st426 _ ?_
    refine XS.iinc X426.here hx rfl (hb hby od242) rfl (l' := #[vr a0, vi (((0 : Int32) + (1 : Int32)) + (1 : Int32)), vr a2, vi ((0 : Int32) + (1 : Int32)), vi 4, vi ((0 : Int32) + (1 : Int32)), vi c1]) rfl ?_
    refine XS.iinc X426.here hx rfl (hb hby od243) rfl (l' := #[vr a0, vi (((0 : Int32) + (1 : Int32)) + (1 : Int32)), vr a2, vi (((0 : Int32) + (1 : Int32)) + (1 : Int32)), vi 4, vi ((0 : Int32) + (1 : Int32)), vi c1]) rfl ?_
    refine XS.iinc X426.here hx rfl (hb hby od244) rfl (l' := #[vr a0, vi (((0 : Int32) + (1 : Int32)) + (1 : Int32)), vr a2, vi (((0 : Int32) + (1 : Int32)) + (1 : Int32)), vi 4, vi (((0 : Int32) + (1 : Int32)) + (1 : Int32)), vi c1]) rfl ?_
    refine XS.goto X426.here hx rfl (pc0 := 41) (pc' := 3) rfl (hb hby od245) (by decide) (by decide) ?_
    refine XS.iload X426.here hx rfl (hb hby od164) rfl ?_
    refine XS.iload X426.here hx rfl (hb hby od165) rfl ?_
    refine XS.icmpNo X426.here hx rfl (hb hby od166) rfl (tlt (by decide : (((0 : Int32) + (1 : Int32)) + (1 : Int32)) < (4 : Int32))).2.1 ?_
    refine XS.aloadN X426.here hx rfl (hb hby od167) rfl rfl ?_
    refine XS.iloadN X426.here hx rfl (hb hby od168) rfl ?_
    refine X426.caload hx (j := (((0 : Int32) + (1 : Int32)) + (1 : Int32))) (v := (.int c2)) (by rw [e426]; exact Ar428.1) (State.isArrayOf_alike hZ.alike Ar428.2.1) Ar428.2.2 hin428 hat428 (g := (mkF m 12 #[vr a0, vi (((0 : Int32) + (1 : Int32)) + (1 : Int32)), vr a2, vi (((0 : Int32) + (1 : Int32)) + (1 : Int32)), vi 4, vi (((0 : Int32) + (1 : Int32)) + (1 : Int32)), vi c1] [(.int (((0 : Int32) + (1 : Int32)) + (1 : Int32))), (.ref a0)])) rfl rfl (hb hby od169) _ ?_
    refine XS.istore X426.here hx rfl (hb hby od170) rfl (l' := #[vr a0, vi (((0 : Int32) + (1 : Int32)) + (1 : Int32)), vr a2, vi (((0 : Int32) + (1 : Int32)) + (1 : Int32)), vi 4, vi (((0 : Int32) + (1 : Int32)) + (1 : Int32)), vi c2]) rfl ?_
    refine XS.iload X426.here hx rfl (hb hby od171) rfl ?_
    refine XS.sipush X426.here hx rfl (hb hby od172) ?_
    refine XS.icmpYes X426.here hx rfl (pc0 := 20) (pc' := 26) rfl (hb hby od173) rfl (flt hc_c2).2.2.2 (by decide) (by decide) ?_
    refine XS.aloadN X426.here hx rfl (hb hby od237) rfl rfl ?_
    refine XS.iloadN X426.here hx rfl (hb hby od238) rfl ?_
    refine XS.iload X426.here hx rfl (hb hby od239) rfl ?_
    refine XS.i2b X426.here hx rfl (hb hby od240) rfl ?_
    refine st430 _ ?_
    refine XS.iinc X430.here hx rfl (hb hby od242) rfl (l' := #[vr a0, vi ((((0 : Int32) + (1 : Int32)) + (1 : Int32)) + (1 : Int32)), vr a2, vi (((0 : Int32) + (1 : Int32)) + (1 : Int32)), vi 4, vi (((0 : Int32) + (1 : Int32)) + (1 : Int32)), vi c2]) rfl ?_
    refine XS.iinc X430.here hx rfl (hb hby od243) rfl (l' := #[vr a0, vi ((((0 : Int32) + (1 : Int32)) + (1 : Int32)) + (1 : Int32)), vr a2, vi ((((0 : Int32) + (1 : Int32)) + (1 : Int32)) + (1 : Int32)), vi 4, vi (((0 : Int32) + (1 : Int32)) + (1 : Int32)), vi c2]) rfl ?_
    refine XS.iinc X430.here hx rfl (hb hby od244) rfl (l' := #[vr a0, vi ((((0 : Int32) + (1 : Int32)) + (1 : Int32)) + (1 : Int32)), vr a2, vi ((((0 : Int32) + (1 : Int32)) + (1 : Int32)) + (1 : Int32)), vi 4, vi ((((0 : Int32) + (1 : Int32)) + (1 : Int32)) + (1 : Int32)), vi c2]) rfl ?_
    refine XS.goto X430.here hx rfl (pc0 := 41) (pc' := 3) rfl (hb hby od245) (by decide) (by decide) ?_
    refine XS.iload X430.here hx rfl (hb hby od164) rfl ?_
    refine XS.iload X430.here hx rfl (hb hby od165) rfl ?_
    refine XS.icmpNo X430.here hx rfl (hb hby od166) rfl (tlt (by decide : ((((0 : Int32) + (1 : Int32)) + (1 : Int32)) + (1 : Int32)) < (4 : Int32))).2.1 ?_
    refine XS.aloadN X430.here hx rfl (hb hby od167) rfl rfl ?_
    refine XS.iloadN X430.here hx rfl (hb hby od168) rfl ?_
    refine X430.caload hx (j := ((((0 : Int32) + (1 : Int32)) + (1 : Int32)) + (1 : Int32))) (v := (.int c3)) (by rw [e430]; exact Ar432.1) (State.isArrayOf_alike hZ.alike Ar432.2.1) Ar432.2.2 hin432 hat432 (g := (mkF m 12 #[vr a0, vi ((((0 : Int32) + (1 : Int32)) + (1 : Int32)) + (1 : Int32)), vr a2, vi ((((0 : Int32) + (1 : Int32)) + (1 : Int32)) + (1 : Int32)), vi 4, vi ((((0 : Int32) + (1 : Int32)) + (1 : Int32)) + (1 : Int32)), vi c2] [(.int ((((0 : Int32) + (1 : Int32)) + (1 : Int32)) + (1 : Int32))), (.ref a0)])) rfl rfl (hb hby od169) _ ?_
    refine XS.istore X430.here hx rfl (hb hby od170) rfl (l' := #[vr a0, vi ((((0 : Int32) + (1 : Int32)) + (1 : Int32)) + (1 : Int32)), vr a2, vi ((((0 : Int32) + (1 : Int32)) + (1 : Int32)) + (1 : Int32)), vi 4, vi ((((0 : Int32) + (1 : Int32)) + (1 : Int32)) + (1 : Int32)), vi c3]) rfl ?_
    refine XS.iload X430.here hx rfl (hb hby od171) rfl ?_
    refine XS.sipush X430.here hx rfl (hb hby od172) ?_
    refine XS.icmpYes X430.here hx rfl (pc0 := 20) (pc' := 26) rfl (hb hby od173) rfl (flt hc_c3).2.2.2 (by decide) (by decide) ?_
    refine XS.aloadN X430.here hx rfl (hb hby od237) rfl rfl ?_
    refine XS.iloadN X430.here hx rfl (hb hby od238) rfl ?_
    refine XS.iload X430.here hx rfl (hb hby od239) rfl ?_
    refine XS.i2b X430.here hx rfl (hb hby od240) rfl ?_
    refine st434 _ ?_
    refine XS.iinc X434.here hx rfl (hb hby od242) rfl (l' := #[vr a0, vi (((((0 : Int32) + (1 : Int32)) + (1 : Int32)) + (1 : Int32)) + (1 : Int32)), vr a2, vi ((((0 : Int32) + (1 : Int32)) + (1 : Int32)) + (1 : Int32)), vi 4, vi ((((0 : Int32) + (1 : Int32)) + (1 : Int32)) + (1 : Int32)), vi c3]) rfl ?_
    refine XS.iinc X434.here hx rfl (hb hby od243) rfl (l' := #[vr a0, vi (((((0 : Int32) + (1 : Int32)) + (1 : Int32)) + (1 : Int32)) + (1 : Int32)), vr a2, vi (((((0 : Int32) + (1 : Int32)) + (1 : Int32)) + (1 : Int32)) + (1 : Int32)), vi 4, vi ((((0 : Int32) + (1 : Int32)) + (1 : Int32)) + (1 : Int32)), vi c3]) rfl ?_
    refine XS.iinc X434.here hx rfl (hb hby od244) rfl (l' := #[vr a0, vi (((((0 : Int32) + (1 : Int32)) + (1 : Int32)) + (1 : Int32)) + (1 : Int32)), vr a2, vi (((((0 : Int32) + (1 : Int32)) + (1 : Int32)) + (1 : Int32)) + (1 : Int32)), vi 4, vi (((((0 : Int32) + (1 : Int32)) + (1 : Int32)) + (1 : Int32)) + (1 : Int32)), vi c3]) rfl ?_
    refine XS.goto X434.here hx rfl (pc0 := 41) (pc' := 3) rfl (hb hby od245) (by decide) (by decide) ?_
    refine XS.iload X434.here hx rfl (hb hby od164) rfl ?_
    refine XS.iload X434.here hx rfl (hb hby od165) rfl ?_
    refine XS.icmpYes X434.here hx rfl (pc0 := 7) (pc' := 44) rfl (hb hby od166) rfl (flt (by decide : ¬ ((((((0 : Int32) + (1 : Int32)) + (1 : Int32)) + (1 : Int32)) + (1 : Int32)) < (4 : Int32)))).2.1 (by decide) (by decide) ?_
    refine XS.iload X434.here hx rfl (hb hby od246) rfl ?_
    exact own_retI X434 hx Bd.returns (hb hby od247) hr
  · show Q_cmpI4 Z a0 a2 kc1 c0 c1 c2 c3 kb1 h0 n0 _ T434.heap _
    rw [e434]
    exact ⟨rfl, N434, KP434, V_a2_434⟩
theorem own_ef_cmpA4 (m : MethodId) (a0 : Addr) : entryFrame m #[(.ref a0), (.int 0), (.int 4)] 6 = mkF m 0 #[vr a0, vi 0, vi 4, .unset, .unset, .unset] [] := by first | (simp [entryFrame, mkF, argsToLocals, Value.category]; done) | rfl
def Q_cmpA4 (Z : State) (a0 : Addr) (kc1 : ClassId) (c0 : Int32) (c1 : Int32) (c2 : Int32) (c3 : Int32) (h0 : Heap) (n0 : Nat) (v : Option Value) (h : Heap) (L : List Loc) : Prop := ∃ (r : Addr) (k : ClassId), v = some (.ref r) ∧ Fr n0 L ∧ Ext h0 h ∧ h0.size ≤ r ∧ Arv Z h r k .byte (4 : Int32) [(.int (nar .byte (c0.toInt8.toInt32))), (.int (nar .byte (c1.toInt8.toInt32))), (.int (nar .byte (c2.toInt8.toInt32))), (.int (nar .byte (c3.toInt8.toInt32)))] (.int 0)
theorem rm_cmpA4 (l : Launch) (Z : State) (a0' : Array Value) (hw : ∀ d ∈ tables_1, d.before a0' Z = true) (ws : List Jvm.Cond) (a0 : Addr) (kc1 : ClassId) (c0 : Int32) (c1 : Int32) (c2 : Int32) (c3 : Int32) (h0 : Heap) (n0 : Nat) (Z0 : n0 ≤ h0.size) (VA : Arv Z h0 a0 kc1 .char (4 : Int32) [(.int c0), (.int c1), (.int c2), (.int c3)] (.int 0)) (hc_c0 : ¬ ((255 : Int32) < c0)) (hc_c1 : ¬ ((255 : Int32) < c1)) (hc_c2 : ¬ ((255 : Int32) < c2)) (hc_c3 : ¬ ((255 : Int32) < c3)) :
    MF l nm17 jdk_52_method_16_code 6 (some (.array .byte)) ws (⟨1, 1, 4, 18⟩ : Room) #[(.ref a0), (.int 0), (.int 4)] Z h0 (Q_cmpA4 Z a0 kc1 c0 c1 c2 c3 h0 n0) := by
  refine MetFree.of_bodySF (plainFor_of_name own_pn3) hisR ?_
  intro p e s m args below meth c s₁ Bd hml0 hP hK
  obtain ⟨rfl, hZ, hh⟩ := hP
  have hx := Bd.exec
  have hby := Bd.bytes
  have hml : c.maxLocals = 6 := hml0
  have hown : s.vm.findClass "java/lang/StringUTF16" = some m.cls := findClass_of_methodNamed Bd.named
  have hnm := (name_of_methodNamed Bd.named Bd.method).1
  have X0 : Stand p l e (⟨1, 1, 4, 18⟩ : Room) s m #[(.ref a0), (.int 0), (.int 4)] below meth c s₁ [] 0 0 := Stand.of_body Bd
  have e0 : s₁.heap = h0 := by rw [← hh, Bd.state]; rfl
  have N0 := Fr.nil n0
  have pre0 : PT p e below (s₁.setTop (mkF m 0 #[vr a0, vi 0, vi 4, .unset, .unset, .unset] [])) (s₁.setTop (entryFrame m #[(.ref a0), (.int 0), (.int 4)] 6)) := fun t k => castTop (own_ef_cmpA4 m a0) k
  obtain ⟨T435, h435, k435, X435, e435, E435, A435, st435⟩ := newP X0 hx hZ (ow hw 17 rfl) e0 (g := (mkF m 1 #[vr a0, vi 0, vi 4, .unset, .unset, .unset] [(.int 4)])) rfl (hb hby od177) rfl (by decide) (cap := 4) (by decide) (by decide) (by decide) (by decide)
  obtain ⟨b435, g435⟩ : ∃ z, z = h0.size := ⟨_, rfl⟩
  rw [← g435] at A435 st435
  have ne435_a0_b435 : a0 ≠ b435 := Nat.ne_of_lt (Nat.lt_of_lt_of_le VA.lt (Nat.le_of_eq g435.symm))
  have V_b435 : Arv Z h435 b435 k435 .byte (4 : Int32) [(.int 0), (.int 0), (.int 0), (.int 0)] (.int 0) := (Arv.new A435 (by decide)).pad (pad_rep [] (.int 0) 4)
  have g_b435 : n0 ≤ b435 := Nat.le_trans Z0 (Nat.le_of_eq g435.symm)
  have sz_b435 : h0.size ≤ b435 := Nat.le_trans (Nat.le_refl _) (Nat.le_of_eq g435.symm)
  have EX435 : Ext h0 h435 := E435
  have SZ435 : h0.size ≤ h435.size := EX435.1
  have Z435 : n0 ≤ h435.size := Nat.le_trans Z0 SZ435
  have fx437 := (VA.ext E435)
  obtain ⟨_, _, ⟨T436, L436, k436, n436⟩, -, X436, ⟨Lc436, hQ436, l436, y436, z436⟩, st436⟩ := Jvm.LawKit.callS X435 hx (y := nm16) hown (mvT hZ (ow hw 43 rfl)) (mvT hZ (ow hw 44 rfl)) (mvT hZ (ow hw 41 rfl)) (mvT hZ (ow hw 45 rfl)) (by decide) (backOf (W := 0) (rm_cmpI4 l Z a0' hw [] a0 b435 kc1 c0 c1 c2 c3 k435 h435 n0 Z435 fx437 V_b435 ne435_a0_b435 g_b435 hc_c0 hc_c1 hc_c2 hc_c3) hZ (ow hw 45 rfl) (ow hw 41 rfl) (by decide) (by decide)) (g := (mkF m 9 #[vr a0, vi 0, vi 4, vr b435, .unset, .unset] [(.int 4), (.int 0), (.ref b435), (.int 0), (.ref a0)])) rfl (by rw [hml]; rfl) (argsL := [(.ref a0), (.int 0), (.ref b435), (.int 0), (.int 4)]) (rest := []) (lenOf own_pd10 rfl) rfl (by show 2 * 0 + _ ≤ _; exact Nat.le_of_eq rfl) (hb hby od184) (fun _ _ => ⟨rfl, e435, (by decide : 1 + 0 ≤ _), (by decide : 4 + 0 ≤ _)⟩)
  dsimp only [Pt.U, Pt.locs, Pt.cells, Pt.slots] at X436 l436 y436 z436 st436 hQ436
  subst l436 y436 z436
  obtain ⟨rfl, N436q, K436, V436⟩ := hQ436
  have N436 := Fr.app N0 N436q
  have EX436 : Ext h0 T436.heap := own_extkeep EX435 K436 sz_b435
  have SZ436 : h0.size ≤ T436.heap.size := EX436.1
  have Z436 : n0 ≤ T436.heap.size := Nat.le_trans Z0 SZ436
  obtain ⟨fs, hr, hrun, hended, hW, hsame⟩ := X436.leave (v := some (.ref b435)) (fun h => by rw [Bd.returns] at h; cases h)
  refine ⟨_, _, pre0 _ ?_, hrun, hended, _, _, rfl, ?_, ⟨_, rfl⟩, hW, hsame.mono (by decide) (by decide)⟩
  · show Steps p.tables e below (s₁.setTop (mkF m 0 #[vr a0, vi 0, vi 4, .unset, .unset, .unset] [])) _
    refine XS.iloadN X0.here hx rfl (hb hby od176) rfl ?_
    refine st435 _ ?_
    refine XS.astoreN X435.here hx rfl (hb hby od178) rfl rfl (l' := #[vr a0, vi 0, vi 4, vr b435, .unset, .unset]) rfl ?_
    refine XS.aloadN X435.here hx rfl (hb hby od179) rfl rfl ?_
    refine XS.iloadN X435.here hx rfl (hb hby od180) rfl ?_
    refine XS.aloadN X435.here hx rfl (hb hby od181) rfl rfl ?_
    refine XS.iconst X435.here hx rfl (hb hby od182) ?_
    refine XS.iloadN X435.here hx rfl (hb hby od183) rfl ?_
    refine st436 _ ?_
    refine XS.istore X436.here hx rfl (hb hby od185) rfl (l' := #[vr a0, vi 0, vi 4, vr b435, vi 4, .unset]) rfl ?_
    refine XS.iload X436.here hx rfl (hb hby od186) rfl ?_
    refine XS.iloadN X436.here hx rfl (hb hby od187) rfl ?_
    refine XS.icmpYes X436.here hx rfl (pc0 := 17) (pc' := 57) rfl (hb hby od188) rfl (teq (by decide : (4 : Int32) = (4 : Int32))).1 (by decide) (by decide) ?_
    refine XS.aloadN X436.here hx rfl (hb hby od248) rfl rfl ?_
    exact own_retA X436 hx Bd.returns rfl rfl rfl (hb hby od249) hr
  · show Q_cmpA4 Z a0 kc1 c0 c1 c2 c3 h0 n0 _ T436.heap _
    exact ⟨_, _, rfl, N436, EX436, sz_b435, V436⟩
def F_cfl4  : Int32 := (nar .byte (((((4 : Int32) - (4 : Int32)).toUInt32 >>> ((31 : Int32) &&& 31).toUInt32).toInt32).toInt8.toInt32))
theorem own_ef_cfl4 (m : MethodId) (a0 : Addr) : entryFrame m #[(.ref a0), (.int 4)] 2 = mkF m 0 #[vr a0, vi 4] [] := by first | (simp [entryFrame, mkF, argsToLocals, Value.category]; done) | rfl
def Q_cfl4 (Z : State) (a0 : Addr) (kb1 : ClassId) (vs1 : List Value) (dv1 : Value) (h0 : Heap) (n0 : Nat) (v : Option Value) (h : Heap) (L : List Loc) : Prop := v = some (.int F_cfl4) ∧ Fr n0 L ∧ h = h0
theorem rm_cfl4 (l : Launch) (Z : State) (a0' : Array Value) (hw : ∀ d ∈ tables_1, d.before a0' Z = true) (ws : List Jvm.Cond) (a0 : Addr) (kb1 : ClassId) (vs1 : List Value) (dv1 : Value) (h0 : Heap) (n0 : Nat) (Z0 : n0 ≤ h0.size) (VB : Arv Z h0 a0 kb1 .byte (4 : Int32) vs1 dv1) :
    MF l nm18 jdk_52_method_15_code 2 (some .byte) ws (⟨0, 0, 0, 0⟩ : Room) #[(.ref a0), (.int 4)] Z h0 (Q_cfl4 Z a0 kb1 vs1 dv1 h0 n0) := by
  refine MetFree.of_bodySF (plainFor_of_name own_pn3) hisR ?_
  intro p e s m args below meth c s₁ Bd hml0 hP hK
  obtain ⟨rfl, hZ, hh⟩ := hP
  have hx := Bd.exec
  have hby := Bd.bytes
  have hml : c.maxLocals = 2 := hml0
  have hown : s.vm.findClass "java/lang/StringUTF16" = some m.cls := findClass_of_methodNamed Bd.named
  have hnm := (name_of_methodNamed Bd.named Bd.method).1
  have X0 : Stand p l e (⟨0, 0, 0, 0⟩ : Room) s m #[(.ref a0), (.int 4)] below meth c s₁ [] 0 0 := Stand.of_body Bd
  have e0 : s₁.heap = h0 := by rw [← hh, Bd.state]; rfl
  have N0 := Fr.nil n0
  have pre0 : PT p e below (s₁.setTop (mkF m 0 #[vr a0, vi 4] [])) (s₁.setTop (entryFrame m #[(.ref a0), (.int 4)] 2)) := fun t k => castTop (own_ef_cfl4 m a0) k
  have Vc438 := VB
  obtain ⟨cl438, Ar438, q438, S438, N_438, H438, G438⟩ := Vc438
  obtain ⟨fs, hr, hrun, hended, hW, hsame⟩ := X0.leave (v := some (.int (nar .byte (((((4 : Int32) - (4 : Int32)).toUInt32 >>> ((31 : Int32) &&& 31).toUInt32).toInt32).toInt8.toInt32)))) (fun h => by rw [Bd.returns] at h; cases h)
  refine ⟨_, _, pre0 _ ?_, hrun, hended, _, _, rfl, ?_, ⟨_, rfl⟩, hW, hsame.mono (by decide) (by decide)⟩
  · show Steps p.tables e below (s₁.setTop (mkF m 0 #[vr a0, vi 4] [])) _
    refine XS.iloadN X0.here hx rfl (hb hby od201) rfl ?_
    refine XS.aloadN X0.here hx rfl (hb hby od202) rfl rfl ?_
    refine X0.arraylength hx (by rw [e0]; exact Ar438.1) (State.isArrayOf_alike hZ.alike Ar438.2.1) (g := (mkF m 2 #[vr a0, vi 4] [(.ref a0), (.int 4)])) rfl rfl (hb hby od203) _ ?_
    rw [len_of S438 N_438]
    refine XS.isub X0.here hx rfl (hb hby od204) rfl ?_
    refine XS.bipush X0.here hx rfl (hb hby od205) ?_
    refine XS.iushr X0.here hx rfl (hb hby od206) rfl ?_
    refine XS.i2b X0.here hx rfl (hb hby od207) rfl ?_
    exact retN X0 hx (t := .byte) Bd.returns (by simp) (hb hby od208) hr
  · show Q_cfl4 Z a0 kb1 vs1 dv1 h0 n0 _ s₁.heap _
    refine ⟨?_, N0, e0⟩
    rw [F_cfl4]
theorem own_ef_in4_4 (m : MethodId) (a0 : Addr) (a1 : Addr) : entryFrame m #[(.ref a0), (.ref a1), (.int 0), (.int 4), .null] 6 = mkF m 0 #[vr a0, vr a1, vi 0, vi 4, .val .null, .unset] [] := by first | (simp [entryFrame, mkF, argsToLocals, Value.category]; done) | rfl
def Q_in4_4 (Z : State) (a0 : Addr) (a1 : Addr) (kc1 : ClassId) (c0 : Int32) (c1 : Int32) (c2 : Int32) (c3 : Int32) (kc : Int32) (h0 : Heap) (n0 : Nat) (v : Option Value) (h : Heap) (L : List Loc) : Prop := v = none ∧ Fr n0 L ∧ Keep h0 h [a0] ∧ Exa Z h a0 "java/lang/String" ∧ Fld Z h a0 "java/lang/String" "coder" "B" (.int 0) ∧ ∃ (b : Addr) (k : ClassId), Fld Z h a0 "java/lang/String" "value" "[B" (.ref b) ∧ Arv Z h b k .byte (4 : Int32) [(.int (nar .byte (c0.toInt8.toInt32))), (.int (nar .byte (c1.toInt8.toInt32))), (.int (nar .byte (c2.toInt8.toInt32))), (.int (nar .byte (c3.toInt8.toInt32)))] (.int 0)
theorem rm_in4_4 (l : Launch) (Z : State) (a0' : Array Value) (hw : ∀ d ∈ tables_1, d.before a0' Z = true) (ws : List Jvm.Cond) (a0 : Addr) (a1 : Addr) (kc1 : ClassId) (c0 : Int32) (c1 : Int32) (c2 : Int32) (c3 : Int32) (kc : Int32) (h0 : Heap) (n0 : Nat) (Z0 : n0 ≤ h0.size) (E_t : Exa Z h0 a0 "java/lang/String") (F0v : Fld Z h0 a0 "java/lang/String" "value" "[B" .null) (F0c : Fld Z h0 a0 "java/lang/String" "coder" "B" (.int 0)) (g_t : n0 ≤ a0) (VA : Arv Z h0 a1 kc1 .char (4 : Int32) [(.int c0), (.int c1), (.int c2), (.int c3)] (.int 0)) (na1 : a0 ≠ a1) (hc_c0 : ¬ ((255 : Int32) < c0)) (hc_c1 : ¬ ((255 : Int32) < c1)) (hc_c2 : ¬ ((255 : Int32) < c2)) (hc_c3 : ¬ ((255 : Int32) < c3)) (S_cs : Sta Z h0 "java/lang/String" "COMPACT_STRINGS" "Z" (.int kc)) (hkc : ¬ (kc = (0 : Int32))) :
    MF l nm19 jdk_42_method_149_code 6 none ws (⟨2, 1, 4, 35⟩ : Room) #[(.ref a0), (.ref a1), (.int 0), (.int 4), .null] Z h0 (Q_in4_4 Z a0 a1 kc1 c0 c1 c2 c3 kc h0 n0) := by
  refine MetFree.of_bodySF (plainFor_of_name own_pn1) hisR ?_
  intro p e s m args below meth c s₁ Bd hml0 hP hK
  obtain ⟨rfl, hZ, hh⟩ := hP
  have hx := Bd.exec
  have hby := Bd.bytes
  have hml : c.maxLocals = 6 := hml0
  have hown : s.vm.findClass "java/lang/String" = some m.cls := findClass_of_methodNamed Bd.named
  have hnm := (name_of_methodNamed Bd.named Bd.method).1
  have X0 : Stand p l e (⟨2, 1, 4, 35⟩ : Room) s m #[(.ref a0), (.ref a1), (.int 0), (.int 4), .null] below meth c s₁ [] 0 0 := Stand.of_body Bd
  have e0 : s₁.heap = h0 := by rw [← hh, Bd.state]; rfl
  have N0 := Fr.nil n0
  have pre0 : PT p e below (s₁.setTop (mkF m 0 #[vr a0, vr a1, vi 0, vi 4, .val .null, .unset] [])) (s₁.setTop (entryFrame m #[(.ref a0), (.ref a1), (.int 0), (.int 4), .null] 6)) := fun t k => castTop (own_ef_in4_4 m a0 a1) k
  obtain ⟨T439, X439, e439, st439⟩ := initO X0 hx hZ hown (ow hw 13 rfl) (ow hw 14 rfl) (ow hw 15 rfl) e0 (g := (mkF m 1 #[vr a0, vr a1, vi 0, vi 4, .val .null, .unset] [(.ref a0)])) rfl (by rw [hml]; rfl) rfl (hb hby od210) (by decide) (W := 0) (by show 2 * 0 + _ ≤ _; exact Nat.le_of_eq rfl) (by decide)
  obtain ⟨T440, X440, e440, st440⟩ := getS2 X439 hx hZ hown (host := "") (Or.inl (ow hw 38 rfl)) Via.refl e439 S_cs (g := (mkF m 27 #[vr a0, vr a1, vi 0, vi 4, .val .null, .unset] [])) rfl (hb hby od213)
  obtain ⟨_, _, ⟨T441, L441, k441, n441⟩, -, X441, ⟨Lc441, hQ441, l441, y441, z441⟩, st441⟩ := Jvm.LawKit.callS X440 hx (y := nm17) hown (mvT hZ (ow hw 39 rfl)) (mvT hZ (ow hw 40 rfl)) (mvT hZ (ow hw 41 rfl)) (mvT hZ (ow hw 42 rfl)) (by decide) (backOf (W := 0) (rm_cmpA4 l Z a0' hw [] a1 kc1 c0 c1 c2 c3 h0 n0 Z0 VA hc_c0 hc_c1 hc_c2 hc_c3) hZ (ow hw 42 rfl) (ow hw 41 rfl) (by decide) (by decide)) (g := (mkF m 36 #[vr a0, vr a1, vi 0, vi 4, .val .null, .unset] [(.int 4), (.int 0), (.ref a1)])) rfl (by rw [hml]; rfl) (argsL := [(.ref a1), (.int 0), (.int 4)]) (rest := []) (lenOf own_pd11 rfl) rfl (by show 2 * 0 + _ ≤ _; exact Nat.le_of_eq rfl) (hb hby od218) (fun _ _ => ⟨rfl, e440, (by decide : 0 + 1 ≤ _), (by decide : 0 + 4 ≤ _)⟩)
  dsimp only [Pt.U, Pt.locs, Pt.cells, Pt.slots] at X441 l441 y441 z441 st441 hQ441
  subst l441 y441 z441
  obtain ⟨r441, kk441, rfl, N441q, E441, zz441, V441⟩ := hQ441
  have N441 := Fr.app N0 N441q
  have ne441_a0_r441 : a0 ≠ r441 := Nat.ne_of_lt (Nat.lt_of_lt_of_le E_t.lt zz441)
  have ne441_a1_r441 : a1 ≠ r441 := Nat.ne_of_lt (Nat.lt_of_lt_of_le VA.lt zz441)
  have g_r441 : n0 ≤ r441 := Nat.le_trans Z0 zz441
  have sz_r441 : h0.size ≤ r441 := Nat.le_trans (Nat.le_refl _) zz441
  have KP441 : Keep h0 T441.heap [a0] := (Keep.refl h0 [a0]).ext E441
  have SZ441 : h0.size ≤ T441.heap.size := KP441.1
  have Z441 : n0 ≤ T441.heap.size := Nat.le_trans Z0 SZ441
  obtain ⟨_, _, ⟨T442, L442, k442, n442⟩, -, X442, ⟨Lc442, hQ442, l442, y442, z442⟩, st442⟩ := Jvm.LawKit.callS X441 hx (y := nm18) hown (mvT hZ (ow hw 46 rfl)) (mvT hZ (ow hw 47 rfl)) (mvT hZ (ow hw 41 rfl)) (mvT hZ (ow hw 48 rfl)) (by decide) (backOf (W := 1) (rm_cfl4 l Z a0' hw [] r441 kk441 _ _ T441.heap n0 Z441 V441) hZ (ow hw 48 rfl) (ow hw 41 rfl) (by decide) (by decide)) (g := (mkF m 45 #[vr a0, vr a1, vi 0, vi 4, .val .null, vr r441] [(.int 4), (.ref r441), (.ref a0)])) rfl (by rw [hml]; rfl) (argsL := [(.ref r441), (.int 4)]) (rest := [(.ref a0)]) (lenOf own_pd12 rfl) rfl (by show 2 * 0 + _ ≤ _; exact Nat.le_of_eq rfl) (hb hby od223) (fun _ _ => ⟨rfl, rfl, (by decide : 1 + 0 ≤ _), (by decide : 4 + 0 ≤ _)⟩)
  dsimp only [Pt.U, Pt.locs, Pt.cells, Pt.slots] at X442 l442 y442 z442 st442 hQ442
  subst l442 y442 z442
  obtain ⟨rfl, N442q, e442⟩ := hQ442
  have N442 := Fr.app N441 N442q
  have q442 : F_cfl4 = (0 : Int32) := by decide
  rw [q442] at st442
  have fx444 := (E_t.ext E441)
  have fx445 := (F0c.ext E441)
  have Fo443 := fx445
  obtain ⟨T446, h446, X446, e446, W446, st446⟩ := putFN X442 hx hZ hown (ow hw 23 rfl) Via.refl e442 Fo443 fx444 (Or.inr ⟨(ow hw 19 rfl), rfl, hnm⟩) (ow hw 4 rfl) (ty := .byte) (v' := (.int (nar .byte (0 : Int32)))) (by decide) rfl (fits_nar_byte _) (g := (mkF m 48 #[vr a0, vr a1, vi 0, vi 4, .val .null, vr r441] [(.int 0), (.ref a0)])) rfl rfl (hb hby od224)
  have Fw446 : Fld Z h446 a0 "java/lang/String" "coder" "B" (.int 0) := Fo443.same W446
  have N446 := Fr.snoc X446 N442 g_t
  have KP446 : Keep h0 h446 [a0] := KP441.wr W446 (Or.inl (List.mem_of_getElem? (i := 0) rfl))
  have SZ446 : h0.size ≤ h446.size := KP446.1
  have Z446 : n0 ≤ h446.size := Nat.le_trans Z0 SZ446
  have fx448 := (fx444.wr W446)
  have fx449 := ((F0v.ext E441).other W446 (Or.inr (slot_ne (a0 := a0') (Or.inr (ow hw 18 rfl)) (Or.inr (ow hw 19 rfl)) (by decide) (t := (.array .byte)) (t' := .byte) (by decide) (by decide))))
  have Fo447 := fx449
  obtain ⟨T450, h450, X450, e450, W450, st450⟩ := putF X446 hx hZ hown (host := "") (Or.inl (ow hw 22 rfl)) Via.refl e446 Fo447 fx448 (Or.inr ⟨(ow hw 18 rfl), rfl, hnm⟩) (ow hw 4 rfl) (ty := (.array .byte)) (by decide) rfl rfl (g := (mkF m 54 #[vr a0, vr a1, vi 0, vi 4, .val .null, vr r441] [(.ref r441), (.ref a0)])) rfl rfl (hb hby od227)
  have Fw450 : Fld Z h450 a0 "java/lang/String" "value" "[B" (.ref r441) := Fo447.same W450
  have N450 := Fr.snoc X450 N446 g_t
  have KP450 : Keep h0 h450 [a0] := KP446.wr W450 (Or.inl (List.mem_of_getElem? (i := 0) rfl))
  have SZ450 : h0.size ≤ h450.size := KP450.1
  have Z450 : n0 ≤ h450.size := Nat.le_trans Z0 SZ450
  have fx451 := (fx448.wr W450)
  have fx452 := (Fw446.other W450 (Or.inr (slot_ne (a0 := a0') (Or.inr (ow hw 19 rfl)) (Or.inr (ow hw 18 rfl)) (by decide) (t := .byte) (t' := (.array .byte)) (by decide) (by decide))))
  have fx453 := ((V441.other W446 (Ne.symm ne441_a0_r441)).other W450 (Ne.symm ne441_a0_r441))
  obtain ⟨fs, hr, hrun, hended, hW, hsame⟩ := X450.leave (v := none) (fun _ => rfl)
  refine ⟨_, _, pre0 _ ?_, hrun, hended, _, _, rfl, ?_, ⟨_, rfl⟩, hW, hsame.mono (by decide) (by decide)⟩
  · show Steps p.tables e below (s₁.setTop (mkF m 0 #[vr a0, vr a1, vi 0, vi 4, .val .null, .unset] [])) _
    refine XS.aloadN X0.here hx rfl (hb hby od209) rfl rfl ?_
    refine st439 _ ?_
    refine XS.iloadN X439.here hx rfl (hb hby od211) rfl ?_
    refine XS.ifYes X439.here hx rfl (pc0 := 5) (pc' := 27) rfl (hb hby od212) rfl ((if0 _ _).trans (feq (by decide : ¬ ((4 : Int32) = (0 : Int32)))).2) (by decide) (by decide) ?_
    refine st440 _ ?_
    refine XS.ifNo X440.here hx rfl (hb hby od214) rfl ((if0 _ _).trans (feq hkc).1) ?_
    refine XS.aloadN X440.here hx rfl (hb hby od215) rfl rfl ?_
    refine XS.iloadN X440.here hx rfl (hb hby od216) rfl ?_
    refine XS.iloadN X440.here hx rfl (hb hby od217) rfl ?_
    refine st441 _ ?_
    refine XS.astore X441.here hx rfl (hb hby od219) rfl rfl (l' := #[vr a0, vr a1, vi 0, vi 4, .val .null, vr r441]) rfl ?_
    refine XS.aloadN X441.here hx rfl (hb hby od220) rfl rfl ?_
    refine XS.aload X441.here hx rfl (hb hby od221) rfl rfl ?_
    refine XS.iloadN X441.here hx rfl (hb hby od222) rfl ?_
    refine st442 _ ?_
    refine st446 _ ?_
    refine XS.aloadN X446.here hx rfl (hb hby od225) rfl rfl ?_
    refine XS.aload X446.here hx rfl (hb hby od226) rfl rfl ?_
    refine st450 _ ?_
    exact X450.returnOut hx Bd.returns (hb hby od228) hr
  · show Q_in4_4 Z a0 a1 kc1 c0 c1 c2 c3 kc h0 n0 _ T450.heap _
    rw [e450]
    exact ⟨rfl, N450, KP450, fx451, fx452, _, _, Fw450, fx453⟩
theorem own_ef_in1_4 (m : MethodId) (a0 : Addr) (a1 : Addr) : entryFrame m #[(.ref a0), (.ref a1)] 2 = mkF m 0 #[vr a0, vr a1] [] := by first | (simp [entryFrame, mkF, argsToLocals, Value.category]; done) | rfl
def Q_in1_4 (Z : State) (a0 : Addr) (a1 : Addr) (kc1 : ClassId) (c0 : Int32) (c1 : Int32) (c2 : Int32) (c3 : Int32) (kc : Int32) (h0 : Heap) (n0 : Nat) (v : Option Value) (h : Heap) (L : List Loc) : Prop := v = none ∧ Fr n0 L ∧ Keep h0 h [a0] ∧ Exa Z h a0 "java/lang/String" ∧ Fld Z h a0 "java/lang/String" "coder" "B" (.int 0) ∧ ∃ (b : Addr) (k : ClassId), Fld Z h a0 "java/lang/String" "value" "[B" (.ref b) ∧ Arv Z h b k .byte (4 : Int32) [(.int (nar .byte (c0.toInt8.toInt32))), (.int (nar .byte (c1.toInt8.toInt32))), (.int (nar .byte (c2.toInt8.toInt32))), (.int (nar .byte (c3.toInt8.toInt32)))] (.int 0)
theorem rm_in1_4 (l : Launch) (Z : State) (a0' : Array Value) (hw : ∀ d ∈ tables_1, d.before a0' Z = true) (ws : List Jvm.Cond) (a0 : Addr) (a1 : Addr) (kc1 : ClassId) (c0 : Int32) (c1 : Int32) (c2 : Int32) (c3 : Int32) (kc : Int32) (h0 : Heap) (n0 : Nat) (Z0 : n0 ≤ h0.size) (E_t : Exa Z h0 a0 "java/lang/String") (F0v : Fld Z h0 a0 "java/lang/String" "value" "[B" .null) (F0c : Fld Z h0 a0 "java/lang/String" "coder" "B" (.int 0)) (g_t : n0 ≤ a0) (VA : Arv Z h0 a1 kc1 .char (4 : Int32) [(.int c0), (.int c1), (.int c2), (.int c3)] (.int 0)) (na1 : a0 ≠ a1) (hc_c0 : ¬ ((255 : Int32) < c0)) (hc_c1 : ¬ ((255 : Int32) < c1)) (hc_c2 : ¬ ((255 : Int32) < c2)) (hc_c3 : ¬ ((255 : Int32) < c3)) (S_cs : Sta Z h0 "java/lang/String" "COMPACT_STRINGS" "Z" (.int kc)) (hkc : ¬ (kc = (0 : Int32))) :
    MF l nm20 jdk_42_method_3_code 2 none ws (⟨5, 2, 12, 74⟩ : Room) #[(.ref a0), (.ref a1)] Z h0 (Q_in1_4 Z a0 a1 kc1 c0 c1 c2 c3 kc h0 n0) := by
  refine MetFree.of_bodySF (plainFor_of_name own_pn1) hisR ?_
  intro p e s m args below meth c s₁ Bd hml0 hP hK
  obtain ⟨rfl, hZ, hh⟩ := hP
  have hx := Bd.exec
  have hby := Bd.bytes
  have hml : c.maxLocals = 2 := hml0
  have hown : s.vm.findClass "java/lang/String" = some m.cls := findClass_of_methodNamed Bd.named
  have hnm := (name_of_methodNamed Bd.named Bd.method).1
  have X0 : Stand p l e (⟨5, 2, 12, 74⟩ : Room) s m #[(.ref a0), (.ref a1)] below meth c s₁ [] 0 0 := Stand.of_body Bd
  have e0 : s₁.heap = h0 := by rw [← hh, Bd.state]; rfl
  have N0 := Fr.nil n0
  have pre0 : PT p e below (s₁.setTop (mkF m 0 #[vr a0, vr a1] [])) (s₁.setTop (entryFrame m #[(.ref a0), (.ref a1)] 2)) := fun t k => castTop (own_ef_in1_4 m a0 a1) k
  have Vc454 := VA
  obtain ⟨cl454, Ar454, q454, S454, N_454, H454, G454⟩ := Vc454
  obtain ⟨_, _, ⟨T455, L455, k455, n455⟩, -, X455, ⟨Lc455, hQ455, l455, y455, z455⟩, st455⟩ := X0.specialBack hx (y := nm19) rfl hown (mvT hZ (ow hw 9 rfl)) (mvT hZ (ow hw 10 rfl)) (mvT hZ (ow hw 12 rfl)) (by decide) (backOf (W := 0) (rm_in4_4 l Z a0' hw [] a0 a1 kc1 c0 c1 c2 c3 kc h0 n0 Z0 E_t F0v F0c g_t VA na1 hc_c0 hc_c1 hc_c2 hc_c3 S_cs hkc) hZ (ow hw 12 rfl) (ow hw 5 rfl) (by decide) (by decide)) (g := (mkF m 6 #[vr a0, vr a1] [.null, (.int 4), (.int 0), (.ref a1), (.ref a0)])) rfl (by rw [hml]; rfl) (Steps.refl _) (a := a0) (argsL := [(.ref a1), (.int 0), (.int 4), .null]) (rest := []) (lenOf own_pd13 rfl) rfl (by show 2 * 0 + _ ≤ _; exact Nat.le_of_eq rfl) (hb hby od235) (fun _ _ => ⟨rfl, e0, (by decide : 0 + 1 ≤ _), (by decide : 0 + 4 ≤ _)⟩)
  dsimp only [Pt.U, Pt.locs, Pt.cells, Pt.slots] at X455 l455 y455 z455 st455 hQ455
  subst l455 y455 z455
  obtain ⟨rfl, N455q, K455, Ei455, Ci455, bi455, ki455, Fi455, Vi455⟩ := hQ455
  have N455 := Fr.app N0 N455q
  have KP455 : Keep h0 T455.heap [a0] := (Keep.refl h0 [a0]).trans K455 (allS (Or.inl (List.mem_of_getElem? (i := 0) rfl)) all0)
  have SZ455 : h0.size ≤ T455.heap.size := KP455.1
  have Z455 : n0 ≤ T455.heap.size := Nat.le_trans Z0 SZ455
  obtain ⟨fs, hr, hrun, hended, hW, hsame⟩ := X455.leave (v := none) (fun _ => rfl)
  refine ⟨_, _, pre0 _ ?_, hrun, hended, _, _, rfl, ?_, ⟨_, rfl⟩, hW, hsame.mono (by decide) (by decide)⟩
  · show Steps p.tables e below (s₁.setTop (mkF m 0 #[vr a0, vr a1] [])) _
    refine XS.aloadN X0.here hx rfl (hb hby od229) rfl rfl ?_
    refine XS.aloadN X0.here hx rfl (hb hby od230) rfl rfl ?_
    refine XS.iconst X0.here hx rfl (hb hby od231) ?_
    refine XS.aloadN X0.here hx rfl (hb hby od232) rfl rfl ?_
    refine X0.arraylength hx (by rw [e0]; exact Ar454.1) (State.isArrayOf_alike hZ.alike Ar454.2.1) (g := (mkF m 4 #[vr a0, vr a1] [(.ref a1), (.int 0), (.ref a1), (.ref a0)])) rfl rfl (hb hby od233) _ ?_
    rw [len_of S454 N_454]
    refine XS.aconstNull X0.here hx rfl (hb hby od234) ?_
    refine st455.trans ?_
    exact X455.returnOut hx Bd.returns (hb hby od236) hr
  · show Q_in1_4 Z a0 a1 kc1 c0 c1 c2 c3 kc h0 n0 _ T455.heap _
    exact ⟨rfl, N455, KP455, Ei455, Ci455, _, _, Fi455, Vi455⟩
def Q_in1C4 (Z : State) (a0 : Addr) (c0 : Int32) (c1 : Int32) (c2 : Int32) (c3 : Int32) (h0 : Heap) (n0 : Nat) (v : Option Value) (h : Heap) (L : List Loc) : Prop := v = none ∧ Fr n0 L ∧ Keep h0 h [a0] ∧ CS Z h a0 [c0, c1, c2, c3]
theorem rm_in1C4 (l : Launch) (Z : State) (a0' : Array Value) (hw : ∀ d ∈ tables_1, d.before a0' Z = true) (ws : List Jvm.Cond) (a0 : Addr) (a1 : Addr) (kc1 : ClassId) (c0 : Int32) (c1 : Int32) (c2 : Int32) (c3 : Int32) (kc : Int32) (h0 : Heap) (n0 : Nat) (Z0 : n0 ≤ h0.size) (E_t : Exa Z h0 a0 "java/lang/String") (F0v : Fld Z h0 a0 "java/lang/String" "value" "[B" .null) (F0c : Fld Z h0 a0 "java/lang/String" "coder" "B" (.int 0)) (g_t : n0 ≤ a0) (VA : Arv Z h0 a1 kc1 .char (4 : Int32) [(.int c0), (.int c1), (.int c2), (.int c3)] (.int 0)) (na1 : a0 ≠ a1) (hb_c0 : 0 ≤ c0.toInt ∧ c0.toInt ≤ 65535) (hb_c1 : 0 ≤ c1.toInt ∧ c1.toInt ≤ 65535) (hb_c2 : 0 ≤ c2.toInt ∧ c2.toInt ≤ 65535) (hb_c3 : 0 ≤ c3.toInt ∧ c3.toInt ≤ 65535) (S_cs : Sta Z h0 "java/lang/String" "COMPACT_STRINGS" "Z" (.int kc)) (hkc : ¬ (kc = (0 : Int32))) (S_ad : Sta Z h0 "java/lang/StringUTF16" "$assertionsDisabled" "Z" (.int 1)) (S_hi : Sta Z h0 "java/lang/StringUTF16" "HI_BYTE_SHIFT" "I" (.int 0)) (S_lo : Sta Z h0 "java/lang/StringUTF16" "LO_BYTE_SHIFT" "I" (.int 8)) :
    MF l nm20 jdk_42_method_3_code 2 none ws (⟨5, 2, 12, 74⟩ : Room) #[(.ref a0), (.ref a1)] Z h0 (Q_in1C4 Z a0 c0 c1 c2 c3 h0 n0) := by
  by_cases hup : ¬ ((255 : Int32) < c0) ∧ ¬ ((255 : Int32) < c1) ∧ ¬ ((255 : Int32) < c2) ∧ ¬ ((255 : Int32) < c3)
  · obtain ⟨p0, p1, p2, p3⟩ := hup
    simp only [Int32.lt_iff_toInt_lt, Int32.reduceToInt] at *
    exact own_mono (rm_in1_4 l Z a0' hw ws a0 a1 kc1 c0 c1 c2 c3 kc h0 n0 Z0 E_t F0v F0c g_t VA na1 (by simp only [Int32.lt_iff_toInt_lt, Int32.reduceToInt]; exact p0) (by simp only [Int32.lt_iff_toInt_lt, Int32.reduceToInt]; exact p1) (by simp only [Int32.lt_iff_toInt_lt, Int32.reduceToInt]; exact p2) (by simp only [Int32.lt_iff_toInt_lt, Int32.reduceToInt]; exact p3) S_cs hkc) (fun _ _ _ _ ⟨v, L, q1, ⟨r1, r2, r3, r4, r5, b, k, r6, r7⟩, q5⟩ => ⟨v, L, q1, ⟨r1, r2, r3, r4, b, k, r6, Or.inl ⟨r5, (by intro c hc; simp only [List.mem_cons, List.not_mem_nil, or_false] at hc; rcases hc with rfl | rfl | rfl | rfl <;> omega), r7⟩⟩, q5⟩)
  · exact own_mono (rm_in1U4 l Z a0' hw ws a0 a1 kc1 c0 c1 c2 c3 kc h0 n0 Z0 E_t F0v F0c g_t VA na1 hup hb_c0 hb_c1 hb_c2 hb_c3 S_cs hkc S_ad S_hi S_lo) (fun _ _ _ _ ⟨v, L, q1, ⟨r1, r2, r3, r4, r5, b, k, r6, r7⟩, q5⟩ => ⟨v, L, q1, ⟨r1, r2, r3, r4, b, k, r6, Or.inr ⟨r5, (by intro c hc; simp only [List.mem_cons, List.not_mem_nil, or_false] at hc; rcases hc with rfl | rfl | rfl | rfl <;> omega), by simp, r7⟩⟩, q5⟩)
theorem od250 : decode jdk_42_method_149_code 8 = .ok (.aload_n 0, 1) := by decide +kernel
theorem od251 : decode jdk_42_method_149_code 9 = .ok (.ldc 7, 2) := by decide +kernel
theorem od252 : decode jdk_42_method_149_code 11 = .ok (.getfield 9, 3) := by decide +kernel
theorem od253 : decode jdk_42_method_149_code 14 = .ok (.putfield 9, 3) := by decide +kernel
theorem od254 : decode jdk_42_method_149_code 17 = .ok (.aload_n 0, 1) := by decide +kernel
theorem od255 : decode jdk_42_method_149_code 18 = .ok (.ldc 7, 2) := by decide +kernel
theorem od256 : decode jdk_42_method_149_code 20 = .ok (.getfield 15, 3) := by decide +kernel
theorem od257 : decode jdk_42_method_149_code 23 = .ok (.putfield 15, 3) := by decide +kernel
theorem od258 : decode jdk_42_method_149_code 26 = .ok (.return_, 1) := by decide +kernel
theorem own_ef_in4_0 (m : MethodId) (a0 : Addr) (a1 : Addr) : entryFrame m #[(.ref a0), (.ref a1), (.int 0), (.int 0), .null] 6 = mkF m 0 #[vr a0, vr a1, vi 0, vi 0, .val .null, .unset] [] := by first | (simp [entryFrame, mkF, argsToLocals, Value.category]; done) | rfl
def Q_in4_0 (Z : State) (a0 : Addr) (a1 : Addr) (h0 : Heap) (n0 : Nat) (v : Option Value) (h : Heap) (L : List Loc) : Prop := v = none ∧ Fr n0 L ∧ Keep h0 h [a0] ∧ Exa Z h a0 "java/lang/String" ∧ Fld Z h a0 "java/lang/String" "coder" "B" (.int 0) ∧ ∃ (b : Addr) (k : ClassId), Fld Z h a0 "java/lang/String" "value" "[B" (.ref b) ∧ Arv Z h b k .byte (0 : Int32) [] (.int 0)
theorem rm_in4_0 (l : Launch) (Z : State) (a0' : Array Value) (hw : ∀ d ∈ tables_1, d.before a0' Z = true) (ws : List Jvm.Cond) (a0 : Addr) (a1 : Addr) (h0 : Heap) (n0 : Nat) (Z0 : n0 ≤ h0.size) (E_t : Exa Z h0 a0 "java/lang/String") (F0v : Fld Z h0 a0 "java/lang/String" "value" "[B" .null) (F0c : Fld Z h0 a0 "java/lang/String" "coder" "B" (.int 0)) (g_t : n0 ≤ a0) :
    MetFree l nm19 (head1 (Jvm.Cond.code nm19 jdk_42_method_149_code 6 none :: ws) (⟨1, 4, 8, 12⟩ : Room)) (fun a U => a = #[(.ref a0), (.ref a1), (.int 0), (.int 0), .null] ∧ Z.Warmed39 U.vm ∧ U.heap = h0 ∧ CHv Z own_EL U.vm h0 ∧ ∀ x ∈ ([a0] : List Addr), Safe Z own_EL U.vm h0 x) (fun _ _ _ _ _ => True) (fun _ U o U' => ∃ v L, o = .returned v ∧ Q_in4_0 Z a0 a1 h0 n0 v U'.heap L ∧ CHr Z own_EL U.vm U.heap U'.vm U'.heap ∧ ReturnedEndW U o U' L (⟨1, 4, 8, 12⟩ : Room).cells (⟨1, 4, 8, 12⟩ : Room).slots) := by
  refine MetFree.of_bodySF (plainFor_of_name own_pn1) hisR ?_
  intro p e s m args below meth c s₁ Bd hml0 hP hK
  obtain ⟨rfl, hZ, hh, hCH, hSf⟩ := hP
  have hx := Bd.exec
  have hby := Bd.bytes
  have hml : c.maxLocals = 6 := hml0
  have hown : s.vm.findClass "java/lang/String" = some m.cls := findClass_of_methodNamed Bd.named
  have hnm := (name_of_methodNamed Bd.named Bd.method).1
  have X0 : Stand p l e (⟨1, 4, 8, 12⟩ : Room) s m #[(.ref a0), (.ref a1), (.int 0), (.int 0), .null] below meth c s₁ [] 0 0 := Stand.of_body Bd
  have e0 : s₁.heap = h0 := by rw [← hh, Bd.state]; rfl
  have N0 := Fr.nil n0
  have pre0 : PT p e below (s₁.setTop (mkF m 0 #[vr a0, vr a1, vi 0, vi 0, .val .null, .unset] [])) (s₁.setTop (entryFrame m #[(.ref a0), (.ref a1), (.int 0), (.int 0), .null] 6)) := fun t k => castTop (own_ef_in4_0 m a0 a1) k
  have CH0 : CHr Z own_EL s.vm h0 s.vm h0 := CHr.refl hCH
  have hEW := own_EW hw
  have hS0 : s.Since s.vm 0 := (State.WarmedH.refl s).since 0
  have hk0 : 0 ≤ h0.size := Nat.zero_le _
  have a0_lt : a0 < h0.size := E_t.lt
  have a0_sf : Safe Z own_EL s.vm h0 a0 := hSf _ (List.mem_of_getElem? (i := 0) rfl)
  obtain ⟨T456, X456, e456, st456⟩ := initO X0 hx hZ hown (ow hw 13 rfl) (ow hw 14 rfl) (ow hw 15 rfl) e0 (g := (mkF m 1 #[vr a0, vr a1, vi 0, vi 0, .val .null, .unset] [(.ref a0)])) rfl (by rw [hml]; rfl) rfl (hb hby od210) (by decide) (W := 0) (by show 2 * 0 + _ ≤ _; exact Nat.le_of_eq rfl) (by decide)
  have pre457 : PT p e below (T456.setTop (mkF m 9 #[vr a0, vr a1, vi 0, vi 0, .val .null, .unset] [(.ref a0)])) (s₁.setTop (entryFrame m #[(.ref a0), (.ref a1), (.int 0), (.int 0), .null] 6)) := fun t k => pre0 t (by
    refine XS.aloadN X0.here hx rfl (hb hby od209) rfl rfl ?_
    refine st456 _ ?_
    refine XS.iloadN X456.here hx rfl (hb hby od211) rfl ?_
    refine XS.ifNo X456.here hx rfl (hb hby od212) rfl ((if0 _ _).trans (teq (by decide : (0 : Int32) = (0 : Int32))).2) ?_
    refine XS.aloadN X456.here hx rfl (hb hby od250) rfl rfl ?_
    exact k)
  have wS458 : ∀ a ∈ Bundle.stringAtoms, a.before a0' Z = true := own_strAtoms (ow hw 5 rfl) (ow hw 4 rfl) (ow hw 17 rfl) (ow hw 18 rfl) (ow hw 19 rfl) (ow hw 20 rfl) (ow hw 21 rfl)
  obtain ⟨s459, T459, h459, k459, bv459, kv459, X459, e459, E459, hS459, hk459, hZ, hown, Es459, Cs459, Vs459, As459, ls459, lb459, hC459, -, hne459, st459⟩ := ldcCH (s := s) (vm0 := s.vm) X456 hx hZ hown (ow hw 16 rfl) wS458 e456 hS0 hk0 hEW (List.mem_of_getElem? (i := 1) rfl) CH0.1 (vs := []) (z := 0) ⟨by decide, by decide⟩ (by decide) rfl (g := (mkF m 9 #[vr a0, vr a1, vi 0, vi 0, .val .null, .unset] [(.ref a0)])) rfl (hb hby od251) (n := 0) (by decide) (by decide) (by decide) (by decide)
  have CHn459 := CH0.trans hC459
  have KP459 : Keep h0 h459 [a0] := (Keep.refl h0 [a0]).ext E459
  have SZ459 : h0.size ≤ h459.size := KP459.1
  have Z459 : n0 ≤ h459.size := Nat.le_trans Z0 SZ459
  have ne459_a0 := hne459 a0 (CHn459.safe a0_lt a0_sf)
  obtain ⟨T460, X460, e460, st460⟩ := getF X459 hx hZ hown (host := "") (Or.inl (ow hw 22 rfl)) Via.refl e459 Vs459 (g := (mkF m 11 #[vr a0, vr a1, vi 0, vi 0, .val .null, .unset] [(.ref s459), (.ref a0)])) rfl rfl (hb hby od252)
  have fx462 := (E_t.ext E459)
  have fx463 := (F0v.ext E459)
  have Fo461 := fx463
  obtain ⟨T464, h464, X464, e464, W464, st464⟩ := putF X460 hx hZ hown (host := "") (Or.inl (ow hw 22 rfl)) Via.refl e460 Fo461 fx462 (Or.inr ⟨(ow hw 18 rfl), rfl, hnm⟩) (ow hw 4 rfl) (ty := (.array .byte)) (by decide) rfl rfl (g := (mkF m 14 #[vr a0, vr a1, vi 0, vi 0, .val .null, .unset] [(.ref bv459), (.ref a0)])) rfl rfl (hb hby od253)
  have Fw464 : Fld Z h464 a0 "java/lang/String" "value" "[B" (.ref bv459) := Fo461.same W464
  have N464 := Fr.snoc X464 N0 g_t
  have KP464 : Keep h0 h464 [a0] := KP459.wr W464 (Or.inl (List.mem_of_getElem? (i := 0) rfl))
  have SZ464 : h0.size ≤ h464.size := KP464.1
  have Z464 : n0 ≤ h464.size := Nat.le_trans Z0 SZ464
  have hk464 := Nat.le_trans hk459 (Keep.of_wr W464).1
  have CH464 := CHn459.trans (CHr.wr W464 (CHn459.safe a0_lt a0_sf) CHn459.1)
  have pre465 : PT p e below (T464.setTop (mkF m 18 #[vr a0, vr a1, vi 0, vi 0, .val .null, .unset] [(.ref a0)])) (s₁.setTop (entryFrame m #[(.ref a0), (.ref a1), (.int 0), (.int 0), .null] 6)) := fun t k => pre457 t (by
    refine st459 _ ?_
    refine st460 _ ?_
    refine st464 _ ?_
    refine XS.aloadN X464.here hx rfl (hb hby od254) rfl rfl ?_
    exact k)
  have wS466 : ∀ a ∈ Bundle.stringAtoms, a.before a0' Z = true := own_strAtoms (ow hw 5 rfl) (ow hw 4 rfl) (ow hw 17 rfl) (ow hw 18 rfl) (ow hw 19 rfl) (ow hw 20 rfl) (ow hw 21 rfl)
  obtain ⟨s467, T467, h467, k467, bv467, kv467, X467, e467, E467, hS467, hk467, hZ, hown, Es467, Cs467, Vs467, As467, ls467, lb467, hC467, -, hne467, st467⟩ := ldcCH (s := s) (vm0 := T459.vm) X464 hx hZ hown (ow hw 16 rfl) wS466 e464 hS459 hk464 hEW (List.mem_of_getElem? (i := 1) rfl) CH464.1 (vs := []) (z := 0) ⟨by decide, by decide⟩ (by decide) rfl (g := (mkF m 18 #[vr a0, vr a1, vi 0, vi 0, .val .null, .unset] [(.ref a0)])) rfl (hb hby od255) (n := 0) (by decide) (by decide) (by decide) (by decide)
  have CHn467 := CH464.trans hC467
  have KP467 : Keep h0 h467 [a0] := KP464.ext E467
  have SZ467 : h0.size ≤ h467.size := KP467.1
  have Z467 : n0 ≤ h467.size := Nat.le_trans Z0 SZ467
  have ne467_a0 := hne467 a0 (CHn467.safe a0_lt a0_sf)
  obtain ⟨T468, X468, e468, st468⟩ := getF X467 hx hZ hown (host := "") (Or.inl (ow hw 23 rfl)) Via.refl e467 Cs467 (g := (mkF m 20 #[vr a0, vr a1, vi 0, vi 0, .val .null, .unset] [(.ref s467), (.ref a0)])) rfl rfl (hb hby od256)
  have fx470 := ((fx462.wr W464).ext E467)
  have fx471 := (((F0c.ext E459).other W464 (Or.inr (slot_ne (a0 := a0') (Or.inr (ow hw 19 rfl)) (Or.inr (ow hw 18 rfl)) (by decide) (t := .byte) (t' := (.array .byte)) (by decide) (by decide)))).ext E467)
  have Fo469 := fx471
  obtain ⟨T472, h472, X472, e472, W472, st472⟩ := putFN X468 hx hZ hown (ow hw 23 rfl) Via.refl e468 Fo469 fx470 (Or.inr ⟨(ow hw 19 rfl), rfl, hnm⟩) (ow hw 4 rfl) (ty := .byte) (v' := (.int (nar .byte (0 : Int32)))) (by decide) rfl (fits_nar_byte _) (g := (mkF m 23 #[vr a0, vr a1, vi 0, vi 0, .val .null, .unset] [(.int 0), (.ref a0)])) rfl rfl (hb hby od257)
  have Fw472 : Fld Z h472 a0 "java/lang/String" "coder" "B" (.int 0) := Fo469.same W472
  have N472 := Fr.snoc X472 N464 g_t
  have KP472 : Keep h0 h472 [a0] := KP467.wr W472 (Or.inl (List.mem_of_getElem? (i := 0) rfl))
  have SZ472 : h0.size ≤ h472.size := KP472.1
  have Z472 : n0 ≤ h472.size := Nat.le_trans Z0 SZ472
  have hk472 := Nat.le_trans hk467 (Keep.of_wr W472).1
  have CH472 := CHn467.trans (CHr.wr W472 (CHn467.safe a0_lt a0_sf) CHn467.1)
  have fx473 := (fx470.wr W472)
  have fx474 := ((Fw464.ext E467).other W472 (Or.inr (slot_ne (a0 := a0') (Or.inr (ow hw 18 rfl)) (Or.inr (ow hw 19 rfl)) (by decide) (t := (.array .byte)) (t' := .byte) (by decide) (by decide))))
  have fx475 := (((As459.other W464 (Ne.symm ne459_a0.2)).ext E467).other W472 (Ne.symm ne459_a0.2))
  obtain ⟨fs, hr, hrun, hended, hE⟩ := X472.leaveW hS467 (by rw [e472]; exact hk472) (v := none) (fun _ => rfl)
  refine ⟨_, _, pre465 _ ?_, hrun, hended, _, _, rfl, ?_, ?_, own_wmono hE (by decide) (by decide)⟩
  · show Steps p.tables e below (T464.setTop (mkF m 18 #[vr a0, vr a1, vi 0, vi 0, .val .null, .unset] [(.ref a0)])) _
    refine st467 _ ?_
    refine st468 _ ?_
    refine st472 _ ?_
    exact X472.returnOut hx Bd.returns (hb hby od258) hr
  · show Q_in4_0 Z a0 a1 h0 n0 _ T472.heap _
    rw [e472]
    exact ⟨rfl, N472, KP472, fx473, Fw472, _, _, fx474, fx475⟩
  · show CHr Z own_EL s.vm s.heap T472.vm T472.heap
    rw [hh, e472]
    exact CH472.trans (CHv.at (s := s) (vm0 := T467.vm) X472 hZ hEW CH472.1)
theorem own_ef_in1_0 (m : MethodId) (a0 : Addr) (a1 : Addr) : entryFrame m #[(.ref a0), (.ref a1)] 2 = mkF m 0 #[vr a0, vr a1] [] := by first | (simp [entryFrame, mkF, argsToLocals, Value.category]; done) | rfl
def Q_in1_0 (Z : State) (a0 : Addr) (a1 : Addr) (kc1 : ClassId) (h0 : Heap) (n0 : Nat) (v : Option Value) (h : Heap) (L : List Loc) : Prop := v = none ∧ Fr n0 L ∧ Keep h0 h [a0] ∧ Exa Z h a0 "java/lang/String" ∧ Fld Z h a0 "java/lang/String" "coder" "B" (.int 0) ∧ ∃ (b : Addr) (k : ClassId), Fld Z h a0 "java/lang/String" "value" "[B" (.ref b) ∧ Arv Z h b k .byte (0 : Int32) [] (.int 0)
theorem rm_in1_0 (l : Launch) (Z : State) (a0' : Array Value) (hw : ∀ d ∈ tables_1, d.before a0' Z = true) (ws : List Jvm.Cond) (a0 : Addr) (a1 : Addr) (kc1 : ClassId) (h0 : Heap) (n0 : Nat) (Z0 : n0 ≤ h0.size) (E_t : Exa Z h0 a0 "java/lang/String") (F0v : Fld Z h0 a0 "java/lang/String" "value" "[B" .null) (F0c : Fld Z h0 a0 "java/lang/String" "coder" "B" (.int 0)) (g_t : n0 ≤ a0) (VA : Arv Z h0 a1 kc1 .char (0 : Int32) [] (.int 0)) :
    MetFree l nm20 (head1 (Jvm.Cond.code nm20 jdk_42_method_3_code 2 none :: ws) (⟨2, 4, 8, 29⟩ : Room)) (fun a U => a = #[(.ref a0), (.ref a1)] ∧ Z.Warmed39 U.vm ∧ U.heap = h0 ∧ CHv Z own_EL U.vm h0 ∧ ∀ x ∈ ([a0] : List Addr), Safe Z own_EL U.vm h0 x) (fun _ _ _ _ _ => True) (fun _ U o U' => ∃ v L, o = .returned v ∧ Q_in1_0 Z a0 a1 kc1 h0 n0 v U'.heap L ∧ CHr Z own_EL U.vm U.heap U'.vm U'.heap ∧ ReturnedEndW U o U' L (⟨2, 4, 8, 29⟩ : Room).cells (⟨2, 4, 8, 29⟩ : Room).slots) := by
  refine MetFree.of_bodySF (plainFor_of_name own_pn1) hisR ?_
  intro p e s m args below meth c s₁ Bd hml0 hP hK
  obtain ⟨rfl, hZ, hh, hCH, hSf⟩ := hP
  have hx := Bd.exec
  have hby := Bd.bytes
  have hml : c.maxLocals = 2 := hml0
  have hown : s.vm.findClass "java/lang/String" = some m.cls := findClass_of_methodNamed Bd.named
  have hnm := (name_of_methodNamed Bd.named Bd.method).1
  have X0 : Stand p l e (⟨2, 4, 8, 29⟩ : Room) s m #[(.ref a0), (.ref a1)] below meth c s₁ [] 0 0 := Stand.of_body Bd
  have e0 : s₁.heap = h0 := by rw [← hh, Bd.state]; rfl
  have N0 := Fr.nil n0
  have pre0 : PT p e below (s₁.setTop (mkF m 0 #[vr a0, vr a1] [])) (s₁.setTop (entryFrame m #[(.ref a0), (.ref a1)] 2)) := fun t k => castTop (own_ef_in1_0 m a0 a1) k
  have CH0 : CHr Z own_EL s.vm h0 s.vm h0 := CHr.refl hCH
  have hEW := own_EW hw
  have hS0 : s.Since s.vm 0 := (State.WarmedH.refl s).since 0
  have hk0 : 0 ≤ h0.size := Nat.zero_le _
  have a0_lt : a0 < h0.size := E_t.lt
  have a0_sf : Safe Z own_EL s.vm h0 a0 := hSf _ (List.mem_of_getElem? (i := 0) rfl)
  have Vc476 := VA
  obtain ⟨cl476, Ar476, q476, S476, N_476, H476, G476⟩ := Vc476
  have pre478 : PT p e below (s₁.setTop (mkF m 6 #[vr a0, vr a1] [.null, (.int 0), (.int 0), (.ref a1), (.ref a0)])) (s₁.setTop (entryFrame m #[(.ref a0), (.ref a1)] 2)) := fun t k => pre0 t (by
    refine XS.aloadN X0.here hx rfl (hb hby od229) rfl rfl ?_
    refine XS.aloadN X0.here hx rfl (hb hby od230) rfl rfl ?_
    refine XS.iconst X0.here hx rfl (hb hby od231) ?_
    refine XS.aloadN X0.here hx rfl (hb hby od232) rfl rfl ?_
    refine X0.arraylength hx (by rw [e0]; exact Ar476.1) (State.isArrayOf_alike hZ.alike Ar476.2.1) (g := (mkF m 4 #[vr a0, vr a1] [(.ref a1), (.int 0), (.ref a1), (.ref a0)])) rfl rfl (hb hby od233) _ ?_
    rw [len_of S476 N_476]
    refine XS.aconstNull X0.here hx rfl (hb hby od234) ?_
    exact k)
  obtain ⟨_, _, ⟨T477, L477, k477, n477⟩, -, X477w, hS477w, hg477w, ⟨Lc477, hQ477, l477, y477, z477, hC477⟩, st477⟩ := X0.specialBackS hx (y := nm19) rfl hown (mvT hZ (ow hw 9 rfl)) (mvT hZ (ow hw 10 rfl)) (mvT hZ (ow hw 12 rfl)) (by decide) (own_backW (s := s) (vm0 := s.vm) (W := 0) (rm_in4_0 l Z a0' hw [] a0 a1 h0 n0 Z0 E_t F0v F0c g_t) hZ (ow hw 12 rfl) (ow hw 5 rfl) (by decide) (by decide) hEW CH0.1 (allS (P := fun x => x < _ ∧ Safe Z own_EL _ _ x) ⟨E_t.lt, (CH0.safe a0_lt a0_sf)⟩ all0)) (g := (mkF m 6 #[vr a0, vr a1] [.null, (.int 0), (.int 0), (.ref a1), (.ref a0)])) rfl (by rw [hml]; rfl) (Steps.refl _) (a := a0) (argsL := [(.ref a1), (.int 0), (.int 0), .null]) (rest := []) (lenOf own_pd13 rfl) rfl (by show 2 * 0 + _ ≤ _; exact Nat.le_of_eq rfl) (hb hby od235) (fun _ _ => ⟨rfl, e0, (by decide : 0 + 4 ≤ _), (by decide : 0 + 8 ≤ _)⟩)
  dsimp only [Pt.U, Pt.locs, Pt.cells, Pt.slots] at X477w hS477w hg477w l477 y477 z477 st477 hQ477 hC477
  subst l477 y477 z477
  obtain ⟨X477, hS477, hZ, hown⟩ := rebS hS0 (by rw [e0]; exact hk0) X477w hS477w hg477w hZ hown
  have CHn477 := CH0.trans hC477
  obtain ⟨rfl, N477q, K477, Ei477, Ci477, bi477, ki477, Fi477, Vi477⟩ := hQ477
  have N477 := Fr.app N0 N477q
  have KP477 : Keep h0 T477.heap [a0] := (Keep.refl h0 [a0]).trans K477 (allS (Or.inl (List.mem_of_getElem? (i := 0) rfl)) all0)
  have SZ477 : h0.size ≤ T477.heap.size := KP477.1
  have Z477 : n0 ≤ T477.heap.size := Nat.le_trans Z0 SZ477
  obtain ⟨fs, hr, hrun, hended, hE⟩ := X477.leaveW hS477 (Nat.le_refl _) (v := none) (fun _ => rfl)
  refine ⟨_, _, pre478 _ ?_, hrun, hended, _, _, rfl, ?_, ?_, own_wmono hE (by decide) (by decide)⟩
  · show Steps p.tables e below (s₁.setTop (mkF m 6 #[vr a0, vr a1] [.null, (.int 0), (.int 0), (.ref a1), (.ref a0)])) _
    refine st477.trans ?_
    exact X477.returnOut hx Bd.returns (hb hby od236) hr
  · show Q_in1_0 Z a0 a1 kc1 h0 n0 _ T477.heap _
    exact ⟨rfl, N477, KP477, Ei477, Ci477, _, _, Fi477, Vi477⟩
  · show CHr Z own_EL s.vm s.heap T477.vm T477.heap
    rw [hh]
    exact CHn477.trans (CHv.at (s := s) (vm0 := T477.vm) X477 hZ hEW CHn477.1)
theorem own_pn4 : plainName "com/example/lead_line/leadline/Terms" = true := by first | (simp [plainName, overriddenIn]; done) | decide +kernel
theorem od259 : decode prog_10_method_6_code 0 = .ok (.iload_n 0, 1) := by decide +kernel
theorem od260 : decode prog_10_method_6_code 1 = .ok (.bipush 97, 2) := by decide +kernel
theorem od261 : decode prog_10_method_6_code 3 = .ok (.if_icmp .lt 9, 3) := by decide +kernel
theorem od262 : decode prog_10_method_6_code 12 = .ok (.iload_n 0, 1) := by decide +kernel
theorem od263 : decode prog_10_method_6_code 13 = .ok (.bipush 65, 2) := by decide +kernel
theorem od264 : decode prog_10_method_6_code 15 = .ok (.if_icmp .lt 9, 3) := by decide +kernel
theorem od265 : decode prog_10_method_6_code 24 = .ok (.iload_n 0, 1) := by decide +kernel
theorem od266 : decode prog_10_method_6_code 25 = .ok (.bipush 48, 2) := by decide +kernel
theorem od267 : decode prog_10_method_6_code 27 = .ok (.if_icmp .lt 13, 3) := by decide +kernel
theorem od268 : decode prog_10_method_6_code 40 = .ok (.iconst 0, 1) := by decide +kernel
theorem od269 : decode prog_10_method_6_code 41 = .ok (.ireturn, 1) := by decide +kernel
theorem od270 : decode prog_10_method_6_code 30 = .ok (.iload_n 0, 1) := by decide +kernel
theorem od271 : decode prog_10_method_6_code 31 = .ok (.bipush 57, 2) := by decide +kernel
theorem od272 : decode prog_10_method_6_code 33 = .ok (.if_icmp .gt 7, 3) := by decide +kernel
theorem od273 : decode prog_10_method_6_code 36 = .ok (.iconst 1, 1) := by decide +kernel
theorem od274 : decode prog_10_method_6_code 37 = .ok (.goto 4, 3) := by decide +kernel
theorem od275 : decode prog_10_method_6_code 18 = .ok (.iload_n 0, 1) := by decide +kernel
theorem od276 : decode prog_10_method_6_code 19 = .ok (.bipush 90, 2) := by decide +kernel
theorem od277 : decode prog_10_method_6_code 21 = .ok (.if_icmp .le 15, 3) := by decide +kernel
theorem od278 : decode prog_10_method_6_code 6 = .ok (.iload_n 0, 1) := by decide +kernel
theorem od279 : decode prog_10_method_6_code 7 = .ok (.bipush 122, 2) := by decide +kernel
theorem od280 : decode prog_10_method_6_code 9 = .ok (.if_icmp .le 27, 3) := by decide +kernel
def F_tb (p0 : Int32) : Int32 := (if p0 < (97 : Int32) then (if p0 < (65 : Int32) then (if p0 < (48 : Int32) then (0 : Int32) else (if (57 : Int32) < p0 then (0 : Int32) else (1 : Int32))) else (if (90 : Int32) < p0 then (if p0 < (48 : Int32) then (0 : Int32) else (if (57 : Int32) < p0 then (0 : Int32) else (1 : Int32))) else (1 : Int32))) else (if (122 : Int32) < p0 then (if p0 < (65 : Int32) then (if p0 < (48 : Int32) then (0 : Int32) else (if (57 : Int32) < p0 then (0 : Int32) else (1 : Int32))) else (if (90 : Int32) < p0 then (if p0 < (48 : Int32) then (0 : Int32) else (if (57 : Int32) < p0 then (0 : Int32) else (1 : Int32))) else (1 : Int32))) else (1 : Int32)))
theorem own_ef_tb (m : MethodId) (p0 : Int32) : entryFrame m #[(.int p0)] 1 = mkF m 0 #[vi p0] [] := by first | (simp [entryFrame, mkF, argsToLocals, Value.category]; done) | rfl
def Q_tb (Z : State) (p0 : Int32) (h0 : Heap) (n0 : Nat) (v : Option Value) (h : Heap) (L : List Loc) : Prop := v = some (.int (F_tb p0)) ∧ Fr n0 L ∧ h = h0
theorem rm_tb (l : Launch) (Z : State) (a0' : Array Value) (hw : ∀ d ∈ tables_1, d.before a0' Z = true) (ws : List Jvm.Cond) (p0 : Int32) (h0 : Heap) (n0 : Nat) (Z0 : n0 ≤ h0.size) :
    MF l nm21 prog_10_method_6_code 1 (some .boolean) ws (⟨0, 0, 0, 0⟩ : Room) #[(.int p0)] Z h0 (Q_tb Z p0 h0 n0) := by
  refine MetFree.of_bodySF (plainFor_of_name own_pn4) hisR ?_
  intro p e s m args below meth c s₁ Bd hml0 hP hK
  obtain ⟨rfl, hZ, hh⟩ := hP
  have hx := Bd.exec
  have hby := Bd.bytes
  have hml : c.maxLocals = 1 := hml0
  have hown : s.vm.findClass "com/example/lead_line/leadline/Terms" = some m.cls := findClass_of_methodNamed Bd.named
  have hnm := (name_of_methodNamed Bd.named Bd.method).1
  have X0 : Stand p l e (⟨0, 0, 0, 0⟩ : Room) s m #[(.int p0)] below meth c s₁ [] 0 0 := Stand.of_body Bd
  have e0 : s₁.heap = h0 := by rw [← hh, Bd.state]; rfl
  have N0 := Fr.nil n0
  have pre0 : PT p e below (s₁.setTop (mkF m 0 #[vi p0] [])) (s₁.setTop (entryFrame m #[(.int p0)] 1)) := fun t k => castTop (own_ef_tb m p0) k
  have pre480 : PT p e below (s₁.setTop (mkF m 3 #[vi p0] [(.int 97), (.int p0)])) (s₁.setTop (entryFrame m #[(.int p0)] 1)) := fun t k => pre0 t (by
    refine XS.iloadN X0.here hx rfl (hb hby od259) rfl ?_
    refine XS.bipush X0.here hx rfl (hb hby od260) ?_
    exact k)
  by_cases hc3_479 : p0 < (97 : Int32)
  · have pre482 : PT p e below (s₁.setTop (mkF m 15 #[vi p0] [(.int 65), (.int p0)])) (s₁.setTop (entryFrame m #[(.int p0)] 1)) := fun t k => pre480 t (by
      refine XS.icmpYes X0.here hx rfl (pc0 := 3) (pc' := 12) rfl (hb hby od261) rfl (tlt hc3_479).1 (by decide) (by decide) ?_
      refine XS.iloadN X0.here hx rfl (hb hby od262) rfl ?_
      refine XS.bipush X0.here hx rfl (hb hby od263) ?_
      exact k)
    by_cases hc15_481 : p0 < (65 : Int32)
    · have pre484 : PT p e below (s₁.setTop (mkF m 27 #[vi p0] [(.int 48), (.int p0)])) (s₁.setTop (entryFrame m #[(.int p0)] 1)) := fun t k => pre482 t (by
        refine XS.icmpYes X0.here hx rfl (pc0 := 15) (pc' := 24) rfl (hb hby od264) rfl (tlt hc15_481).1 (by decide) (by decide) ?_
        refine XS.iloadN X0.here hx rfl (hb hby od265) rfl ?_
        refine XS.bipush X0.here hx rfl (hb hby od266) ?_
        exact k)
      by_cases hc27_483 : p0 < (48 : Int32)
      · obtain ⟨fs, hr, hrun, hended, hW, hsame⟩ := X0.leave (v := some (.int 0)) (fun h => by rw [Bd.returns] at h; cases h)
        refine ⟨_, _, pre484 _ ?_, hrun, hended, _, _, rfl, ?_, ⟨_, rfl⟩, hW, hsame.mono (by decide) (by decide)⟩
        · show Steps p.tables e below (s₁.setTop (mkF m 27 #[vi p0] [(.int 48), (.int p0)])) _
          refine XS.icmpYes X0.here hx rfl (pc0 := 27) (pc' := 40) rfl (hb hby od267) rfl (tlt hc27_483).1 (by decide) (by decide) ?_
          refine XS.iconst X0.here hx rfl (hb hby od268) ?_
          exact retN X0 hx (t := .boolean) Bd.returns (by simp) (hb hby od269) hr
        · show Q_tb Z p0 h0 n0 _ s₁.heap _
          refine ⟨?_, N0, e0⟩
          rw [F_tb, if_pos hc3_479, if_pos hc15_481, if_pos hc27_483]
      · have pre486 : PT p e below (s₁.setTop (mkF m 33 #[vi p0] [(.int 57), (.int p0)])) (s₁.setTop (entryFrame m #[(.int p0)] 1)) := fun t k => pre484 t (by
          refine XS.icmpNo X0.here hx rfl (hb hby od267) rfl (flt hc27_483).1 ?_
          refine XS.iloadN X0.here hx rfl (hb hby od270) rfl ?_
          refine XS.bipush X0.here hx rfl (hb hby od271) ?_
          exact k)
        by_cases hc33_485 : (57 : Int32) < p0
        · obtain ⟨fs, hr, hrun, hended, hW, hsame⟩ := X0.leave (v := some (.int 0)) (fun h => by rw [Bd.returns] at h; cases h)
          refine ⟨_, _, pre486 _ ?_, hrun, hended, _, _, rfl, ?_, ⟨_, rfl⟩, hW, hsame.mono (by decide) (by decide)⟩
          · show Steps p.tables e below (s₁.setTop (mkF m 33 #[vi p0] [(.int 57), (.int p0)])) _
            refine XS.icmpYes X0.here hx rfl (pc0 := 33) (pc' := 40) rfl (hb hby od272) rfl (tlt hc33_485).2.2.1 (by decide) (by decide) ?_
            refine XS.iconst X0.here hx rfl (hb hby od268) ?_
            exact retN X0 hx (t := .boolean) Bd.returns (by simp) (hb hby od269) hr
          · show Q_tb Z p0 h0 n0 _ s₁.heap _
            refine ⟨?_, N0, e0⟩
            rw [F_tb, if_pos hc3_479, if_pos hc15_481, if_neg hc27_483, if_pos hc33_485]
        · obtain ⟨fs, hr, hrun, hended, hW, hsame⟩ := X0.leave (v := some (.int 1)) (fun h => by rw [Bd.returns] at h; cases h)
          refine ⟨_, _, pre486 _ ?_, hrun, hended, _, _, rfl, ?_, ⟨_, rfl⟩, hW, hsame.mono (by decide) (by decide)⟩
          · show Steps p.tables e below (s₁.setTop (mkF m 33 #[vi p0] [(.int 57), (.int p0)])) _
            refine XS.icmpNo X0.here hx rfl (hb hby od272) rfl (flt hc33_485).2.2.1 ?_
            refine XS.iconst X0.here hx rfl (hb hby od273) ?_
            refine XS.goto X0.here hx rfl (pc0 := 37) (pc' := 41) rfl (hb hby od274) (by decide) (by decide) ?_
            exact retN X0 hx (t := .boolean) Bd.returns (by simp) (hb hby od269) hr
          · show Q_tb Z p0 h0 n0 _ s₁.heap _
            refine ⟨?_, N0, e0⟩
            rw [F_tb, if_pos hc3_479, if_pos hc15_481, if_neg hc27_483, if_neg hc33_485]
    · have pre488 : PT p e below (s₁.setTop (mkF m 21 #[vi p0] [(.int 90), (.int p0)])) (s₁.setTop (entryFrame m #[(.int p0)] 1)) := fun t k => pre482 t (by
        refine XS.icmpNo X0.here hx rfl (hb hby od264) rfl (flt hc15_481).1 ?_
        refine XS.iloadN X0.here hx rfl (hb hby od275) rfl ?_
        refine XS.bipush X0.here hx rfl (hb hby od276) ?_
        exact k)
      by_cases hc21_487 : (90 : Int32) < p0
      · have pre490 : PT p e below (s₁.setTop (mkF m 27 #[vi p0] [(.int 48), (.int p0)])) (s₁.setTop (entryFrame m #[(.int p0)] 1)) := fun t k => pre488 t (by
          refine XS.icmpNo X0.here hx rfl (hb hby od277) rfl (tlt hc21_487).2.2.2 ?_
          refine XS.iloadN X0.here hx rfl (hb hby od265) rfl ?_
          refine XS.bipush X0.here hx rfl (hb hby od266) ?_
          exact k)
        by_cases hc27_489 : p0 < (48 : Int32)
        · obtain ⟨fs, hr, hrun, hended, hW, hsame⟩ := X0.leave (v := some (.int 0)) (fun h => by rw [Bd.returns] at h; cases h)
          refine ⟨_, _, pre490 _ ?_, hrun, hended, _, _, rfl, ?_, ⟨_, rfl⟩, hW, hsame.mono (by decide) (by decide)⟩
          · show Steps p.tables e below (s₁.setTop (mkF m 27 #[vi p0] [(.int 48), (.int p0)])) _
            refine XS.icmpYes X0.here hx rfl (pc0 := 27) (pc' := 40) rfl (hb hby od267) rfl (tlt hc27_489).1 (by decide) (by decide) ?_
            refine XS.iconst X0.here hx rfl (hb hby od268) ?_
            exact retN X0 hx (t := .boolean) Bd.returns (by simp) (hb hby od269) hr
          · show Q_tb Z p0 h0 n0 _ s₁.heap _
            refine ⟨?_, N0, e0⟩
            rw [F_tb, if_pos hc3_479, if_neg hc15_481, if_pos hc21_487, if_pos hc27_489]
        · have pre492 : PT p e below (s₁.setTop (mkF m 33 #[vi p0] [(.int 57), (.int p0)])) (s₁.setTop (entryFrame m #[(.int p0)] 1)) := fun t k => pre490 t (by
            refine XS.icmpNo X0.here hx rfl (hb hby od267) rfl (flt hc27_489).1 ?_
            refine XS.iloadN X0.here hx rfl (hb hby od270) rfl ?_
            refine XS.bipush X0.here hx rfl (hb hby od271) ?_
            exact k)
          by_cases hc33_491 : (57 : Int32) < p0
          · obtain ⟨fs, hr, hrun, hended, hW, hsame⟩ := X0.leave (v := some (.int 0)) (fun h => by rw [Bd.returns] at h; cases h)
            refine ⟨_, _, pre492 _ ?_, hrun, hended, _, _, rfl, ?_, ⟨_, rfl⟩, hW, hsame.mono (by decide) (by decide)⟩
            · show Steps p.tables e below (s₁.setTop (mkF m 33 #[vi p0] [(.int 57), (.int p0)])) _
              refine XS.icmpYes X0.here hx rfl (pc0 := 33) (pc' := 40) rfl (hb hby od272) rfl (tlt hc33_491).2.2.1 (by decide) (by decide) ?_
              refine XS.iconst X0.here hx rfl (hb hby od268) ?_
              exact retN X0 hx (t := .boolean) Bd.returns (by simp) (hb hby od269) hr
            · show Q_tb Z p0 h0 n0 _ s₁.heap _
              refine ⟨?_, N0, e0⟩
              rw [F_tb, if_pos hc3_479, if_neg hc15_481, if_pos hc21_487, if_neg hc27_489, if_pos hc33_491]
          · obtain ⟨fs, hr, hrun, hended, hW, hsame⟩ := X0.leave (v := some (.int 1)) (fun h => by rw [Bd.returns] at h; cases h)
            refine ⟨_, _, pre492 _ ?_, hrun, hended, _, _, rfl, ?_, ⟨_, rfl⟩, hW, hsame.mono (by decide) (by decide)⟩
            · show Steps p.tables e below (s₁.setTop (mkF m 33 #[vi p0] [(.int 57), (.int p0)])) _
              refine XS.icmpNo X0.here hx rfl (hb hby od272) rfl (flt hc33_491).2.2.1 ?_
              refine XS.iconst X0.here hx rfl (hb hby od273) ?_
              refine XS.goto X0.here hx rfl (pc0 := 37) (pc' := 41) rfl (hb hby od274) (by decide) (by decide) ?_
              exact retN X0 hx (t := .boolean) Bd.returns (by simp) (hb hby od269) hr
            · show Q_tb Z p0 h0 n0 _ s₁.heap _
              refine ⟨?_, N0, e0⟩
              rw [F_tb, if_pos hc3_479, if_neg hc15_481, if_pos hc21_487, if_neg hc27_489, if_neg hc33_491]
      · obtain ⟨fs, hr, hrun, hended, hW, hsame⟩ := X0.leave (v := some (.int 1)) (fun h => by rw [Bd.returns] at h; cases h)
        refine ⟨_, _, pre488 _ ?_, hrun, hended, _, _, rfl, ?_, ⟨_, rfl⟩, hW, hsame.mono (by decide) (by decide)⟩
        · show Steps p.tables e below (s₁.setTop (mkF m 21 #[vi p0] [(.int 90), (.int p0)])) _
          refine XS.icmpYes X0.here hx rfl (pc0 := 21) (pc' := 36) rfl (hb hby od277) rfl (flt hc21_487).2.2.2 (by decide) (by decide) ?_
          refine XS.iconst X0.here hx rfl (hb hby od273) ?_
          refine XS.goto X0.here hx rfl (pc0 := 37) (pc' := 41) rfl (hb hby od274) (by decide) (by decide) ?_
          exact retN X0 hx (t := .boolean) Bd.returns (by simp) (hb hby od269) hr
        · show Q_tb Z p0 h0 n0 _ s₁.heap _
          refine ⟨?_, N0, e0⟩
          rw [F_tb, if_pos hc3_479, if_neg hc15_481, if_neg hc21_487]
  · have pre494 : PT p e below (s₁.setTop (mkF m 9 #[vi p0] [(.int 122), (.int p0)])) (s₁.setTop (entryFrame m #[(.int p0)] 1)) := fun t k => pre480 t (by
      refine XS.icmpNo X0.here hx rfl (hb hby od261) rfl (flt hc3_479).1 ?_
      refine XS.iloadN X0.here hx rfl (hb hby od278) rfl ?_
      refine XS.bipush X0.here hx rfl (hb hby od279) ?_
      exact k)
    by_cases hc9_493 : (122 : Int32) < p0
    · have pre496 : PT p e below (s₁.setTop (mkF m 15 #[vi p0] [(.int 65), (.int p0)])) (s₁.setTop (entryFrame m #[(.int p0)] 1)) := fun t k => pre494 t (by
        refine XS.icmpNo X0.here hx rfl (hb hby od280) rfl (tlt hc9_493).2.2.2 ?_
        refine XS.iloadN X0.here hx rfl (hb hby od262) rfl ?_
        refine XS.bipush X0.here hx rfl (hb hby od263) ?_
        exact k)
      by_cases hc15_495 : p0 < (65 : Int32)
      · have pre498 : PT p e below (s₁.setTop (mkF m 27 #[vi p0] [(.int 48), (.int p0)])) (s₁.setTop (entryFrame m #[(.int p0)] 1)) := fun t k => pre496 t (by
          refine XS.icmpYes X0.here hx rfl (pc0 := 15) (pc' := 24) rfl (hb hby od264) rfl (tlt hc15_495).1 (by decide) (by decide) ?_
          refine XS.iloadN X0.here hx rfl (hb hby od265) rfl ?_
          refine XS.bipush X0.here hx rfl (hb hby od266) ?_
          exact k)
        by_cases hc27_497 : p0 < (48 : Int32)
        · obtain ⟨fs, hr, hrun, hended, hW, hsame⟩ := X0.leave (v := some (.int 0)) (fun h => by rw [Bd.returns] at h; cases h)
          refine ⟨_, _, pre498 _ ?_, hrun, hended, _, _, rfl, ?_, ⟨_, rfl⟩, hW, hsame.mono (by decide) (by decide)⟩
          · show Steps p.tables e below (s₁.setTop (mkF m 27 #[vi p0] [(.int 48), (.int p0)])) _
            refine XS.icmpYes X0.here hx rfl (pc0 := 27) (pc' := 40) rfl (hb hby od267) rfl (tlt hc27_497).1 (by decide) (by decide) ?_
            refine XS.iconst X0.here hx rfl (hb hby od268) ?_
            exact retN X0 hx (t := .boolean) Bd.returns (by simp) (hb hby od269) hr
          · show Q_tb Z p0 h0 n0 _ s₁.heap _
            refine ⟨?_, N0, e0⟩
            rw [F_tb, if_neg hc3_479, if_pos hc9_493, if_pos hc15_495, if_pos hc27_497]
        · have pre500 : PT p e below (s₁.setTop (mkF m 33 #[vi p0] [(.int 57), (.int p0)])) (s₁.setTop (entryFrame m #[(.int p0)] 1)) := fun t k => pre498 t (by
            refine XS.icmpNo X0.here hx rfl (hb hby od267) rfl (flt hc27_497).1 ?_
            refine XS.iloadN X0.here hx rfl (hb hby od270) rfl ?_
            refine XS.bipush X0.here hx rfl (hb hby od271) ?_
            exact k)
          by_cases hc33_499 : (57 : Int32) < p0
          · obtain ⟨fs, hr, hrun, hended, hW, hsame⟩ := X0.leave (v := some (.int 0)) (fun h => by rw [Bd.returns] at h; cases h)
            refine ⟨_, _, pre500 _ ?_, hrun, hended, _, _, rfl, ?_, ⟨_, rfl⟩, hW, hsame.mono (by decide) (by decide)⟩
            · show Steps p.tables e below (s₁.setTop (mkF m 33 #[vi p0] [(.int 57), (.int p0)])) _
              refine XS.icmpYes X0.here hx rfl (pc0 := 33) (pc' := 40) rfl (hb hby od272) rfl (tlt hc33_499).2.2.1 (by decide) (by decide) ?_
              refine XS.iconst X0.here hx rfl (hb hby od268) ?_
              exact retN X0 hx (t := .boolean) Bd.returns (by simp) (hb hby od269) hr
            · show Q_tb Z p0 h0 n0 _ s₁.heap _
              refine ⟨?_, N0, e0⟩
              rw [F_tb, if_neg hc3_479, if_pos hc9_493, if_pos hc15_495, if_neg hc27_497, if_pos hc33_499]
          · obtain ⟨fs, hr, hrun, hended, hW, hsame⟩ := X0.leave (v := some (.int 1)) (fun h => by rw [Bd.returns] at h; cases h)
            refine ⟨_, _, pre500 _ ?_, hrun, hended, _, _, rfl, ?_, ⟨_, rfl⟩, hW, hsame.mono (by decide) (by decide)⟩
            · show Steps p.tables e below (s₁.setTop (mkF m 33 #[vi p0] [(.int 57), (.int p0)])) _
              refine XS.icmpNo X0.here hx rfl (hb hby od272) rfl (flt hc33_499).2.2.1 ?_
              refine XS.iconst X0.here hx rfl (hb hby od273) ?_
              refine XS.goto X0.here hx rfl (pc0 := 37) (pc' := 41) rfl (hb hby od274) (by decide) (by decide) ?_
              exact retN X0 hx (t := .boolean) Bd.returns (by simp) (hb hby od269) hr
            · show Q_tb Z p0 h0 n0 _ s₁.heap _
              refine ⟨?_, N0, e0⟩
              rw [F_tb, if_neg hc3_479, if_pos hc9_493, if_pos hc15_495, if_neg hc27_497, if_neg hc33_499]
      · have pre502 : PT p e below (s₁.setTop (mkF m 21 #[vi p0] [(.int 90), (.int p0)])) (s₁.setTop (entryFrame m #[(.int p0)] 1)) := fun t k => pre496 t (by
          refine XS.icmpNo X0.here hx rfl (hb hby od264) rfl (flt hc15_495).1 ?_
          refine XS.iloadN X0.here hx rfl (hb hby od275) rfl ?_
          refine XS.bipush X0.here hx rfl (hb hby od276) ?_
          exact k)
        by_cases hc21_501 : (90 : Int32) < p0
        · have pre504 : PT p e below (s₁.setTop (mkF m 27 #[vi p0] [(.int 48), (.int p0)])) (s₁.setTop (entryFrame m #[(.int p0)] 1)) := fun t k => pre502 t (by
            refine XS.icmpNo X0.here hx rfl (hb hby od277) rfl (tlt hc21_501).2.2.2 ?_
            refine XS.iloadN X0.here hx rfl (hb hby od265) rfl ?_
            refine XS.bipush X0.here hx rfl (hb hby od266) ?_
            exact k)
          by_cases hc27_503 : p0 < (48 : Int32)
          · obtain ⟨fs, hr, hrun, hended, hW, hsame⟩ := X0.leave (v := some (.int 0)) (fun h => by rw [Bd.returns] at h; cases h)
            refine ⟨_, _, pre504 _ ?_, hrun, hended, _, _, rfl, ?_, ⟨_, rfl⟩, hW, hsame.mono (by decide) (by decide)⟩
            · show Steps p.tables e below (s₁.setTop (mkF m 27 #[vi p0] [(.int 48), (.int p0)])) _
              refine XS.icmpYes X0.here hx rfl (pc0 := 27) (pc' := 40) rfl (hb hby od267) rfl (tlt hc27_503).1 (by decide) (by decide) ?_
              refine XS.iconst X0.here hx rfl (hb hby od268) ?_
              exact retN X0 hx (t := .boolean) Bd.returns (by simp) (hb hby od269) hr
            · show Q_tb Z p0 h0 n0 _ s₁.heap _
              refine ⟨?_, N0, e0⟩
              rw [F_tb, if_neg hc3_479, if_pos hc9_493, if_neg hc15_495, if_pos hc21_501, if_pos hc27_503]
          · have pre506 : PT p e below (s₁.setTop (mkF m 33 #[vi p0] [(.int 57), (.int p0)])) (s₁.setTop (entryFrame m #[(.int p0)] 1)) := fun t k => pre504 t (by
              refine XS.icmpNo X0.here hx rfl (hb hby od267) rfl (flt hc27_503).1 ?_
              refine XS.iloadN X0.here hx rfl (hb hby od270) rfl ?_
              refine XS.bipush X0.here hx rfl (hb hby od271) ?_
              exact k)
            by_cases hc33_505 : (57 : Int32) < p0
            · obtain ⟨fs, hr, hrun, hended, hW, hsame⟩ := X0.leave (v := some (.int 0)) (fun h => by rw [Bd.returns] at h; cases h)
              refine ⟨_, _, pre506 _ ?_, hrun, hended, _, _, rfl, ?_, ⟨_, rfl⟩, hW, hsame.mono (by decide) (by decide)⟩
              · show Steps p.tables e below (s₁.setTop (mkF m 33 #[vi p0] [(.int 57), (.int p0)])) _
                refine XS.icmpYes X0.here hx rfl (pc0 := 33) (pc' := 40) rfl (hb hby od272) rfl (tlt hc33_505).2.2.1 (by decide) (by decide) ?_
                refine XS.iconst X0.here hx rfl (hb hby od268) ?_
                exact retN X0 hx (t := .boolean) Bd.returns (by simp) (hb hby od269) hr
              · show Q_tb Z p0 h0 n0 _ s₁.heap _
                refine ⟨?_, N0, e0⟩
                rw [F_tb, if_neg hc3_479, if_pos hc9_493, if_neg hc15_495, if_pos hc21_501, if_neg hc27_503, if_pos hc33_505]
            · obtain ⟨fs, hr, hrun, hended, hW, hsame⟩ := X0.leave (v := some (.int 1)) (fun h => by rw [Bd.returns] at h; cases h)
              refine ⟨_, _, pre506 _ ?_, hrun, hended, _, _, rfl, ?_, ⟨_, rfl⟩, hW, hsame.mono (by decide) (by decide)⟩
              · show Steps p.tables e below (s₁.setTop (mkF m 33 #[vi p0] [(.int 57), (.int p0)])) _
                refine XS.icmpNo X0.here hx rfl (hb hby od272) rfl (flt hc33_505).2.2.1 ?_
                refine XS.iconst X0.here hx rfl (hb hby od273) ?_
                refine XS.goto X0.here hx rfl (pc0 := 37) (pc' := 41) rfl (hb hby od274) (by decide) (by decide) ?_
                exact retN X0 hx (t := .boolean) Bd.returns (by simp) (hb hby od269) hr
              · show Q_tb Z p0 h0 n0 _ s₁.heap _
                refine ⟨?_, N0, e0⟩
                rw [F_tb, if_neg hc3_479, if_pos hc9_493, if_neg hc15_495, if_pos hc21_501, if_neg hc27_503, if_neg hc33_505]
        · obtain ⟨fs, hr, hrun, hended, hW, hsame⟩ := X0.leave (v := some (.int 1)) (fun h => by rw [Bd.returns] at h; cases h)
          refine ⟨_, _, pre502 _ ?_, hrun, hended, _, _, rfl, ?_, ⟨_, rfl⟩, hW, hsame.mono (by decide) (by decide)⟩
          · show Steps p.tables e below (s₁.setTop (mkF m 21 #[vi p0] [(.int 90), (.int p0)])) _
            refine XS.icmpYes X0.here hx rfl (pc0 := 21) (pc' := 36) rfl (hb hby od277) rfl (flt hc21_501).2.2.2 (by decide) (by decide) ?_
            refine XS.iconst X0.here hx rfl (hb hby od273) ?_
            refine XS.goto X0.here hx rfl (pc0 := 37) (pc' := 41) rfl (hb hby od274) (by decide) (by decide) ?_
            exact retN X0 hx (t := .boolean) Bd.returns (by simp) (hb hby od269) hr
          · show Q_tb Z p0 h0 n0 _ s₁.heap _
            refine ⟨?_, N0, e0⟩
            rw [F_tb, if_neg hc3_479, if_pos hc9_493, if_neg hc15_495, if_neg hc21_501]
    · obtain ⟨fs, hr, hrun, hended, hW, hsame⟩ := X0.leave (v := some (.int 1)) (fun h => by rw [Bd.returns] at h; cases h)
      refine ⟨_, _, pre494 _ ?_, hrun, hended, _, _, rfl, ?_, ⟨_, rfl⟩, hW, hsame.mono (by decide) (by decide)⟩
      · show Steps p.tables e below (s₁.setTop (mkF m 9 #[vi p0] [(.int 122), (.int p0)])) _
        refine XS.icmpYes X0.here hx rfl (pc0 := 9) (pc' := 36) rfl (hb hby od280) rfl (flt hc9_493).2.2.2 (by decide) (by decide) ?_
        refine XS.iconst X0.here hx rfl (hb hby od273) ?_
        refine XS.goto X0.here hx rfl (pc0 := 37) (pc' := 41) rfl (hb hby od274) (by decide) (by decide) ?_
        exact retN X0 hx (t := .boolean) Bd.returns (by simp) (hb hby od269) hr
      · show Q_tb Z p0 h0 n0 _ s₁.heap _
        refine ⟨?_, N0, e0⟩
        rw [F_tb, if_neg hc3_479, if_neg hc9_493]
theorem own_pn5 : plainName "com/example/lead_line/leadline/TermsIsTermPinLaw" = true := by first | (simp [plainName, overriddenIn]; done) | decide +kernel
theorem od281 : decode method_2_code 0 = .ok (.iload_n 0, 1) := by decide +kernel
theorem od282 : decode method_2_code 1 = .ok (.bipush 97, 2) := by decide +kernel
theorem od283 : decode method_2_code 3 = .ok (.if_icmp .lt 11, 3) := by decide +kernel
theorem od284 : decode method_2_code 14 = .ok (.iload_n 0, 1) := by decide +kernel
theorem od285 : decode method_2_code 15 = .ok (.bipush 65, 2) := by decide +kernel
theorem od286 : decode method_2_code 17 = .ok (.if_icmp .lt 11, 3) := by decide +kernel
theorem od287 : decode method_2_code 28 = .ok (.iload_n 0, 1) := by decide +kernel
theorem od288 : decode method_2_code 29 = .ok (.bipush 48, 2) := by decide +kernel
theorem od289 : decode method_2_code 31 = .ok (.if_icmp .lt 13, 3) := by decide +kernel
theorem od290 : decode method_2_code 44 = .ok (.iconst 0, 1) := by decide +kernel
theorem od291 : decode method_2_code 45 = .ok (.ireturn, 1) := by decide +kernel
theorem od292 : decode method_2_code 34 = .ok (.iload_n 0, 1) := by decide +kernel
theorem od293 : decode method_2_code 35 = .ok (.bipush 57, 2) := by decide +kernel
theorem od294 : decode method_2_code 37 = .ok (.if_icmp .gt 7, 3) := by decide +kernel
theorem od295 : decode method_2_code 40 = .ok (.iconst 1, 1) := by decide +kernel
theorem od296 : decode method_2_code 41 = .ok (.goto 4, 3) := by decide +kernel
theorem od297 : decode method_2_code 20 = .ok (.iload_n 0, 1) := by decide +kernel
theorem od298 : decode method_2_code 21 = .ok (.bipush 90, 2) := by decide +kernel
theorem od299 : decode method_2_code 23 = .ok (.if_icmp .gt 5, 3) := by decide +kernel
theorem od300 : decode method_2_code 26 = .ok (.iconst 1, 1) := by decide +kernel
theorem od301 : decode method_2_code 27 = .ok (.ireturn, 1) := by decide +kernel
theorem od302 : decode method_2_code 6 = .ok (.iload_n 0, 1) := by decide +kernel
theorem od303 : decode method_2_code 7 = .ok (.bipush 122, 2) := by decide +kernel
theorem od304 : decode method_2_code 9 = .ok (.if_icmp .gt 5, 3) := by decide +kernel
theorem od305 : decode method_2_code 12 = .ok (.iconst 1, 1) := by decide +kernel
theorem od306 : decode method_2_code 13 = .ok (.ireturn, 1) := by decide +kernel
def F_aln (p0 : Int32) : Int32 := (if p0 < (97 : Int32) then (if p0 < (65 : Int32) then (if p0 < (48 : Int32) then (0 : Int32) else (if (57 : Int32) < p0 then (0 : Int32) else (1 : Int32))) else (if (90 : Int32) < p0 then (if p0 < (48 : Int32) then (0 : Int32) else (if (57 : Int32) < p0 then (0 : Int32) else (1 : Int32))) else (1 : Int32))) else (if (122 : Int32) < p0 then (if p0 < (65 : Int32) then (if p0 < (48 : Int32) then (0 : Int32) else (if (57 : Int32) < p0 then (0 : Int32) else (1 : Int32))) else (if (90 : Int32) < p0 then (if p0 < (48 : Int32) then (0 : Int32) else (if (57 : Int32) < p0 then (0 : Int32) else (1 : Int32))) else (1 : Int32))) else (1 : Int32)))
theorem own_ef_aln (m : MethodId) (p0 : Int32) : entryFrame m #[(.int p0)] 1 = mkF m 0 #[vi p0] [] := by first | (simp [entryFrame, mkF, argsToLocals, Value.category]; done) | rfl
def Q_aln (Z : State) (p0 : Int32) (h0 : Heap) (n0 : Nat) (v : Option Value) (h : Heap) (L : List Loc) : Prop := v = some (.int (F_aln p0)) ∧ Fr n0 L ∧ h = h0
theorem rm_aln (l : Launch) (Z : State) (a0' : Array Value) (hw : ∀ d ∈ tables_1, d.before a0' Z = true) (ws : List Jvm.Cond) (p0 : Int32) (h0 : Heap) (n0 : Nat) (Z0 : n0 ≤ h0.size) :
    MF l nm22 method_2_code 1 (some .boolean) ws (⟨0, 0, 0, 0⟩ : Room) #[(.int p0)] Z h0 (Q_aln Z p0 h0 n0) := by
  refine MetFree.of_bodySF (plainFor_of_name own_pn5) hisR ?_
  intro p e s m args below meth c s₁ Bd hml0 hP hK
  obtain ⟨rfl, hZ, hh⟩ := hP
  have hx := Bd.exec
  have hby := Bd.bytes
  have hml : c.maxLocals = 1 := hml0
  have hown : s.vm.findClass "com/example/lead_line/leadline/TermsIsTermPinLaw" = some m.cls := findClass_of_methodNamed Bd.named
  have hnm := (name_of_methodNamed Bd.named Bd.method).1
  have X0 : Stand p l e (⟨0, 0, 0, 0⟩ : Room) s m #[(.int p0)] below meth c s₁ [] 0 0 := Stand.of_body Bd
  have e0 : s₁.heap = h0 := by rw [← hh, Bd.state]; rfl
  have N0 := Fr.nil n0
  have pre0 : PT p e below (s₁.setTop (mkF m 0 #[vi p0] [])) (s₁.setTop (entryFrame m #[(.int p0)] 1)) := fun t k => castTop (own_ef_aln m p0) k
  have pre508 : PT p e below (s₁.setTop (mkF m 3 #[vi p0] [(.int 97), (.int p0)])) (s₁.setTop (entryFrame m #[(.int p0)] 1)) := fun t k => pre0 t (by
    refine XS.iloadN X0.here hx rfl (hb hby od281) rfl ?_
    refine XS.bipush X0.here hx rfl (hb hby od282) ?_
    exact k)
  by_cases hc3_507 : p0 < (97 : Int32)
  · have pre510 : PT p e below (s₁.setTop (mkF m 17 #[vi p0] [(.int 65), (.int p0)])) (s₁.setTop (entryFrame m #[(.int p0)] 1)) := fun t k => pre508 t (by
      refine XS.icmpYes X0.here hx rfl (pc0 := 3) (pc' := 14) rfl (hb hby od283) rfl (tlt hc3_507).1 (by decide) (by decide) ?_
      refine XS.iloadN X0.here hx rfl (hb hby od284) rfl ?_
      refine XS.bipush X0.here hx rfl (hb hby od285) ?_
      exact k)
    by_cases hc17_509 : p0 < (65 : Int32)
    · have pre512 : PT p e below (s₁.setTop (mkF m 31 #[vi p0] [(.int 48), (.int p0)])) (s₁.setTop (entryFrame m #[(.int p0)] 1)) := fun t k => pre510 t (by
        refine XS.icmpYes X0.here hx rfl (pc0 := 17) (pc' := 28) rfl (hb hby od286) rfl (tlt hc17_509).1 (by decide) (by decide) ?_
        refine XS.iloadN X0.here hx rfl (hb hby od287) rfl ?_
        refine XS.bipush X0.here hx rfl (hb hby od288) ?_
        exact k)
      by_cases hc31_511 : p0 < (48 : Int32)
      · obtain ⟨fs, hr, hrun, hended, hW, hsame⟩ := X0.leave (v := some (.int 0)) (fun h => by rw [Bd.returns] at h; cases h)
        refine ⟨_, _, pre512 _ ?_, hrun, hended, _, _, rfl, ?_, ⟨_, rfl⟩, hW, hsame.mono (by decide) (by decide)⟩
        · show Steps p.tables e below (s₁.setTop (mkF m 31 #[vi p0] [(.int 48), (.int p0)])) _
          refine XS.icmpYes X0.here hx rfl (pc0 := 31) (pc' := 44) rfl (hb hby od289) rfl (tlt hc31_511).1 (by decide) (by decide) ?_
          refine XS.iconst X0.here hx rfl (hb hby od290) ?_
          exact retN X0 hx (t := .boolean) Bd.returns (by simp) (hb hby od291) hr
        · show Q_aln Z p0 h0 n0 _ s₁.heap _
          refine ⟨?_, N0, e0⟩
          rw [F_aln, if_pos hc3_507, if_pos hc17_509, if_pos hc31_511]
      · have pre514 : PT p e below (s₁.setTop (mkF m 37 #[vi p0] [(.int 57), (.int p0)])) (s₁.setTop (entryFrame m #[(.int p0)] 1)) := fun t k => pre512 t (by
          refine XS.icmpNo X0.here hx rfl (hb hby od289) rfl (flt hc31_511).1 ?_
          refine XS.iloadN X0.here hx rfl (hb hby od292) rfl ?_
          refine XS.bipush X0.here hx rfl (hb hby od293) ?_
          exact k)
        by_cases hc37_513 : (57 : Int32) < p0
        · obtain ⟨fs, hr, hrun, hended, hW, hsame⟩ := X0.leave (v := some (.int 0)) (fun h => by rw [Bd.returns] at h; cases h)
          refine ⟨_, _, pre514 _ ?_, hrun, hended, _, _, rfl, ?_, ⟨_, rfl⟩, hW, hsame.mono (by decide) (by decide)⟩
          · show Steps p.tables e below (s₁.setTop (mkF m 37 #[vi p0] [(.int 57), (.int p0)])) _
            refine XS.icmpYes X0.here hx rfl (pc0 := 37) (pc' := 44) rfl (hb hby od294) rfl (tlt hc37_513).2.2.1 (by decide) (by decide) ?_
            refine XS.iconst X0.here hx rfl (hb hby od290) ?_
            exact retN X0 hx (t := .boolean) Bd.returns (by simp) (hb hby od291) hr
          · show Q_aln Z p0 h0 n0 _ s₁.heap _
            refine ⟨?_, N0, e0⟩
            rw [F_aln, if_pos hc3_507, if_pos hc17_509, if_neg hc31_511, if_pos hc37_513]
        · obtain ⟨fs, hr, hrun, hended, hW, hsame⟩ := X0.leave (v := some (.int 1)) (fun h => by rw [Bd.returns] at h; cases h)
          refine ⟨_, _, pre514 _ ?_, hrun, hended, _, _, rfl, ?_, ⟨_, rfl⟩, hW, hsame.mono (by decide) (by decide)⟩
          · show Steps p.tables e below (s₁.setTop (mkF m 37 #[vi p0] [(.int 57), (.int p0)])) _
            refine XS.icmpNo X0.here hx rfl (hb hby od294) rfl (flt hc37_513).2.2.1 ?_
            refine XS.iconst X0.here hx rfl (hb hby od295) ?_
            refine XS.goto X0.here hx rfl (pc0 := 41) (pc' := 45) rfl (hb hby od296) (by decide) (by decide) ?_
            exact retN X0 hx (t := .boolean) Bd.returns (by simp) (hb hby od291) hr
          · show Q_aln Z p0 h0 n0 _ s₁.heap _
            refine ⟨?_, N0, e0⟩
            rw [F_aln, if_pos hc3_507, if_pos hc17_509, if_neg hc31_511, if_neg hc37_513]
    · have pre516 : PT p e below (s₁.setTop (mkF m 23 #[vi p0] [(.int 90), (.int p0)])) (s₁.setTop (entryFrame m #[(.int p0)] 1)) := fun t k => pre510 t (by
        refine XS.icmpNo X0.here hx rfl (hb hby od286) rfl (flt hc17_509).1 ?_
        refine XS.iloadN X0.here hx rfl (hb hby od297) rfl ?_
        refine XS.bipush X0.here hx rfl (hb hby od298) ?_
        exact k)
      by_cases hc23_515 : (90 : Int32) < p0
      · have pre518 : PT p e below (s₁.setTop (mkF m 31 #[vi p0] [(.int 48), (.int p0)])) (s₁.setTop (entryFrame m #[(.int p0)] 1)) := fun t k => pre516 t (by
          refine XS.icmpYes X0.here hx rfl (pc0 := 23) (pc' := 28) rfl (hb hby od299) rfl (tlt hc23_515).2.2.1 (by decide) (by decide) ?_
          refine XS.iloadN X0.here hx rfl (hb hby od287) rfl ?_
          refine XS.bipush X0.here hx rfl (hb hby od288) ?_
          exact k)
        by_cases hc31_517 : p0 < (48 : Int32)
        · obtain ⟨fs, hr, hrun, hended, hW, hsame⟩ := X0.leave (v := some (.int 0)) (fun h => by rw [Bd.returns] at h; cases h)
          refine ⟨_, _, pre518 _ ?_, hrun, hended, _, _, rfl, ?_, ⟨_, rfl⟩, hW, hsame.mono (by decide) (by decide)⟩
          · show Steps p.tables e below (s₁.setTop (mkF m 31 #[vi p0] [(.int 48), (.int p0)])) _
            refine XS.icmpYes X0.here hx rfl (pc0 := 31) (pc' := 44) rfl (hb hby od289) rfl (tlt hc31_517).1 (by decide) (by decide) ?_
            refine XS.iconst X0.here hx rfl (hb hby od290) ?_
            exact retN X0 hx (t := .boolean) Bd.returns (by simp) (hb hby od291) hr
          · show Q_aln Z p0 h0 n0 _ s₁.heap _
            refine ⟨?_, N0, e0⟩
            rw [F_aln, if_pos hc3_507, if_neg hc17_509, if_pos hc23_515, if_pos hc31_517]
        · have pre520 : PT p e below (s₁.setTop (mkF m 37 #[vi p0] [(.int 57), (.int p0)])) (s₁.setTop (entryFrame m #[(.int p0)] 1)) := fun t k => pre518 t (by
            refine XS.icmpNo X0.here hx rfl (hb hby od289) rfl (flt hc31_517).1 ?_
            refine XS.iloadN X0.here hx rfl (hb hby od292) rfl ?_
            refine XS.bipush X0.here hx rfl (hb hby od293) ?_
            exact k)
          by_cases hc37_519 : (57 : Int32) < p0
          · obtain ⟨fs, hr, hrun, hended, hW, hsame⟩ := X0.leave (v := some (.int 0)) (fun h => by rw [Bd.returns] at h; cases h)
            refine ⟨_, _, pre520 _ ?_, hrun, hended, _, _, rfl, ?_, ⟨_, rfl⟩, hW, hsame.mono (by decide) (by decide)⟩
            · show Steps p.tables e below (s₁.setTop (mkF m 37 #[vi p0] [(.int 57), (.int p0)])) _
              refine XS.icmpYes X0.here hx rfl (pc0 := 37) (pc' := 44) rfl (hb hby od294) rfl (tlt hc37_519).2.2.1 (by decide) (by decide) ?_
              refine XS.iconst X0.here hx rfl (hb hby od290) ?_
              exact retN X0 hx (t := .boolean) Bd.returns (by simp) (hb hby od291) hr
            · show Q_aln Z p0 h0 n0 _ s₁.heap _
              refine ⟨?_, N0, e0⟩
              rw [F_aln, if_pos hc3_507, if_neg hc17_509, if_pos hc23_515, if_neg hc31_517, if_pos hc37_519]
          · obtain ⟨fs, hr, hrun, hended, hW, hsame⟩ := X0.leave (v := some (.int 1)) (fun h => by rw [Bd.returns] at h; cases h)
            refine ⟨_, _, pre520 _ ?_, hrun, hended, _, _, rfl, ?_, ⟨_, rfl⟩, hW, hsame.mono (by decide) (by decide)⟩
            · show Steps p.tables e below (s₁.setTop (mkF m 37 #[vi p0] [(.int 57), (.int p0)])) _
              refine XS.icmpNo X0.here hx rfl (hb hby od294) rfl (flt hc37_519).2.2.1 ?_
              refine XS.iconst X0.here hx rfl (hb hby od295) ?_
              refine XS.goto X0.here hx rfl (pc0 := 41) (pc' := 45) rfl (hb hby od296) (by decide) (by decide) ?_
              exact retN X0 hx (t := .boolean) Bd.returns (by simp) (hb hby od291) hr
            · show Q_aln Z p0 h0 n0 _ s₁.heap _
              refine ⟨?_, N0, e0⟩
              rw [F_aln, if_pos hc3_507, if_neg hc17_509, if_pos hc23_515, if_neg hc31_517, if_neg hc37_519]
      · obtain ⟨fs, hr, hrun, hended, hW, hsame⟩ := X0.leave (v := some (.int 1)) (fun h => by rw [Bd.returns] at h; cases h)
        refine ⟨_, _, pre516 _ ?_, hrun, hended, _, _, rfl, ?_, ⟨_, rfl⟩, hW, hsame.mono (by decide) (by decide)⟩
        · show Steps p.tables e below (s₁.setTop (mkF m 23 #[vi p0] [(.int 90), (.int p0)])) _
          refine XS.icmpNo X0.here hx rfl (hb hby od299) rfl (flt hc23_515).2.2.1 ?_
          refine XS.iconst X0.here hx rfl (hb hby od300) ?_
          exact retN X0 hx (t := .boolean) Bd.returns (by simp) (hb hby od301) hr
        · show Q_aln Z p0 h0 n0 _ s₁.heap _
          refine ⟨?_, N0, e0⟩
          rw [F_aln, if_pos hc3_507, if_neg hc17_509, if_neg hc23_515]
  · have pre522 : PT p e below (s₁.setTop (mkF m 9 #[vi p0] [(.int 122), (.int p0)])) (s₁.setTop (entryFrame m #[(.int p0)] 1)) := fun t k => pre508 t (by
      refine XS.icmpNo X0.here hx rfl (hb hby od283) rfl (flt hc3_507).1 ?_
      refine XS.iloadN X0.here hx rfl (hb hby od302) rfl ?_
      refine XS.bipush X0.here hx rfl (hb hby od303) ?_
      exact k)
    by_cases hc9_521 : (122 : Int32) < p0
    · have pre524 : PT p e below (s₁.setTop (mkF m 17 #[vi p0] [(.int 65), (.int p0)])) (s₁.setTop (entryFrame m #[(.int p0)] 1)) := fun t k => pre522 t (by
        refine XS.icmpYes X0.here hx rfl (pc0 := 9) (pc' := 14) rfl (hb hby od304) rfl (tlt hc9_521).2.2.1 (by decide) (by decide) ?_
        refine XS.iloadN X0.here hx rfl (hb hby od284) rfl ?_
        refine XS.bipush X0.here hx rfl (hb hby od285) ?_
        exact k)
      by_cases hc17_523 : p0 < (65 : Int32)
      · have pre526 : PT p e below (s₁.setTop (mkF m 31 #[vi p0] [(.int 48), (.int p0)])) (s₁.setTop (entryFrame m #[(.int p0)] 1)) := fun t k => pre524 t (by
          refine XS.icmpYes X0.here hx rfl (pc0 := 17) (pc' := 28) rfl (hb hby od286) rfl (tlt hc17_523).1 (by decide) (by decide) ?_
          refine XS.iloadN X0.here hx rfl (hb hby od287) rfl ?_
          refine XS.bipush X0.here hx rfl (hb hby od288) ?_
          exact k)
        by_cases hc31_525 : p0 < (48 : Int32)
        · obtain ⟨fs, hr, hrun, hended, hW, hsame⟩ := X0.leave (v := some (.int 0)) (fun h => by rw [Bd.returns] at h; cases h)
          refine ⟨_, _, pre526 _ ?_, hrun, hended, _, _, rfl, ?_, ⟨_, rfl⟩, hW, hsame.mono (by decide) (by decide)⟩
          · show Steps p.tables e below (s₁.setTop (mkF m 31 #[vi p0] [(.int 48), (.int p0)])) _
            refine XS.icmpYes X0.here hx rfl (pc0 := 31) (pc' := 44) rfl (hb hby od289) rfl (tlt hc31_525).1 (by decide) (by decide) ?_
            refine XS.iconst X0.here hx rfl (hb hby od290) ?_
            exact retN X0 hx (t := .boolean) Bd.returns (by simp) (hb hby od291) hr
          · show Q_aln Z p0 h0 n0 _ s₁.heap _
            refine ⟨?_, N0, e0⟩
            rw [F_aln, if_neg hc3_507, if_pos hc9_521, if_pos hc17_523, if_pos hc31_525]
        · have pre528 : PT p e below (s₁.setTop (mkF m 37 #[vi p0] [(.int 57), (.int p0)])) (s₁.setTop (entryFrame m #[(.int p0)] 1)) := fun t k => pre526 t (by
            refine XS.icmpNo X0.here hx rfl (hb hby od289) rfl (flt hc31_525).1 ?_
            refine XS.iloadN X0.here hx rfl (hb hby od292) rfl ?_
            refine XS.bipush X0.here hx rfl (hb hby od293) ?_
            exact k)
          by_cases hc37_527 : (57 : Int32) < p0
          · obtain ⟨fs, hr, hrun, hended, hW, hsame⟩ := X0.leave (v := some (.int 0)) (fun h => by rw [Bd.returns] at h; cases h)
            refine ⟨_, _, pre528 _ ?_, hrun, hended, _, _, rfl, ?_, ⟨_, rfl⟩, hW, hsame.mono (by decide) (by decide)⟩
            · show Steps p.tables e below (s₁.setTop (mkF m 37 #[vi p0] [(.int 57), (.int p0)])) _
              refine XS.icmpYes X0.here hx rfl (pc0 := 37) (pc' := 44) rfl (hb hby od294) rfl (tlt hc37_527).2.2.1 (by decide) (by decide) ?_
              refine XS.iconst X0.here hx rfl (hb hby od290) ?_
              exact retN X0 hx (t := .boolean) Bd.returns (by simp) (hb hby od291) hr
            · show Q_aln Z p0 h0 n0 _ s₁.heap _
              refine ⟨?_, N0, e0⟩
              rw [F_aln, if_neg hc3_507, if_pos hc9_521, if_pos hc17_523, if_neg hc31_525, if_pos hc37_527]
          · obtain ⟨fs, hr, hrun, hended, hW, hsame⟩ := X0.leave (v := some (.int 1)) (fun h => by rw [Bd.returns] at h; cases h)
            refine ⟨_, _, pre528 _ ?_, hrun, hended, _, _, rfl, ?_, ⟨_, rfl⟩, hW, hsame.mono (by decide) (by decide)⟩
            · show Steps p.tables e below (s₁.setTop (mkF m 37 #[vi p0] [(.int 57), (.int p0)])) _
              refine XS.icmpNo X0.here hx rfl (hb hby od294) rfl (flt hc37_527).2.2.1 ?_
              refine XS.iconst X0.here hx rfl (hb hby od295) ?_
              refine XS.goto X0.here hx rfl (pc0 := 41) (pc' := 45) rfl (hb hby od296) (by decide) (by decide) ?_
              exact retN X0 hx (t := .boolean) Bd.returns (by simp) (hb hby od291) hr
            · show Q_aln Z p0 h0 n0 _ s₁.heap _
              refine ⟨?_, N0, e0⟩
              rw [F_aln, if_neg hc3_507, if_pos hc9_521, if_pos hc17_523, if_neg hc31_525, if_neg hc37_527]
      · have pre530 : PT p e below (s₁.setTop (mkF m 23 #[vi p0] [(.int 90), (.int p0)])) (s₁.setTop (entryFrame m #[(.int p0)] 1)) := fun t k => pre524 t (by
          refine XS.icmpNo X0.here hx rfl (hb hby od286) rfl (flt hc17_523).1 ?_
          refine XS.iloadN X0.here hx rfl (hb hby od297) rfl ?_
          refine XS.bipush X0.here hx rfl (hb hby od298) ?_
          exact k)
        by_cases hc23_529 : (90 : Int32) < p0
        · have pre532 : PT p e below (s₁.setTop (mkF m 31 #[vi p0] [(.int 48), (.int p0)])) (s₁.setTop (entryFrame m #[(.int p0)] 1)) := fun t k => pre530 t (by
            refine XS.icmpYes X0.here hx rfl (pc0 := 23) (pc' := 28) rfl (hb hby od299) rfl (tlt hc23_529).2.2.1 (by decide) (by decide) ?_
            refine XS.iloadN X0.here hx rfl (hb hby od287) rfl ?_
            refine XS.bipush X0.here hx rfl (hb hby od288) ?_
            exact k)
          by_cases hc31_531 : p0 < (48 : Int32)
          · obtain ⟨fs, hr, hrun, hended, hW, hsame⟩ := X0.leave (v := some (.int 0)) (fun h => by rw [Bd.returns] at h; cases h)
            refine ⟨_, _, pre532 _ ?_, hrun, hended, _, _, rfl, ?_, ⟨_, rfl⟩, hW, hsame.mono (by decide) (by decide)⟩
            · show Steps p.tables e below (s₁.setTop (mkF m 31 #[vi p0] [(.int 48), (.int p0)])) _
              refine XS.icmpYes X0.here hx rfl (pc0 := 31) (pc' := 44) rfl (hb hby od289) rfl (tlt hc31_531).1 (by decide) (by decide) ?_
              refine XS.iconst X0.here hx rfl (hb hby od290) ?_
              exact retN X0 hx (t := .boolean) Bd.returns (by simp) (hb hby od291) hr
            · show Q_aln Z p0 h0 n0 _ s₁.heap _
              refine ⟨?_, N0, e0⟩
              rw [F_aln, if_neg hc3_507, if_pos hc9_521, if_neg hc17_523, if_pos hc23_529, if_pos hc31_531]
          · have pre534 : PT p e below (s₁.setTop (mkF m 37 #[vi p0] [(.int 57), (.int p0)])) (s₁.setTop (entryFrame m #[(.int p0)] 1)) := fun t k => pre532 t (by
              refine XS.icmpNo X0.here hx rfl (hb hby od289) rfl (flt hc31_531).1 ?_
              refine XS.iloadN X0.here hx rfl (hb hby od292) rfl ?_
              refine XS.bipush X0.here hx rfl (hb hby od293) ?_
              exact k)
            by_cases hc37_533 : (57 : Int32) < p0
            · obtain ⟨fs, hr, hrun, hended, hW, hsame⟩ := X0.leave (v := some (.int 0)) (fun h => by rw [Bd.returns] at h; cases h)
              refine ⟨_, _, pre534 _ ?_, hrun, hended, _, _, rfl, ?_, ⟨_, rfl⟩, hW, hsame.mono (by decide) (by decide)⟩
              · show Steps p.tables e below (s₁.setTop (mkF m 37 #[vi p0] [(.int 57), (.int p0)])) _
                refine XS.icmpYes X0.here hx rfl (pc0 := 37) (pc' := 44) rfl (hb hby od294) rfl (tlt hc37_533).2.2.1 (by decide) (by decide) ?_
                refine XS.iconst X0.here hx rfl (hb hby od290) ?_
                exact retN X0 hx (t := .boolean) Bd.returns (by simp) (hb hby od291) hr
              · show Q_aln Z p0 h0 n0 _ s₁.heap _
                refine ⟨?_, N0, e0⟩
                rw [F_aln, if_neg hc3_507, if_pos hc9_521, if_neg hc17_523, if_pos hc23_529, if_neg hc31_531, if_pos hc37_533]
            · obtain ⟨fs, hr, hrun, hended, hW, hsame⟩ := X0.leave (v := some (.int 1)) (fun h => by rw [Bd.returns] at h; cases h)
              refine ⟨_, _, pre534 _ ?_, hrun, hended, _, _, rfl, ?_, ⟨_, rfl⟩, hW, hsame.mono (by decide) (by decide)⟩
              · show Steps p.tables e below (s₁.setTop (mkF m 37 #[vi p0] [(.int 57), (.int p0)])) _
                refine XS.icmpNo X0.here hx rfl (hb hby od294) rfl (flt hc37_533).2.2.1 ?_
                refine XS.iconst X0.here hx rfl (hb hby od295) ?_
                refine XS.goto X0.here hx rfl (pc0 := 41) (pc' := 45) rfl (hb hby od296) (by decide) (by decide) ?_
                exact retN X0 hx (t := .boolean) Bd.returns (by simp) (hb hby od291) hr
              · show Q_aln Z p0 h0 n0 _ s₁.heap _
                refine ⟨?_, N0, e0⟩
                rw [F_aln, if_neg hc3_507, if_pos hc9_521, if_neg hc17_523, if_pos hc23_529, if_neg hc31_531, if_neg hc37_533]
        · obtain ⟨fs, hr, hrun, hended, hW, hsame⟩ := X0.leave (v := some (.int 1)) (fun h => by rw [Bd.returns] at h; cases h)
          refine ⟨_, _, pre530 _ ?_, hrun, hended, _, _, rfl, ?_, ⟨_, rfl⟩, hW, hsame.mono (by decide) (by decide)⟩
          · show Steps p.tables e below (s₁.setTop (mkF m 23 #[vi p0] [(.int 90), (.int p0)])) _
            refine XS.icmpNo X0.here hx rfl (hb hby od299) rfl (flt hc23_529).2.2.1 ?_
            refine XS.iconst X0.here hx rfl (hb hby od300) ?_
            exact retN X0 hx (t := .boolean) Bd.returns (by simp) (hb hby od301) hr
          · show Q_aln Z p0 h0 n0 _ s₁.heap _
            refine ⟨?_, N0, e0⟩
            rw [F_aln, if_neg hc3_507, if_pos hc9_521, if_neg hc17_523, if_neg hc23_529]
    · obtain ⟨fs, hr, hrun, hended, hW, hsame⟩ := X0.leave (v := some (.int 1)) (fun h => by rw [Bd.returns] at h; cases h)
      refine ⟨_, _, pre522 _ ?_, hrun, hended, _, _, rfl, ?_, ⟨_, rfl⟩, hW, hsame.mono (by decide) (by decide)⟩
      · show Steps p.tables e below (s₁.setTop (mkF m 9 #[vi p0] [(.int 122), (.int p0)])) _
        refine XS.icmpNo X0.here hx rfl (hb hby od304) rfl (flt hc9_521).2.2.1 ?_
        refine XS.iconst X0.here hx rfl (hb hby od305) ?_
        exact retN X0 hx (t := .boolean) Bd.returns (by simp) (hb hby od306) hr
      · show Q_aln Z p0 h0 n0 _ s₁.heap _
        refine ⟨?_, N0, e0⟩
        rw [F_aln, if_neg hc3_507, if_neg hc9_521]
theorem own_pn6 : plainName "java/util/Objects" = true := by first | (simp [plainName, overriddenIn]; done) | decide +kernel
theorem od307 : decode jdk_31_method_11_code 0 = .ok (.aload_n 0, 1) := by decide +kernel
theorem od308 : decode jdk_31_method_11_code 1 = .ok (.ifnonnull 12, 3) := by decide +kernel
theorem od309 : decode jdk_31_method_11_code 13 = .ok (.aload_n 0, 1) := by decide +kernel
theorem od310 : decode jdk_31_method_11_code 14 = .ok (.areturn, 1) := by decide +kernel
def F_rnn (a0 : Addr) : Addr := a0
theorem own_ef_rnn (m : MethodId) (a0 : Addr) (a1 : Addr) : entryFrame m #[(.ref a0), (.ref a1)] 2 = mkF m 0 #[vr a0, vr a1] [] := by first | (simp [entryFrame, mkF, argsToLocals, Value.category]; done) | rfl
def Q_rnn (Z : State) (a0 : Addr) (a1 : Addr) (h0 : Heap) (n0 : Nat) (v : Option Value) (h : Heap) (L : List Loc) : Prop := v = some (.ref (F_rnn a0)) ∧ Fr n0 L ∧ h = h0
theorem rm_rnn (l : Launch) (Z : State) (a0' : Array Value) (hw : ∀ d ∈ tables_1, d.before a0' Z = true) (ws : List Jvm.Cond) (a0 : Addr) (a1 : Addr) (h0 : Heap) (n0 : Nat) (Z0 : n0 ≤ h0.size) :
    MF l nm23 jdk_31_method_11_code 2 (some (.object "java/lang/Object")) ws (⟨0, 0, 0, 0⟩ : Room) #[(.ref a0), (.ref a1)] Z h0 (Q_rnn Z a0 a1 h0 n0) := by
  refine MetFree.of_bodySF (plainFor_of_name own_pn6) hisR ?_
  intro p e s m args below meth c s₁ Bd hml0 hP hK
  obtain ⟨rfl, hZ, hh⟩ := hP
  have hx := Bd.exec
  have hby := Bd.bytes
  have hml : c.maxLocals = 2 := hml0
  have hown : s.vm.findClass "java/util/Objects" = some m.cls := findClass_of_methodNamed Bd.named
  have hnm := (name_of_methodNamed Bd.named Bd.method).1
  have X0 : Stand p l e (⟨0, 0, 0, 0⟩ : Room) s m #[(.ref a0), (.ref a1)] below meth c s₁ [] 0 0 := Stand.of_body Bd
  have e0 : s₁.heap = h0 := by rw [← hh, Bd.state]; rfl
  have N0 := Fr.nil n0
  have pre0 : PT p e below (s₁.setTop (mkF m 0 #[vr a0, vr a1] [])) (s₁.setTop (entryFrame m #[(.ref a0), (.ref a1)] 2)) := fun t k => castTop (own_ef_rnn m a0 a1) k
  obtain ⟨fs, hr, hrun, hended, hW, hsame⟩ := X0.leave (v := some (.ref a0)) (fun h => by rw [Bd.returns] at h; cases h)
  refine ⟨_, _, pre0 _ ?_, hrun, hended, _, _, rfl, ?_, ⟨_, rfl⟩, hW, hsame.mono (by decide) (by decide)⟩
  · show Steps p.tables e below (s₁.setTop (mkF m 0 #[vr a0, vr a1] [])) _
    refine XS.aloadN X0.here hx rfl (hb hby od307) rfl rfl ?_
    refine XS.ifnonnullYes X0.here hx rfl (pc0 := 1) (pc' := 13) rfl (hb hby od308) rfl (by decide) (by decide) ?_
    refine XS.aloadN X0.here hx rfl (hb hby od309) rfl rfl ?_
    exact own_retA X0 hx Bd.returns rfl rfl rfl (hb hby od310) hr
  · show Q_rnn Z a0 a1 h0 n0 _ s₁.heap _
    refine ⟨?_, N0, e0⟩
    rw [F_rnn]
theorem own_ofN (n : Nat) (h : n ≤ 4) : (Int32.ofNat n).toInt = n := by
  match n, h with
  | 0, _ => rfl
  | 1, _ => rfl
  | 2, _ => rfl
  | 3, _ => rfl
  | 4, _ => rfl
theorem own_hiC (cs : List Int32) (i : Nat) (h4 : cs.length ≤ 4) (hi : i ≤ 4) (h : Int32.ofNat i < F_lenC cs) : i < cs.length := by
  unfold F_lenC at h
  rw [Int32.lt_iff_toInt_lt, own_ofN _ h4, own_ofN _ hi] at h
  omega
theorem own_n4C (cs : List Int32) (h4 : cs.length ≤ 4) : ¬ (((((0 : Int32) + (1 : Int32)) + (1 : Int32)) + (1 : Int32)) + (1 : Int32) < F_lenC cs) := by
  intro h
  have q := own_hiC cs 4 h4 (by decide) h
  omega
theorem own_chrD (cs : List Int32) (i : Nat) (hi : i < cs.length) : F_chrC cs i hi = cs.getD i 0 := by
  unfold F_chrC
  simp [List.getD_eq_getElem?_getD, hi]
theorem od311 : decode prog_10_method_5_code 0 = .ok (.aload_n 0, 1) := by decide +kernel
theorem od312 : decode prog_10_method_5_code 1 = .ok (.ldc 7, 2) := by decide +kernel
theorem od313 : decode prog_10_method_5_code 3 = .ok (.invokestatic 9, 3) := by decide +kernel
theorem own_pd14 : parseMethodDescriptor "(Ljava/lang/Object;Ljava/lang/String;)Ljava/lang/Object;" = some ⟨[(.object "java/lang/Object"), (.object "java/lang/String")], some (.object "java/lang/Object")⟩ := by decide +kernel
theorem od314 : decode prog_10_method_5_code 6 = .ok (.pop, 1) := by decide +kernel
theorem od315 : decode prog_10_method_5_code 7 = .ok (.aload_n 0, 1) := by decide +kernel
theorem od316 : decode prog_10_method_5_code 8 = .ok (.invokevirtual 87, 3) := by decide +kernel
theorem od317 : decode prog_10_method_5_code 11 = .ok (.ifCond .ne 7, 3) := by decide +kernel
theorem od318 : decode prog_10_method_5_code 14 = .ok (.iconst 1, 1) := by decide +kernel
theorem od319 : decode prog_10_method_5_code 15 = .ok (.goto 4, 3) := by decide +kernel
theorem od320 : decode prog_10_method_5_code 19 = .ok (.istore_n 1, 1) := by decide +kernel
theorem od321 : decode prog_10_method_5_code 20 = .ok (.iconst 0, 1) := by decide +kernel
theorem od322 : decode prog_10_method_5_code 21 = .ok (.istore_n 2, 1) := by decide +kernel
theorem od323 : decode prog_10_method_5_code 22 = .ok (.iload_n 1, 1) := by decide +kernel
theorem od324 : decode prog_10_method_5_code 23 = .ok (.ifCond .eq 44, 3) := by decide +kernel
theorem od325 : decode prog_10_method_5_code 26 = .ok (.iload_n 2, 1) := by decide +kernel
theorem od326 : decode prog_10_method_5_code 27 = .ok (.aload_n 0, 1) := by decide +kernel
theorem od327 : decode prog_10_method_5_code 28 = .ok (.invokevirtual 91, 3) := by decide +kernel
theorem own_pd15 : parseMethodDescriptor "()I" = some ⟨[], some .int⟩ := by decide +kernel
theorem od328 : decode prog_10_method_5_code 31 = .ok (.if_icmp .ge 36, 3) := by decide +kernel
theorem od329 : decode prog_10_method_5_code 34 = .ok (.aload_n 0, 1) := by decide +kernel
theorem od330 : decode prog_10_method_5_code 35 = .ok (.iload_n 2, 1) := by decide +kernel
theorem od331 : decode prog_10_method_5_code 36 = .ok (.invokevirtual 92, 3) := by decide +kernel
theorem own_pd16 : parseMethodDescriptor "(I)C" = some ⟨[.int], some .char⟩ := by decide +kernel
theorem od332 : decode prog_10_method_5_code 39 = .ok (.istore_n 3, 1) := by decide +kernel
theorem od333 : decode prog_10_method_5_code 40 = .ok (.iload_n 3, 1) := by decide +kernel
theorem od334 : decode prog_10_method_5_code 41 = .ok (.sipush 128, 3) := by decide +kernel
theorem od335 : decode prog_10_method_5_code 44 = .ok (.if_icmp .ge 15, 3) := by decide +kernel
theorem od336 : decode prog_10_method_5_code 47 = .ok (.iload_n 3, 1) := by decide +kernel
theorem od337 : decode prog_10_method_5_code 48 = .ok (.i2b, 1) := by decide +kernel
theorem od338 : decode prog_10_method_5_code 49 = .ok (.invokestatic 21, 3) := by decide +kernel
theorem own_pd17 : parseMethodDescriptor "(B)Z" = some ⟨[.byte], some .boolean⟩ := by decide +kernel
theorem od339 : decode prog_10_method_5_code 52 = .ok (.ifCond .eq 7, 3) := by decide +kernel
theorem od340 : decode prog_10_method_5_code 59 = .ok (.iconst 0, 1) := by decide +kernel
theorem od341 : decode prog_10_method_5_code 60 = .ok (.istore_n 1, 1) := by decide +kernel
theorem od342 : decode prog_10_method_5_code 61 = .ok (.iinc 2 1, 3) := by decide +kernel
theorem od343 : decode prog_10_method_5_code 64 = .ok (.goto (-42), 3) := by decide +kernel
theorem od344 : decode prog_10_method_5_code 67 = .ok (.iload_n 1, 1) := by decide +kernel
theorem od345 : decode prog_10_method_5_code 68 = .ok (.ireturn, 1) := by decide +kernel
theorem od346 : decode prog_10_method_5_code 55 = .ok (.iconst 1, 1) := by decide +kernel
theorem od347 : decode prog_10_method_5_code 56 = .ok (.goto 4, 3) := by decide +kernel
theorem od348 : decode prog_10_method_5_code 18 = .ok (.iconst 0, 1) := by decide +kernel
def F_istL (cs : List Int32) : Int32 := (if (F_empC cs) = (0 : Int32) then (if (0 : Int32) < (F_lenC cs) then (if (cs.getD 0 0) < (128 : Int32) then (if (F_tb ((cs.getD 0 0).toInt8.toInt32)) = (0 : Int32) then (0 : Int32) else (if ((0 : Int32) + (1 : Int32)) < (F_lenC cs) then (if (cs.getD 1 0) < (128 : Int32) then (if (F_tb ((cs.getD 1 0).toInt8.toInt32)) = (0 : Int32) then (0 : Int32) else (if (((0 : Int32) + (1 : Int32)) + (1 : Int32)) < (F_lenC cs) then (if (cs.getD 2 0) < (128 : Int32) then (if (F_tb ((cs.getD 2 0).toInt8.toInt32)) = (0 : Int32) then (0 : Int32) else (if ((((0 : Int32) + (1 : Int32)) + (1 : Int32)) + (1 : Int32)) < (F_lenC cs) then (if (cs.getD 3 0) < (128 : Int32) then (if (F_tb ((cs.getD 3 0).toInt8.toInt32)) = (0 : Int32) then (0 : Int32) else (1 : Int32)) else (0 : Int32)) else (1 : Int32))) else (0 : Int32)) else (1 : Int32))) else (0 : Int32)) else (1 : Int32))) else (0 : Int32)) else (1 : Int32)) else (0 : Int32))
theorem own_ef_istL (m : MethodId) (a0 : Addr) : entryFrame m #[(.ref a0)] 4 = mkF m 0 #[vr a0, .unset, .unset, .unset] [] := by first | (simp [entryFrame, mkF, argsToLocals, Value.category]; done) | rfl
def Q_istL (Z : State) (a0 : Addr) (cs : List Int32) (kc : Int32) (fm : Value) (h0 : Heap) (n0 : Nat) (v : Option Value) (h : Heap) (L : List Loc) : Prop := v = some (.int (F_istL cs)) ∧ Fr n0 L ∧ Ext h0 h
theorem rm_istL (l : Launch) (Z : State) (a0' : Array Value) (hw : ∀ d ∈ tables_1, d.before a0' Z = true) (ws : List Jvm.Cond) (a0 : Addr) (cs : List Int32) (kc : Int32) (fm : Value) (h0 : Heap) (n0 : Nat) (Z0 : n0 ≤ h0.size) (HS : CS Z h0 a0 cs) (hl4 : cs.length ≤ 4) (S_cs : Sta Z h0 "java/lang/String" "COMPACT_STRINGS" "Z" (.int kc)) (hkc : ¬ (kc = (0 : Int32))) (S_fm : Sta Z h0 "jdk/internal/util/Preconditions" "SIOOBE_FORMATTER" "Ljava/util/function/BiFunction;" fm) (hfm : fm.isRef = true) (S_ad : Sta Z h0 "java/lang/StringUTF16" "$assertionsDisabled" "Z" (.int 1)) (S_hi : Sta Z h0 "java/lang/StringUTF16" "HI_BYTE_SHIFT" "I" (.int 0)) (S_lo : Sta Z h0 "java/lang/StringUTF16" "LO_BYTE_SHIFT" "I" (.int 8)) :
    MetFree l nm24 (head1 (Jvm.Cond.code nm24 prog_10_method_5_code 4 (some .boolean) :: ws) (⟨5, 2, 20, 66⟩ : Room)) (fun a U => a = #[(.ref a0)] ∧ Z.Warmed39 U.vm ∧ U.heap = h0 ∧ CHv Z own_EL U.vm h0 ∧ ∀ x ∈ ([] : List Addr), Safe Z own_EL U.vm h0 x) (fun _ _ _ _ _ => True) (fun _ U o U' => ∃ v L, o = .returned v ∧ Q_istL Z a0 cs kc fm h0 n0 v U'.heap L ∧ CHr Z own_EL U.vm U.heap U'.vm U'.heap ∧ ReturnedEndW U o U' L (⟨5, 2, 20, 66⟩ : Room).cells (⟨5, 2, 20, 66⟩ : Room).slots) := by
  refine MetFree.of_bodySF (plainFor_of_name own_pn4) hisR ?_
  intro p e s m args below meth c s₁ Bd hml0 hP hK
  obtain ⟨rfl, hZ, hh, hCH, hSf⟩ := hP
  have hx := Bd.exec
  have hby := Bd.bytes
  have hml : c.maxLocals = 4 := hml0
  have hown : s.vm.findClass "com/example/lead_line/leadline/Terms" = some m.cls := findClass_of_methodNamed Bd.named
  have hnm := (name_of_methodNamed Bd.named Bd.method).1
  have X0 : Stand p l e (⟨5, 2, 20, 66⟩ : Room) s m #[(.ref a0)] below meth c s₁ [] 0 0 := Stand.of_body Bd
  have e0 : s₁.heap = h0 := by rw [← hh, Bd.state]; rfl
  have N0 := Fr.nil n0
  have pre0 : PT p e below (s₁.setTop (mkF m 0 #[vr a0, .unset, .unset, .unset] [])) (s₁.setTop (entryFrame m #[(.ref a0)] 4)) := fun t k => castTop (own_ef_istL m a0) k
  have CH0 : CHr Z own_EL s.vm h0 s.vm h0 := CHr.refl hCH
  have hEW := own_EW hw
  have hS0 : s.Since s.vm 0 := (State.WarmedH.refl s).since 0
  have hk0 : 0 ≤ h0.size := Nat.zero_le _
  have pre535 : PT p e below (s₁.setTop (mkF m 1 #[vr a0, .unset, .unset, .unset] [(.ref a0)])) (s₁.setTop (entryFrame m #[(.ref a0)] 4)) := fun t k => pre0 t (by
    refine XS.aloadN X0.here hx rfl (hb hby od311) rfl rfl ?_
    exact k)
  have wS536 : ∀ a ∈ Bundle.stringAtoms, a.before a0' Z = true := own_strAtoms (ow hw 5 rfl) (ow hw 4 rfl) (ow hw 17 rfl) (ow hw 18 rfl) (ow hw 19 rfl) (ow hw 20 rfl) (ow hw 21 rfl)
  obtain ⟨s537, T537, h537, k537, bv537, kv537, X537, e537, E537, hS537, hk537, hZ, hown, Es537, Cs537, Vs537, As537, ls537, lb537, hC537, -, hne537, st537⟩ := ldcCH (s := s) (vm0 := s.vm) X0 hx hZ hown (ow hw 28 rfl) wS536 e0 hS0 hk0 hEW (List.mem_of_getElem? (i := 0) rfl) CH0.1 (vs := [(.int 116), (.int 101), (.int 120), (.int 116)]) (z := 4) ⟨by decide, by decide⟩ (by decide) rfl (g := (mkF m 1 #[vr a0, .unset, .unset, .unset] [(.ref a0)])) rfl (hb hby od312) (n := 16) (by decide) (by decide) (by decide) (by decide)
  have CHn537 := CH0.trans hC537
  have EX537 : Ext h0 h537 := E537
  have SZ537 : h0.size ≤ h537.size := EX537.1
  have Z537 : n0 ≤ h537.size := Nat.le_trans Z0 SZ537
  obtain ⟨_, _, ⟨T538, L538, k538, n538⟩, -, X538, ⟨Lc538, hQ538, l538, y538, z538⟩, st538⟩ := Jvm.LawKit.callS X537 hx (y := nm23) hown (mvT hZ (ow hw 29 rfl)) (mvT hZ (ow hw 30 rfl)) (mvT hZ (ow hw 31 rfl)) (mvT hZ (ow hw 32 rfl)) (by decide) (backOf (W := 0) (rm_rnn l Z a0' hw [] a0 s537 h537 n0 Z537) hZ (ow hw 32 rfl) (ow hw 31 rfl) (by decide) (by decide)) (g := (mkF m 3 #[vr a0, .unset, .unset, .unset] [(.ref s537), (.ref a0)])) rfl (by rw [hml]; rfl) (argsL := [(.ref a0), (.ref s537)]) (rest := []) (lenOf own_pd14 rfl) rfl (by show 2 * 0 + _ ≤ _; exact Nat.le_of_eq rfl) (hb hby od313) (fun _ _ => ⟨rfl, e537, (by decide : 2 + 0 ≤ _), (by decide : 20 + 0 ≤ _)⟩)
  dsimp only [Pt.U, Pt.locs, Pt.cells, Pt.slots] at X538 l538 y538 z538 st538 hQ538
  subst l538 y538 z538
  obtain ⟨rfl, N538q, e538⟩ := hQ538
  have N538 := Fr.app N0 N538q
  have fx540 := (HS.ext E537)
  have fx541 := (HS.1.ext E537)
  obtain ⟨cq539, kq539, q539a, q539b, q539c⟩ := isOf hZ e538 fx541
  obtain ⟨_, _, ⟨T539, L539, k539, n539⟩, -, X539, ⟨Lc539, hQ539, l539, y539, z539⟩, st539⟩ := X538.virtualBack hx (y := nm11) (z := nm11) hown (mvT hZ (ow hw 33 rfl)) (mvT hZ (ow hw 34 rfl)) (notFace_of_selects (args := #[]) (mvT hZ (ow hw 36 rfl))) (mvT hZ (ow hw 36 rfl)) (mvT hZ (ow hw 35 rfl)) (by decide) (backOf (W := 0) (rm_empC l Z a0' hw [] a0 cs h537 n0 Z537 fx540 hl4) hZ (ow hw 37 rfl) (ow hw 5 rfl) (by decide) (by decide)) q539a q539c (g := (mkF m 8 #[vr a0, .unset, .unset, .unset] [(.ref a0)])) rfl (by rw [hml]; rfl) (Steps.refl _) (argsL := []) (rest := []) (lenOf own_pd5 rfl) rfl (by show 2 * 0 + _ ≤ _; exact Nat.le_of_eq rfl) (hb hby od316) (fun _ _ => ⟨rfl, e538, (by decide : 2 + 0 ≤ _), (by decide : 20 + 0 ≤ _)⟩)
  dsimp only [Pt.U, Pt.locs, Pt.cells, Pt.slots] at X539 l539 y539 z539 st539 hQ539
  subst l539 y539 z539
  obtain ⟨rfl, N539q, e539⟩ := hQ539
  have N539 := Fr.app N538 N539q
  have pre543 : PT p e below (T539.setTop (mkF m 11 #[vr a0, .unset, .unset, .unset] [(.int (F_empC cs))])) (s₁.setTop (entryFrame m #[(.ref a0)] 4)) := fun t k => pre535 t (by
    refine st537 _ ?_
    refine st538 _ ?_
    refine XS.pop X538.here hx rfl (hb hby od314) rfl rfl ?_
    refine XS.aloadN X538.here hx rfl (hb hby od315) rfl rfl ?_
    refine st539.trans ?_
    exact k)
  by_cases hc11_542 : (F_empC cs) = (0 : Int32)
  · obtain ⟨cq544, kq544, q544a, q544b, q544c⟩ := isOf hZ e539 fx541
    obtain ⟨_, _, ⟨T544, L544, k544, n544⟩, -, X544, ⟨Lc544, hQ544, l544, y544, z544⟩, st544⟩ := X539.virtualBack hx (y := nm10) (z := nm10) hown (mvT hZ (ow hw 53 rfl)) (mvT hZ (ow hw 54 rfl)) (notFace_of_selects (args := #[]) (mvT hZ (ow hw 56 rfl))) (mvT hZ (ow hw 56 rfl)) (mvT hZ (ow hw 55 rfl)) (by decide) (backOf (W := 1) (rm_lenC l Z a0' hw [] a0 cs kc h537 n0 Z537 fx540 hl4 (S_cs.ext EX537) hkc) hZ (ow hw 57 rfl) (ow hw 5 rfl) (by decide) (by decide)) q544a q544c (g := (mkF m 28 #[vr a0, vi 1, vi 0, .unset] [(.ref a0), (.int 0)])) rfl (by rw [hml]; rfl) (Steps.refl _) (argsL := []) (rest := [(.int 0)]) (lenOf own_pd15 rfl) rfl (by show 2 * 0 + _ ≤ _; exact Nat.le_of_eq rfl) (hb hby od327) (fun _ _ => ⟨rfl, e539, (by decide : 2 + 0 ≤ _), (by decide : 20 + 0 ≤ _)⟩)
    dsimp only [Pt.U, Pt.locs, Pt.cells, Pt.slots] at X544 l544 y544 z544 st544 hQ544
    subst l544 y544 z544
    obtain ⟨rfl, N544q, e544⟩ := hQ544
    have N544 := Fr.app N539 N544q
    have pre546 : PT p e below (T544.setTop (mkF m 31 #[vr a0, vi 1, vi 0, .unset] [(.int (F_lenC cs)), (.int 0)])) (s₁.setTop (entryFrame m #[(.ref a0)] 4)) := fun t k => pre543 t (by
      refine XS.ifNo X539.here hx rfl (hb hby od317) rfl ((if0 _ _).trans (teq hc11_542).2) ?_
      refine XS.iconst X539.here hx rfl (hb hby od318) ?_
      refine XS.goto X539.here hx rfl (pc0 := 15) (pc' := 19) rfl (hb hby od319) (by decide) (by decide) ?_
      refine XS.istoreN X539.here hx rfl (hb hby od320) rfl (l' := #[vr a0, vi 1, .unset, .unset]) rfl ?_
      refine XS.iconst X539.here hx rfl (hb hby od321) ?_
      refine XS.istoreN X539.here hx rfl (hb hby od322) rfl (l' := #[vr a0, vi 1, vi 0, .unset]) rfl ?_
      refine XS.iloadN X539.here hx rfl (hb hby od323) rfl ?_
      refine XS.ifNo X539.here hx rfl (hb hby od324) rfl ((if0 _ _).trans (feq (by decide : ¬ ((1 : Int32) = (0 : Int32)))).1) ?_
      refine XS.iloadN X539.here hx rfl (hb hby od325) rfl ?_
      refine XS.aloadN X539.here hx rfl (hb hby od326) rfl rfl ?_
      refine st544.trans ?_
      exact k)
    by_cases hc31_545 : (0 : Int32) < (F_lenC cs)
    · obtain ⟨cq547, kq547, q547a, q547b, q547c⟩ := isOf hZ e544 fx541
      obtain ⟨_, _, ⟨T547, L547, k547, n547⟩, -, X547, ⟨Lc547, hQ547, l547, y547, z547⟩, st547⟩ := X544.virtualBack hx (y := nm9) (z := nm9) hown (mvT hZ (ow hw 63 rfl)) (mvT hZ (ow hw 64 rfl)) (notFace_of_selects (args := #[]) (mvT hZ (ow hw 66 rfl))) (mvT hZ (ow hw 66 rfl)) (mvT hZ (ow hw 65 rfl)) (by decide) (backOf (W := 0) (rm_chrC l Z a0' hw [] a0 cs 0 (own_hiC cs 0 hl4 (by decide) hc31_545) kc fm h537 n0 Z537 fx540 hl4 (S_cs.ext EX537) hkc (S_fm.ext EX537) hfm (S_ad.ext EX537) (S_hi.ext EX537) (S_lo.ext EX537)) hZ (ow hw 67 rfl) (ow hw 5 rfl) (by decide) (by decide)) q547a q547c (g := (mkF m 36 #[vr a0, vi 1, vi 0, .unset] [(.int 0), (.ref a0)])) rfl (by rw [hml]; rfl) (Steps.refl _) (argsL := [(.int 0)]) (rest := []) (lenOf own_pd16 rfl) rfl (by show 2 * 0 + _ ≤ _; exact Nat.le_of_eq rfl) (hb hby od331) (fun _ _ => ⟨rfl, e544, (by decide : 2 + 0 ≤ _), (by decide : 20 + 0 ≤ _)⟩)
      dsimp only [Pt.U, Pt.locs, Pt.cells, Pt.slots] at X547 l547 y547 z547 st547 hQ547
      subst l547 y547 z547
      obtain ⟨rfl, N547q, e547⟩ := hQ547
      have N547 := Fr.app N544 N547q
      have q547 : (F_chrC cs 0 (own_hiC cs 0 hl4 (by decide) hc31_545)) = (cs.getD 0 0) := own_chrD _ _ _
      rw [q547] at st547
      have pre549 : PT p e below (T547.setTop (mkF m 44 #[vr a0, vi 1, vi 0, vi (cs.getD 0 0)] [(.int 128), (.int (cs.getD 0 0))])) (s₁.setTop (entryFrame m #[(.ref a0)] 4)) := fun t k => pre546 t (by
        refine XS.icmpNo X544.here hx rfl (hb hby od328) rfl (tlt hc31_545).2.1 ?_
        refine XS.aloadN X544.here hx rfl (hb hby od329) rfl rfl ?_
        refine XS.iloadN X544.here hx rfl (hb hby od330) rfl ?_
        refine st547.trans ?_
        refine XS.istoreN X547.here hx rfl (hb hby od332) rfl (l' := #[vr a0, vi 1, vi 0, vi (cs.getD 0 0)]) rfl ?_
        refine XS.iloadN X547.here hx rfl (hb hby od333) rfl ?_
        refine XS.sipush X547.here hx rfl (hb hby od334) ?_
        exact k)
      by_cases hc44_548 : (cs.getD 0 0) < (128 : Int32)
      · obtain ⟨_, _, ⟨T550, L550, k550, n550⟩, -, X550, ⟨Lc550, hQ550, l550, y550, z550⟩, st550⟩ := Jvm.LawKit.callS X547 hx (y := nm21) hown (mvT hZ (ow hw 85 rfl)) (mvT hZ (ow hw 86 rfl)) (mvT hZ (ow hw 26 rfl)) (mvT hZ (ow hw 87 rfl)) (by decide) (backOf (W := 0) (rm_tb l Z a0' hw [] ((cs.getD 0 0).toInt8.toInt32) h537 n0 Z537) hZ (ow hw 87 rfl) (ow hw 26 rfl) (by decide) (by decide)) (g := (mkF m 49 #[vr a0, vi 1, vi 0, vi (cs.getD 0 0)] [(.int ((cs.getD 0 0).toInt8.toInt32))])) rfl (by rw [hml]; rfl) (argsL := [(.int ((cs.getD 0 0).toInt8.toInt32))]) (rest := []) (lenOf own_pd17 rfl) rfl (by show 2 * 0 + _ ≤ _; exact Nat.le_of_eq rfl) (hb hby od338) (fun _ _ => ⟨rfl, e547, (by decide : 2 + 0 ≤ _), (by decide : 20 + 0 ≤ _)⟩)
        dsimp only [Pt.U, Pt.locs, Pt.cells, Pt.slots] at X550 l550 y550 z550 st550 hQ550
        subst l550 y550 z550
        obtain ⟨rfl, N550q, e550⟩ := hQ550
        have N550 := Fr.app N547 N550q
        have pre552 : PT p e below (T550.setTop (mkF m 52 #[vr a0, vi 1, vi 0, vi (cs.getD 0 0)] [(.int (F_tb ((cs.getD 0 0).toInt8.toInt32)))])) (s₁.setTop (entryFrame m #[(.ref a0)] 4)) := fun t k => pre549 t (by
          refine XS.icmpNo X547.here hx rfl (hb hby od335) rfl (tlt hc44_548).2.1 ?_
          refine XS.iloadN X547.here hx rfl (hb hby od336) rfl ?_
          refine XS.i2b X547.here hx rfl (hb hby od337) rfl ?_
          refine st550 _ ?_
          exact k)
        by_cases hc52_551 : (F_tb ((cs.getD 0 0).toInt8.toInt32)) = (0 : Int32)
        · obtain ⟨fs, hr, hrun, hended, hE⟩ := X550.leaveW hS537 (by rw [e550]; exact hk537) (v := some (.int 0)) (fun h => by rw [Bd.returns] at h; cases h)
          refine ⟨_, _, pre552 _ ?_, hrun, hended, _, _, rfl, ?_, ?_, own_wmono hE (by decide) (by decide)⟩
          · show Steps p.tables e below (T550.setTop (mkF m 52 #[vr a0, vi 1, vi 0, vi (cs.getD 0 0)] [(.int (F_tb ((cs.getD 0 0).toInt8.toInt32)))])) _
            refine XS.ifYes X550.here hx rfl (pc0 := 52) (pc' := 59) rfl (hb hby od339) rfl ((if0 _ _).trans (teq hc52_551).1) (by decide) (by decide) ?_
            refine XS.iconst X550.here hx rfl (hb hby od340) ?_
            refine XS.istoreN X550.here hx rfl (hb hby od341) rfl (l' := #[vr a0, vi 0, vi 0, vi (cs.getD 0 0)]) rfl ?_
            refine XS.iinc X550.here hx rfl (hb hby od342) rfl (l' := #[vr a0, vi 0, vi ((0 : Int32) + (1 : Int32)), vi (cs.getD 0 0)]) rfl ?_
            refine XS.goto X550.here hx rfl (pc0 := 64) (pc' := 22) rfl (hb hby od343) (by decide) (by decide) ?_
            refine XS.iloadN X550.here hx rfl (hb hby od323) rfl ?_
            refine XS.ifYes X550.here hx rfl (pc0 := 23) (pc' := 67) rfl (hb hby od324) rfl ((if0 _ _).trans (teq (by decide : (0 : Int32) = (0 : Int32))).1) (by decide) (by decide) ?_
            refine XS.iloadN X550.here hx rfl (hb hby od344) rfl ?_
            exact retN X550 hx (t := .boolean) Bd.returns (by simp) (hb hby od345) hr
          · show Q_istL Z a0 cs kc fm h0 n0 _ T550.heap _
            rw [e550]
            refine ⟨?_, N550, EX537⟩
            rw [F_istL, if_pos hc11_542, if_pos hc31_545, if_pos hc44_548, if_pos hc52_551]
          · show CHr Z own_EL s.vm s.heap T550.vm T550.heap
            rw [hh, e550]
            exact CHn537.trans (CHv.at (s := s) (vm0 := T537.vm) X550 hZ hEW CHn537.1)
        · obtain ⟨cq553, kq553, q553a, q553b, q553c⟩ := isOf hZ e550 fx541
          obtain ⟨_, _, ⟨T553, L553, k553, n553⟩, -, X553, ⟨Lc553, hQ553, l553, y553, z553⟩, st553⟩ := X550.virtualBack hx (y := nm10) (z := nm10) hown (mvT hZ (ow hw 53 rfl)) (mvT hZ (ow hw 54 rfl)) (notFace_of_selects (args := #[]) (mvT hZ (ow hw 56 rfl))) (mvT hZ (ow hw 56 rfl)) (mvT hZ (ow hw 55 rfl)) (by decide) (backOf (W := 1) (rm_lenC l Z a0' hw [] a0 cs kc h537 n0 Z537 fx540 hl4 (S_cs.ext EX537) hkc) hZ (ow hw 57 rfl) (ow hw 5 rfl) (by decide) (by decide)) q553a q553c (g := (mkF m 28 #[vr a0, vi 1, vi ((0 : Int32) + (1 : Int32)), vi (cs.getD 0 0)] [(.ref a0), (.int ((0 : Int32) + (1 : Int32)))])) rfl (by rw [hml]; rfl) (Steps.refl _) (argsL := []) (rest := [(.int ((0 : Int32) + (1 : Int32)))]) (lenOf own_pd15 rfl) rfl (by show 2 * 0 + _ ≤ _; exact Nat.le_of_eq rfl) (hb hby od327) (fun _ _ => ⟨rfl, e550, (by decide : 2 + 0 ≤ _), (by decide : 20 + 0 ≤ _)⟩)
          dsimp only [Pt.U, Pt.locs, Pt.cells, Pt.slots] at X553 l553 y553 z553 st553 hQ553
          subst l553 y553 z553
          obtain ⟨rfl, N553q, e553⟩ := hQ553
          have N553 := Fr.app N550 N553q
          have pre555 : PT p e below (T553.setTop (mkF m 31 #[vr a0, vi 1, vi ((0 : Int32) + (1 : Int32)), vi (cs.getD 0 0)] [(.int (F_lenC cs)), (.int ((0 : Int32) + (1 : Int32)))])) (s₁.setTop (entryFrame m #[(.ref a0)] 4)) := fun t k => pre552 t (by
            refine XS.ifNo X550.here hx rfl (hb hby od339) rfl ((if0 _ _).trans (feq hc52_551).1) ?_
            refine XS.iconst X550.here hx rfl (hb hby od346) ?_
            refine XS.goto X550.here hx rfl (pc0 := 56) (pc' := 60) rfl (hb hby od347) (by decide) (by decide) ?_
            refine XS.istoreN X550.here hx rfl (hb hby od341) rfl (l' := #[vr a0, vi 1, vi 0, vi (cs.getD 0 0)]) rfl ?_
            refine XS.iinc X550.here hx rfl (hb hby od342) rfl (l' := #[vr a0, vi 1, vi ((0 : Int32) + (1 : Int32)), vi (cs.getD 0 0)]) rfl ?_
            refine XS.goto X550.here hx rfl (pc0 := 64) (pc' := 22) rfl (hb hby od343) (by decide) (by decide) ?_
            refine XS.iloadN X550.here hx rfl (hb hby od323) rfl ?_
            refine XS.ifNo X550.here hx rfl (hb hby od324) rfl ((if0 _ _).trans (feq (by decide : ¬ ((1 : Int32) = (0 : Int32)))).1) ?_
            refine XS.iloadN X550.here hx rfl (hb hby od325) rfl ?_
            refine XS.aloadN X550.here hx rfl (hb hby od326) rfl rfl ?_
            refine st553.trans ?_
            exact k)
          by_cases hc31_554 : ((0 : Int32) + (1 : Int32)) < (F_lenC cs)
          · obtain ⟨cq556, kq556, q556a, q556b, q556c⟩ := isOf hZ e553 fx541
            obtain ⟨_, _, ⟨T556, L556, k556, n556⟩, -, X556, ⟨Lc556, hQ556, l556, y556, z556⟩, st556⟩ := X553.virtualBack hx (y := nm9) (z := nm9) hown (mvT hZ (ow hw 63 rfl)) (mvT hZ (ow hw 64 rfl)) (notFace_of_selects (args := #[]) (mvT hZ (ow hw 66 rfl))) (mvT hZ (ow hw 66 rfl)) (mvT hZ (ow hw 65 rfl)) (by decide) (backOf (W := 0) (rm_chrC l Z a0' hw [] a0 cs 1 (own_hiC cs 1 hl4 (by decide) hc31_554) kc fm h537 n0 Z537 fx540 hl4 (S_cs.ext EX537) hkc (S_fm.ext EX537) hfm (S_ad.ext EX537) (S_hi.ext EX537) (S_lo.ext EX537)) hZ (ow hw 67 rfl) (ow hw 5 rfl) (by decide) (by decide)) q556a q556c (g := (mkF m 36 #[vr a0, vi 1, vi ((0 : Int32) + (1 : Int32)), vi (cs.getD 0 0)] [(.int ((0 : Int32) + (1 : Int32))), (.ref a0)])) rfl (by rw [hml]; rfl) (Steps.refl _) (argsL := [(.int ((0 : Int32) + (1 : Int32)))]) (rest := []) (lenOf own_pd16 rfl) rfl (by show 2 * 0 + _ ≤ _; exact Nat.le_of_eq rfl) (hb hby od331) (fun _ _ => ⟨rfl, e553, (by decide : 2 + 0 ≤ _), (by decide : 20 + 0 ≤ _)⟩)
            dsimp only [Pt.U, Pt.locs, Pt.cells, Pt.slots] at X556 l556 y556 z556 st556 hQ556
            subst l556 y556 z556
            obtain ⟨rfl, N556q, e556⟩ := hQ556
            have N556 := Fr.app N553 N556q
            have q556 : (F_chrC cs 1 (own_hiC cs 1 hl4 (by decide) hc31_554)) = (cs.getD 1 0) := own_chrD _ _ _
            rw [q556] at st556
            have pre558 : PT p e below (T556.setTop (mkF m 44 #[vr a0, vi 1, vi ((0 : Int32) + (1 : Int32)), vi (cs.getD 1 0)] [(.int 128), (.int (cs.getD 1 0))])) (s₁.setTop (entryFrame m #[(.ref a0)] 4)) := fun t k => pre555 t (by
              refine XS.icmpNo X553.here hx rfl (hb hby od328) rfl (tlt hc31_554).2.1 ?_
              refine XS.aloadN X553.here hx rfl (hb hby od329) rfl rfl ?_
              refine XS.iloadN X553.here hx rfl (hb hby od330) rfl ?_
              refine st556.trans ?_
              refine XS.istoreN X556.here hx rfl (hb hby od332) rfl (l' := #[vr a0, vi 1, vi ((0 : Int32) + (1 : Int32)), vi (cs.getD 1 0)]) rfl ?_
              refine XS.iloadN X556.here hx rfl (hb hby od333) rfl ?_
              refine XS.sipush X556.here hx rfl (hb hby od334) ?_
              exact k)
            by_cases hc44_557 : (cs.getD 1 0) < (128 : Int32)
            · obtain ⟨_, _, ⟨T559, L559, k559, n559⟩, -, X559, ⟨Lc559, hQ559, l559, y559, z559⟩, st559⟩ := Jvm.LawKit.callS X556 hx (y := nm21) hown (mvT hZ (ow hw 85 rfl)) (mvT hZ (ow hw 86 rfl)) (mvT hZ (ow hw 26 rfl)) (mvT hZ (ow hw 87 rfl)) (by decide) (backOf (W := 0) (rm_tb l Z a0' hw [] ((cs.getD 1 0).toInt8.toInt32) h537 n0 Z537) hZ (ow hw 87 rfl) (ow hw 26 rfl) (by decide) (by decide)) (g := (mkF m 49 #[vr a0, vi 1, vi ((0 : Int32) + (1 : Int32)), vi (cs.getD 1 0)] [(.int ((cs.getD 1 0).toInt8.toInt32))])) rfl (by rw [hml]; rfl) (argsL := [(.int ((cs.getD 1 0).toInt8.toInt32))]) (rest := []) (lenOf own_pd17 rfl) rfl (by show 2 * 0 + _ ≤ _; exact Nat.le_of_eq rfl) (hb hby od338) (fun _ _ => ⟨rfl, e556, (by decide : 2 + 0 ≤ _), (by decide : 20 + 0 ≤ _)⟩)
              dsimp only [Pt.U, Pt.locs, Pt.cells, Pt.slots] at X559 l559 y559 z559 st559 hQ559
              subst l559 y559 z559
              obtain ⟨rfl, N559q, e559⟩ := hQ559
              have N559 := Fr.app N556 N559q
              have pre561 : PT p e below (T559.setTop (mkF m 52 #[vr a0, vi 1, vi ((0 : Int32) + (1 : Int32)), vi (cs.getD 1 0)] [(.int (F_tb ((cs.getD 1 0).toInt8.toInt32)))])) (s₁.setTop (entryFrame m #[(.ref a0)] 4)) := fun t k => pre558 t (by
                refine XS.icmpNo X556.here hx rfl (hb hby od335) rfl (tlt hc44_557).2.1 ?_
                refine XS.iloadN X556.here hx rfl (hb hby od336) rfl ?_
                refine XS.i2b X556.here hx rfl (hb hby od337) rfl ?_
                refine st559 _ ?_
                exact k)
              by_cases hc52_560 : (F_tb ((cs.getD 1 0).toInt8.toInt32)) = (0 : Int32)
              · obtain ⟨fs, hr, hrun, hended, hE⟩ := X559.leaveW hS537 (by rw [e559]; exact hk537) (v := some (.int 0)) (fun h => by rw [Bd.returns] at h; cases h)
                refine ⟨_, _, pre561 _ ?_, hrun, hended, _, _, rfl, ?_, ?_, own_wmono hE (by decide) (by decide)⟩
                · show Steps p.tables e below (T559.setTop (mkF m 52 #[vr a0, vi 1, vi ((0 : Int32) + (1 : Int32)), vi (cs.getD 1 0)] [(.int (F_tb ((cs.getD 1 0).toInt8.toInt32)))])) _
                  refine XS.ifYes X559.here hx rfl (pc0 := 52) (pc' := 59) rfl (hb hby od339) rfl ((if0 _ _).trans (teq hc52_560).1) (by decide) (by decide) ?_
                  refine XS.iconst X559.here hx rfl (hb hby od340) ?_
                  refine XS.istoreN X559.here hx rfl (hb hby od341) rfl (l' := #[vr a0, vi 0, vi ((0 : Int32) + (1 : Int32)), vi (cs.getD 1 0)]) rfl ?_
                  refine XS.iinc X559.here hx rfl (hb hby od342) rfl (l' := #[vr a0, vi 0, vi (((0 : Int32) + (1 : Int32)) + (1 : Int32)), vi (cs.getD 1 0)]) rfl ?_
                  refine XS.goto X559.here hx rfl (pc0 := 64) (pc' := 22) rfl (hb hby od343) (by decide) (by decide) ?_
                  refine XS.iloadN X559.here hx rfl (hb hby od323) rfl ?_
                  refine XS.ifYes X559.here hx rfl (pc0 := 23) (pc' := 67) rfl (hb hby od324) rfl ((if0 _ _).trans (teq (by decide : (0 : Int32) = (0 : Int32))).1) (by decide) (by decide) ?_
                  refine XS.iloadN X559.here hx rfl (hb hby od344) rfl ?_
                  exact retN X559 hx (t := .boolean) Bd.returns (by simp) (hb hby od345) hr
                · show Q_istL Z a0 cs kc fm h0 n0 _ T559.heap _
                  rw [e559]
                  refine ⟨?_, N559, EX537⟩
                  rw [F_istL, if_pos hc11_542, if_pos hc31_545, if_pos hc44_548, if_neg hc52_551, if_pos hc31_554, if_pos hc44_557, if_pos hc52_560]
                · show CHr Z own_EL s.vm s.heap T559.vm T559.heap
                  rw [hh, e559]
                  exact CHn537.trans (CHv.at (s := s) (vm0 := T537.vm) X559 hZ hEW CHn537.1)
              · obtain ⟨cq562, kq562, q562a, q562b, q562c⟩ := isOf hZ e559 fx541
                obtain ⟨_, _, ⟨T562, L562, k562, n562⟩, -, X562, ⟨Lc562, hQ562, l562, y562, z562⟩, st562⟩ := X559.virtualBack hx (y := nm10) (z := nm10) hown (mvT hZ (ow hw 53 rfl)) (mvT hZ (ow hw 54 rfl)) (notFace_of_selects (args := #[]) (mvT hZ (ow hw 56 rfl))) (mvT hZ (ow hw 56 rfl)) (mvT hZ (ow hw 55 rfl)) (by decide) (backOf (W := 1) (rm_lenC l Z a0' hw [] a0 cs kc h537 n0 Z537 fx540 hl4 (S_cs.ext EX537) hkc) hZ (ow hw 57 rfl) (ow hw 5 rfl) (by decide) (by decide)) q562a q562c (g := (mkF m 28 #[vr a0, vi 1, vi (((0 : Int32) + (1 : Int32)) + (1 : Int32)), vi (cs.getD 1 0)] [(.ref a0), (.int (((0 : Int32) + (1 : Int32)) + (1 : Int32)))])) rfl (by rw [hml]; rfl) (Steps.refl _) (argsL := []) (rest := [(.int (((0 : Int32) + (1 : Int32)) + (1 : Int32)))]) (lenOf own_pd15 rfl) rfl (by show 2 * 0 + _ ≤ _; exact Nat.le_of_eq rfl) (hb hby od327) (fun _ _ => ⟨rfl, e559, (by decide : 2 + 0 ≤ _), (by decide : 20 + 0 ≤ _)⟩)
                dsimp only [Pt.U, Pt.locs, Pt.cells, Pt.slots] at X562 l562 y562 z562 st562 hQ562
                subst l562 y562 z562
                obtain ⟨rfl, N562q, e562⟩ := hQ562
                have N562 := Fr.app N559 N562q
                have pre564 : PT p e below (T562.setTop (mkF m 31 #[vr a0, vi 1, vi (((0 : Int32) + (1 : Int32)) + (1 : Int32)), vi (cs.getD 1 0)] [(.int (F_lenC cs)), (.int (((0 : Int32) + (1 : Int32)) + (1 : Int32)))])) (s₁.setTop (entryFrame m #[(.ref a0)] 4)) := fun t k => pre561 t (by
                  refine XS.ifNo X559.here hx rfl (hb hby od339) rfl ((if0 _ _).trans (feq hc52_560).1) ?_
                  refine XS.iconst X559.here hx rfl (hb hby od346) ?_
                  refine XS.goto X559.here hx rfl (pc0 := 56) (pc' := 60) rfl (hb hby od347) (by decide) (by decide) ?_
                  refine XS.istoreN X559.here hx rfl (hb hby od341) rfl (l' := #[vr a0, vi 1, vi ((0 : Int32) + (1 : Int32)), vi (cs.getD 1 0)]) rfl ?_
                  refine XS.iinc X559.here hx rfl (hb hby od342) rfl (l' := #[vr a0, vi 1, vi (((0 : Int32) + (1 : Int32)) + (1 : Int32)), vi (cs.getD 1 0)]) rfl ?_
                  refine XS.goto X559.here hx rfl (pc0 := 64) (pc' := 22) rfl (hb hby od343) (by decide) (by decide) ?_
                  refine XS.iloadN X559.here hx rfl (hb hby od323) rfl ?_
                  refine XS.ifNo X559.here hx rfl (hb hby od324) rfl ((if0 _ _).trans (feq (by decide : ¬ ((1 : Int32) = (0 : Int32)))).1) ?_
                  refine XS.iloadN X559.here hx rfl (hb hby od325) rfl ?_
                  refine XS.aloadN X559.here hx rfl (hb hby od326) rfl rfl ?_
                  refine st562.trans ?_
                  exact k)
                by_cases hc31_563 : (((0 : Int32) + (1 : Int32)) + (1 : Int32)) < (F_lenC cs)
                · obtain ⟨cq565, kq565, q565a, q565b, q565c⟩ := isOf hZ e562 fx541
                  obtain ⟨_, _, ⟨T565, L565, k565, n565⟩, -, X565, ⟨Lc565, hQ565, l565, y565, z565⟩, st565⟩ := X562.virtualBack hx (y := nm9) (z := nm9) hown (mvT hZ (ow hw 63 rfl)) (mvT hZ (ow hw 64 rfl)) (notFace_of_selects (args := #[]) (mvT hZ (ow hw 66 rfl))) (mvT hZ (ow hw 66 rfl)) (mvT hZ (ow hw 65 rfl)) (by decide) (backOf (W := 0) (rm_chrC l Z a0' hw [] a0 cs 2 (own_hiC cs 2 hl4 (by decide) hc31_563) kc fm h537 n0 Z537 fx540 hl4 (S_cs.ext EX537) hkc (S_fm.ext EX537) hfm (S_ad.ext EX537) (S_hi.ext EX537) (S_lo.ext EX537)) hZ (ow hw 67 rfl) (ow hw 5 rfl) (by decide) (by decide)) q565a q565c (g := (mkF m 36 #[vr a0, vi 1, vi (((0 : Int32) + (1 : Int32)) + (1 : Int32)), vi (cs.getD 1 0)] [(.int (((0 : Int32) + (1 : Int32)) + (1 : Int32))), (.ref a0)])) rfl (by rw [hml]; rfl) (Steps.refl _) (argsL := [(.int (((0 : Int32) + (1 : Int32)) + (1 : Int32)))]) (rest := []) (lenOf own_pd16 rfl) rfl (by show 2 * 0 + _ ≤ _; exact Nat.le_of_eq rfl) (hb hby od331) (fun _ _ => ⟨rfl, e562, (by decide : 2 + 0 ≤ _), (by decide : 20 + 0 ≤ _)⟩)
                  dsimp only [Pt.U, Pt.locs, Pt.cells, Pt.slots] at X565 l565 y565 z565 st565 hQ565
                  subst l565 y565 z565
                  obtain ⟨rfl, N565q, e565⟩ := hQ565
                  have N565 := Fr.app N562 N565q
                  have q565 : (F_chrC cs 2 (own_hiC cs 2 hl4 (by decide) hc31_563)) = (cs.getD 2 0) := own_chrD _ _ _
                  rw [q565] at st565
                  have pre567 : PT p e below (T565.setTop (mkF m 44 #[vr a0, vi 1, vi (((0 : Int32) + (1 : Int32)) + (1 : Int32)), vi (cs.getD 2 0)] [(.int 128), (.int (cs.getD 2 0))])) (s₁.setTop (entryFrame m #[(.ref a0)] 4)) := fun t k => pre564 t (by
                    refine XS.icmpNo X562.here hx rfl (hb hby od328) rfl (tlt hc31_563).2.1 ?_
                    refine XS.aloadN X562.here hx rfl (hb hby od329) rfl rfl ?_
                    refine XS.iloadN X562.here hx rfl (hb hby od330) rfl ?_
                    refine st565.trans ?_
                    refine XS.istoreN X565.here hx rfl (hb hby od332) rfl (l' := #[vr a0, vi 1, vi (((0 : Int32) + (1 : Int32)) + (1 : Int32)), vi (cs.getD 2 0)]) rfl ?_
                    refine XS.iloadN X565.here hx rfl (hb hby od333) rfl ?_
                    refine XS.sipush X565.here hx rfl (hb hby od334) ?_
                    exact k)
                  by_cases hc44_566 : (cs.getD 2 0) < (128 : Int32)
                  · obtain ⟨_, _, ⟨T568, L568, k568, n568⟩, -, X568, ⟨Lc568, hQ568, l568, y568, z568⟩, st568⟩ := Jvm.LawKit.callS X565 hx (y := nm21) hown (mvT hZ (ow hw 85 rfl)) (mvT hZ (ow hw 86 rfl)) (mvT hZ (ow hw 26 rfl)) (mvT hZ (ow hw 87 rfl)) (by decide) (backOf (W := 0) (rm_tb l Z a0' hw [] ((cs.getD 2 0).toInt8.toInt32) h537 n0 Z537) hZ (ow hw 87 rfl) (ow hw 26 rfl) (by decide) (by decide)) (g := (mkF m 49 #[vr a0, vi 1, vi (((0 : Int32) + (1 : Int32)) + (1 : Int32)), vi (cs.getD 2 0)] [(.int ((cs.getD 2 0).toInt8.toInt32))])) rfl (by rw [hml]; rfl) (argsL := [(.int ((cs.getD 2 0).toInt8.toInt32))]) (rest := []) (lenOf own_pd17 rfl) rfl (by show 2 * 0 + _ ≤ _; exact Nat.le_of_eq rfl) (hb hby od338) (fun _ _ => ⟨rfl, e565, (by decide : 2 + 0 ≤ _), (by decide : 20 + 0 ≤ _)⟩)
                    dsimp only [Pt.U, Pt.locs, Pt.cells, Pt.slots] at X568 l568 y568 z568 st568 hQ568
                    subst l568 y568 z568
                    obtain ⟨rfl, N568q, e568⟩ := hQ568
                    have N568 := Fr.app N565 N568q
                    have pre570 : PT p e below (T568.setTop (mkF m 52 #[vr a0, vi 1, vi (((0 : Int32) + (1 : Int32)) + (1 : Int32)), vi (cs.getD 2 0)] [(.int (F_tb ((cs.getD 2 0).toInt8.toInt32)))])) (s₁.setTop (entryFrame m #[(.ref a0)] 4)) := fun t k => pre567 t (by
                      refine XS.icmpNo X565.here hx rfl (hb hby od335) rfl (tlt hc44_566).2.1 ?_
                      refine XS.iloadN X565.here hx rfl (hb hby od336) rfl ?_
                      refine XS.i2b X565.here hx rfl (hb hby od337) rfl ?_
                      refine st568 _ ?_
                      exact k)
                    by_cases hc52_569 : (F_tb ((cs.getD 2 0).toInt8.toInt32)) = (0 : Int32)
                    · obtain ⟨fs, hr, hrun, hended, hE⟩ := X568.leaveW hS537 (by rw [e568]; exact hk537) (v := some (.int 0)) (fun h => by rw [Bd.returns] at h; cases h)
                      refine ⟨_, _, pre570 _ ?_, hrun, hended, _, _, rfl, ?_, ?_, own_wmono hE (by decide) (by decide)⟩
                      · show Steps p.tables e below (T568.setTop (mkF m 52 #[vr a0, vi 1, vi (((0 : Int32) + (1 : Int32)) + (1 : Int32)), vi (cs.getD 2 0)] [(.int (F_tb ((cs.getD 2 0).toInt8.toInt32)))])) _
                        refine XS.ifYes X568.here hx rfl (pc0 := 52) (pc' := 59) rfl (hb hby od339) rfl ((if0 _ _).trans (teq hc52_569).1) (by decide) (by decide) ?_
                        refine XS.iconst X568.here hx rfl (hb hby od340) ?_
                        refine XS.istoreN X568.here hx rfl (hb hby od341) rfl (l' := #[vr a0, vi 0, vi (((0 : Int32) + (1 : Int32)) + (1 : Int32)), vi (cs.getD 2 0)]) rfl ?_
                        refine XS.iinc X568.here hx rfl (hb hby od342) rfl (l' := #[vr a0, vi 0, vi ((((0 : Int32) + (1 : Int32)) + (1 : Int32)) + (1 : Int32)), vi (cs.getD 2 0)]) rfl ?_
                        refine XS.goto X568.here hx rfl (pc0 := 64) (pc' := 22) rfl (hb hby od343) (by decide) (by decide) ?_
                        refine XS.iloadN X568.here hx rfl (hb hby od323) rfl ?_
                        refine XS.ifYes X568.here hx rfl (pc0 := 23) (pc' := 67) rfl (hb hby od324) rfl ((if0 _ _).trans (teq (by decide : (0 : Int32) = (0 : Int32))).1) (by decide) (by decide) ?_
                        refine XS.iloadN X568.here hx rfl (hb hby od344) rfl ?_
                        exact retN X568 hx (t := .boolean) Bd.returns (by simp) (hb hby od345) hr
                      · show Q_istL Z a0 cs kc fm h0 n0 _ T568.heap _
                        rw [e568]
                        refine ⟨?_, N568, EX537⟩
                        rw [F_istL, if_pos hc11_542, if_pos hc31_545, if_pos hc44_548, if_neg hc52_551, if_pos hc31_554, if_pos hc44_557, if_neg hc52_560, if_pos hc31_563, if_pos hc44_566, if_pos hc52_569]
                      · show CHr Z own_EL s.vm s.heap T568.vm T568.heap
                        rw [hh, e568]
                        exact CHn537.trans (CHv.at (s := s) (vm0 := T537.vm) X568 hZ hEW CHn537.1)
                    · obtain ⟨cq571, kq571, q571a, q571b, q571c⟩ := isOf hZ e568 fx541
                      obtain ⟨_, _, ⟨T571, L571, k571, n571⟩, -, X571, ⟨Lc571, hQ571, l571, y571, z571⟩, st571⟩ := X568.virtualBack hx (y := nm10) (z := nm10) hown (mvT hZ (ow hw 53 rfl)) (mvT hZ (ow hw 54 rfl)) (notFace_of_selects (args := #[]) (mvT hZ (ow hw 56 rfl))) (mvT hZ (ow hw 56 rfl)) (mvT hZ (ow hw 55 rfl)) (by decide) (backOf (W := 1) (rm_lenC l Z a0' hw [] a0 cs kc h537 n0 Z537 fx540 hl4 (S_cs.ext EX537) hkc) hZ (ow hw 57 rfl) (ow hw 5 rfl) (by decide) (by decide)) q571a q571c (g := (mkF m 28 #[vr a0, vi 1, vi ((((0 : Int32) + (1 : Int32)) + (1 : Int32)) + (1 : Int32)), vi (cs.getD 2 0)] [(.ref a0), (.int ((((0 : Int32) + (1 : Int32)) + (1 : Int32)) + (1 : Int32)))])) rfl (by rw [hml]; rfl) (Steps.refl _) (argsL := []) (rest := [(.int ((((0 : Int32) + (1 : Int32)) + (1 : Int32)) + (1 : Int32)))]) (lenOf own_pd15 rfl) rfl (by show 2 * 0 + _ ≤ _; exact Nat.le_of_eq rfl) (hb hby od327) (fun _ _ => ⟨rfl, e568, (by decide : 2 + 0 ≤ _), (by decide : 20 + 0 ≤ _)⟩)
                      dsimp only [Pt.U, Pt.locs, Pt.cells, Pt.slots] at X571 l571 y571 z571 st571 hQ571
                      subst l571 y571 z571
                      obtain ⟨rfl, N571q, e571⟩ := hQ571
                      have N571 := Fr.app N568 N571q
                      have pre573 : PT p e below (T571.setTop (mkF m 31 #[vr a0, vi 1, vi ((((0 : Int32) + (1 : Int32)) + (1 : Int32)) + (1 : Int32)), vi (cs.getD 2 0)] [(.int (F_lenC cs)), (.int ((((0 : Int32) + (1 : Int32)) + (1 : Int32)) + (1 : Int32)))])) (s₁.setTop (entryFrame m #[(.ref a0)] 4)) := fun t k => pre570 t (by
                        refine XS.ifNo X568.here hx rfl (hb hby od339) rfl ((if0 _ _).trans (feq hc52_569).1) ?_
                        refine XS.iconst X568.here hx rfl (hb hby od346) ?_
                        refine XS.goto X568.here hx rfl (pc0 := 56) (pc' := 60) rfl (hb hby od347) (by decide) (by decide) ?_
                        refine XS.istoreN X568.here hx rfl (hb hby od341) rfl (l' := #[vr a0, vi 1, vi (((0 : Int32) + (1 : Int32)) + (1 : Int32)), vi (cs.getD 2 0)]) rfl ?_
                        refine XS.iinc X568.here hx rfl (hb hby od342) rfl (l' := #[vr a0, vi 1, vi ((((0 : Int32) + (1 : Int32)) + (1 : Int32)) + (1 : Int32)), vi (cs.getD 2 0)]) rfl ?_
                        refine XS.goto X568.here hx rfl (pc0 := 64) (pc' := 22) rfl (hb hby od343) (by decide) (by decide) ?_
                        refine XS.iloadN X568.here hx rfl (hb hby od323) rfl ?_
                        refine XS.ifNo X568.here hx rfl (hb hby od324) rfl ((if0 _ _).trans (feq (by decide : ¬ ((1 : Int32) = (0 : Int32)))).1) ?_
                        refine XS.iloadN X568.here hx rfl (hb hby od325) rfl ?_
                        refine XS.aloadN X568.here hx rfl (hb hby od326) rfl rfl ?_
                        refine st571.trans ?_
                        exact k)
                      by_cases hc31_572 : ((((0 : Int32) + (1 : Int32)) + (1 : Int32)) + (1 : Int32)) < (F_lenC cs)
                      · obtain ⟨cq574, kq574, q574a, q574b, q574c⟩ := isOf hZ e571 fx541
                        obtain ⟨_, _, ⟨T574, L574, k574, n574⟩, -, X574, ⟨Lc574, hQ574, l574, y574, z574⟩, st574⟩ := X571.virtualBack hx (y := nm9) (z := nm9) hown (mvT hZ (ow hw 63 rfl)) (mvT hZ (ow hw 64 rfl)) (notFace_of_selects (args := #[]) (mvT hZ (ow hw 66 rfl))) (mvT hZ (ow hw 66 rfl)) (mvT hZ (ow hw 65 rfl)) (by decide) (backOf (W := 0) (rm_chrC l Z a0' hw [] a0 cs 3 (own_hiC cs 3 hl4 (by decide) hc31_572) kc fm h537 n0 Z537 fx540 hl4 (S_cs.ext EX537) hkc (S_fm.ext EX537) hfm (S_ad.ext EX537) (S_hi.ext EX537) (S_lo.ext EX537)) hZ (ow hw 67 rfl) (ow hw 5 rfl) (by decide) (by decide)) q574a q574c (g := (mkF m 36 #[vr a0, vi 1, vi ((((0 : Int32) + (1 : Int32)) + (1 : Int32)) + (1 : Int32)), vi (cs.getD 2 0)] [(.int ((((0 : Int32) + (1 : Int32)) + (1 : Int32)) + (1 : Int32))), (.ref a0)])) rfl (by rw [hml]; rfl) (Steps.refl _) (argsL := [(.int ((((0 : Int32) + (1 : Int32)) + (1 : Int32)) + (1 : Int32)))]) (rest := []) (lenOf own_pd16 rfl) rfl (by show 2 * 0 + _ ≤ _; exact Nat.le_of_eq rfl) (hb hby od331) (fun _ _ => ⟨rfl, e571, (by decide : 2 + 0 ≤ _), (by decide : 20 + 0 ≤ _)⟩)
                        dsimp only [Pt.U, Pt.locs, Pt.cells, Pt.slots] at X574 l574 y574 z574 st574 hQ574
                        subst l574 y574 z574
                        obtain ⟨rfl, N574q, e574⟩ := hQ574
                        have N574 := Fr.app N571 N574q
                        have q574 : (F_chrC cs 3 (own_hiC cs 3 hl4 (by decide) hc31_572)) = (cs.getD 3 0) := own_chrD _ _ _
                        rw [q574] at st574
                        have pre576 : PT p e below (T574.setTop (mkF m 44 #[vr a0, vi 1, vi ((((0 : Int32) + (1 : Int32)) + (1 : Int32)) + (1 : Int32)), vi (cs.getD 3 0)] [(.int 128), (.int (cs.getD 3 0))])) (s₁.setTop (entryFrame m #[(.ref a0)] 4)) := fun t k => pre573 t (by
                          refine XS.icmpNo X571.here hx rfl (hb hby od328) rfl (tlt hc31_572).2.1 ?_
                          refine XS.aloadN X571.here hx rfl (hb hby od329) rfl rfl ?_
                          refine XS.iloadN X571.here hx rfl (hb hby od330) rfl ?_
                          refine st574.trans ?_
                          refine XS.istoreN X574.here hx rfl (hb hby od332) rfl (l' := #[vr a0, vi 1, vi ((((0 : Int32) + (1 : Int32)) + (1 : Int32)) + (1 : Int32)), vi (cs.getD 3 0)]) rfl ?_
                          refine XS.iloadN X574.here hx rfl (hb hby od333) rfl ?_
                          refine XS.sipush X574.here hx rfl (hb hby od334) ?_
                          exact k)
                        by_cases hc44_575 : (cs.getD 3 0) < (128 : Int32)
                        · obtain ⟨_, _, ⟨T577, L577, k577, n577⟩, -, X577, ⟨Lc577, hQ577, l577, y577, z577⟩, st577⟩ := Jvm.LawKit.callS X574 hx (y := nm21) hown (mvT hZ (ow hw 85 rfl)) (mvT hZ (ow hw 86 rfl)) (mvT hZ (ow hw 26 rfl)) (mvT hZ (ow hw 87 rfl)) (by decide) (backOf (W := 0) (rm_tb l Z a0' hw [] ((cs.getD 3 0).toInt8.toInt32) h537 n0 Z537) hZ (ow hw 87 rfl) (ow hw 26 rfl) (by decide) (by decide)) (g := (mkF m 49 #[vr a0, vi 1, vi ((((0 : Int32) + (1 : Int32)) + (1 : Int32)) + (1 : Int32)), vi (cs.getD 3 0)] [(.int ((cs.getD 3 0).toInt8.toInt32))])) rfl (by rw [hml]; rfl) (argsL := [(.int ((cs.getD 3 0).toInt8.toInt32))]) (rest := []) (lenOf own_pd17 rfl) rfl (by show 2 * 0 + _ ≤ _; exact Nat.le_of_eq rfl) (hb hby od338) (fun _ _ => ⟨rfl, e574, (by decide : 2 + 0 ≤ _), (by decide : 20 + 0 ≤ _)⟩)
                          dsimp only [Pt.U, Pt.locs, Pt.cells, Pt.slots] at X577 l577 y577 z577 st577 hQ577
                          subst l577 y577 z577
                          obtain ⟨rfl, N577q, e577⟩ := hQ577
                          have N577 := Fr.app N574 N577q
                          have pre579 : PT p e below (T577.setTop (mkF m 52 #[vr a0, vi 1, vi ((((0 : Int32) + (1 : Int32)) + (1 : Int32)) + (1 : Int32)), vi (cs.getD 3 0)] [(.int (F_tb ((cs.getD 3 0).toInt8.toInt32)))])) (s₁.setTop (entryFrame m #[(.ref a0)] 4)) := fun t k => pre576 t (by
                            refine XS.icmpNo X574.here hx rfl (hb hby od335) rfl (tlt hc44_575).2.1 ?_
                            refine XS.iloadN X574.here hx rfl (hb hby od336) rfl ?_
                            refine XS.i2b X574.here hx rfl (hb hby od337) rfl ?_
                            refine st577 _ ?_
                            exact k)
                          by_cases hc52_578 : (F_tb ((cs.getD 3 0).toInt8.toInt32)) = (0 : Int32)
                          · obtain ⟨fs, hr, hrun, hended, hE⟩ := X577.leaveW hS537 (by rw [e577]; exact hk537) (v := some (.int 0)) (fun h => by rw [Bd.returns] at h; cases h)
                            refine ⟨_, _, pre579 _ ?_, hrun, hended, _, _, rfl, ?_, ?_, own_wmono hE (by decide) (by decide)⟩
                            · show Steps p.tables e below (T577.setTop (mkF m 52 #[vr a0, vi 1, vi ((((0 : Int32) + (1 : Int32)) + (1 : Int32)) + (1 : Int32)), vi (cs.getD 3 0)] [(.int (F_tb ((cs.getD 3 0).toInt8.toInt32)))])) _
                              refine XS.ifYes X577.here hx rfl (pc0 := 52) (pc' := 59) rfl (hb hby od339) rfl ((if0 _ _).trans (teq hc52_578).1) (by decide) (by decide) ?_
                              refine XS.iconst X577.here hx rfl (hb hby od340) ?_
                              refine XS.istoreN X577.here hx rfl (hb hby od341) rfl (l' := #[vr a0, vi 0, vi ((((0 : Int32) + (1 : Int32)) + (1 : Int32)) + (1 : Int32)), vi (cs.getD 3 0)]) rfl ?_
                              refine XS.iinc X577.here hx rfl (hb hby od342) rfl (l' := #[vr a0, vi 0, vi (((((0 : Int32) + (1 : Int32)) + (1 : Int32)) + (1 : Int32)) + (1 : Int32)), vi (cs.getD 3 0)]) rfl ?_
                              refine XS.goto X577.here hx rfl (pc0 := 64) (pc' := 22) rfl (hb hby od343) (by decide) (by decide) ?_
                              refine XS.iloadN X577.here hx rfl (hb hby od323) rfl ?_
                              refine XS.ifYes X577.here hx rfl (pc0 := 23) (pc' := 67) rfl (hb hby od324) rfl ((if0 _ _).trans (teq (by decide : (0 : Int32) = (0 : Int32))).1) (by decide) (by decide) ?_
                              refine XS.iloadN X577.here hx rfl (hb hby od344) rfl ?_
                              exact retN X577 hx (t := .boolean) Bd.returns (by simp) (hb hby od345) hr
                            · show Q_istL Z a0 cs kc fm h0 n0 _ T577.heap _
                              rw [e577]
                              refine ⟨?_, N577, EX537⟩
                              rw [F_istL, if_pos hc11_542, if_pos hc31_545, if_pos hc44_548, if_neg hc52_551, if_pos hc31_554, if_pos hc44_557, if_neg hc52_560, if_pos hc31_563, if_pos hc44_566, if_neg hc52_569, if_pos hc31_572, if_pos hc44_575, if_pos hc52_578]
                            · show CHr Z own_EL s.vm s.heap T577.vm T577.heap
                              rw [hh, e577]
                              exact CHn537.trans (CHv.at (s := s) (vm0 := T537.vm) X577 hZ hEW CHn537.1)
                          · obtain ⟨cq580, kq580, q580a, q580b, q580c⟩ := isOf hZ e577 fx541
                            obtain ⟨_, _, ⟨T580, L580, k580, n580⟩, -, X580, ⟨Lc580, hQ580, l580, y580, z580⟩, st580⟩ := X577.virtualBack hx (y := nm10) (z := nm10) hown (mvT hZ (ow hw 53 rfl)) (mvT hZ (ow hw 54 rfl)) (notFace_of_selects (args := #[]) (mvT hZ (ow hw 56 rfl))) (mvT hZ (ow hw 56 rfl)) (mvT hZ (ow hw 55 rfl)) (by decide) (backOf (W := 1) (rm_lenC l Z a0' hw [] a0 cs kc h537 n0 Z537 fx540 hl4 (S_cs.ext EX537) hkc) hZ (ow hw 57 rfl) (ow hw 5 rfl) (by decide) (by decide)) q580a q580c (g := (mkF m 28 #[vr a0, vi 1, vi (((((0 : Int32) + (1 : Int32)) + (1 : Int32)) + (1 : Int32)) + (1 : Int32)), vi (cs.getD 3 0)] [(.ref a0), (.int (((((0 : Int32) + (1 : Int32)) + (1 : Int32)) + (1 : Int32)) + (1 : Int32)))])) rfl (by rw [hml]; rfl) (Steps.refl _) (argsL := []) (rest := [(.int (((((0 : Int32) + (1 : Int32)) + (1 : Int32)) + (1 : Int32)) + (1 : Int32)))]) (lenOf own_pd15 rfl) rfl (by show 2 * 0 + _ ≤ _; exact Nat.le_of_eq rfl) (hb hby od327) (fun _ _ => ⟨rfl, e577, (by decide : 2 + 0 ≤ _), (by decide : 20 + 0 ≤ _)⟩)
                            dsimp only [Pt.U, Pt.locs, Pt.cells, Pt.slots] at X580 l580 y580 z580 st580 hQ580
                            subst l580 y580 z580
                            obtain ⟨rfl, N580q, e580⟩ := hQ580
                            have N580 := Fr.app N577 N580q
                            obtain ⟨fs, hr, hrun, hended, hE⟩ := X580.leaveW hS537 (by rw [e580]; exact hk537) (v := some (.int 1)) (fun h => by rw [Bd.returns] at h; cases h)
                            refine ⟨_, _, pre579 _ ?_, hrun, hended, _, _, rfl, ?_, ?_, own_wmono hE (by decide) (by decide)⟩
                            · show Steps p.tables e below (T577.setTop (mkF m 52 #[vr a0, vi 1, vi ((((0 : Int32) + (1 : Int32)) + (1 : Int32)) + (1 : Int32)), vi (cs.getD 3 0)] [(.int (F_tb ((cs.getD 3 0).toInt8.toInt32)))])) _
                              refine XS.ifNo X577.here hx rfl (hb hby od339) rfl ((if0 _ _).trans (feq hc52_578).1) ?_
                              refine XS.iconst X577.here hx rfl (hb hby od346) ?_
                              refine XS.goto X577.here hx rfl (pc0 := 56) (pc' := 60) rfl (hb hby od347) (by decide) (by decide) ?_
                              refine XS.istoreN X577.here hx rfl (hb hby od341) rfl (l' := #[vr a0, vi 1, vi ((((0 : Int32) + (1 : Int32)) + (1 : Int32)) + (1 : Int32)), vi (cs.getD 3 0)]) rfl ?_
                              refine XS.iinc X577.here hx rfl (hb hby od342) rfl (l' := #[vr a0, vi 1, vi (((((0 : Int32) + (1 : Int32)) + (1 : Int32)) + (1 : Int32)) + (1 : Int32)), vi (cs.getD 3 0)]) rfl ?_
                              refine XS.goto X577.here hx rfl (pc0 := 64) (pc' := 22) rfl (hb hby od343) (by decide) (by decide) ?_
                              refine XS.iloadN X577.here hx rfl (hb hby od323) rfl ?_
                              refine XS.ifNo X577.here hx rfl (hb hby od324) rfl ((if0 _ _).trans (feq (by decide : ¬ ((1 : Int32) = (0 : Int32)))).1) ?_
                              refine XS.iloadN X577.here hx rfl (hb hby od325) rfl ?_
                              refine XS.aloadN X577.here hx rfl (hb hby od326) rfl rfl ?_
                              refine st580.trans ?_
                              refine XS.icmpYes X580.here hx rfl (pc0 := 31) (pc' := 67) rfl (hb hby od328) rfl (flt (own_n4C cs hl4)).2.1 (by decide) (by decide) ?_
                              refine XS.iloadN X580.here hx rfl (hb hby od344) rfl ?_
                              exact retN X580 hx (t := .boolean) Bd.returns (by simp) (hb hby od345) hr
                            · show Q_istL Z a0 cs kc fm h0 n0 _ T580.heap _
                              rw [e580]
                              refine ⟨?_, N580, EX537⟩
                              rw [F_istL, if_pos hc11_542, if_pos hc31_545, if_pos hc44_548, if_neg hc52_551, if_pos hc31_554, if_pos hc44_557, if_neg hc52_560, if_pos hc31_563, if_pos hc44_566, if_neg hc52_569, if_pos hc31_572, if_pos hc44_575, if_neg hc52_578]
                            · show CHr Z own_EL s.vm s.heap T580.vm T580.heap
                              rw [hh, e580]
                              exact CHn537.trans (CHv.at (s := s) (vm0 := T537.vm) X580 hZ hEW CHn537.1)
                        · obtain ⟨fs, hr, hrun, hended, hE⟩ := X574.leaveW hS537 (by rw [e574]; exact hk537) (v := some (.int 0)) (fun h => by rw [Bd.returns] at h; cases h)
                          refine ⟨_, _, pre576 _ ?_, hrun, hended, _, _, rfl, ?_, ?_, own_wmono hE (by decide) (by decide)⟩
                          · show Steps p.tables e below (T574.setTop (mkF m 44 #[vr a0, vi 1, vi ((((0 : Int32) + (1 : Int32)) + (1 : Int32)) + (1 : Int32)), vi (cs.getD 3 0)] [(.int 128), (.int (cs.getD 3 0))])) _
                            refine XS.icmpYes X574.here hx rfl (pc0 := 44) (pc' := 59) rfl (hb hby od335) rfl (flt hc44_575).2.1 (by decide) (by decide) ?_
                            refine XS.iconst X574.here hx rfl (hb hby od340) ?_
                            refine XS.istoreN X574.here hx rfl (hb hby od341) rfl (l' := #[vr a0, vi 0, vi ((((0 : Int32) + (1 : Int32)) + (1 : Int32)) + (1 : Int32)), vi (cs.getD 3 0)]) rfl ?_
                            refine XS.iinc X574.here hx rfl (hb hby od342) rfl (l' := #[vr a0, vi 0, vi (((((0 : Int32) + (1 : Int32)) + (1 : Int32)) + (1 : Int32)) + (1 : Int32)), vi (cs.getD 3 0)]) rfl ?_
                            refine XS.goto X574.here hx rfl (pc0 := 64) (pc' := 22) rfl (hb hby od343) (by decide) (by decide) ?_
                            refine XS.iloadN X574.here hx rfl (hb hby od323) rfl ?_
                            refine XS.ifYes X574.here hx rfl (pc0 := 23) (pc' := 67) rfl (hb hby od324) rfl ((if0 _ _).trans (teq (by decide : (0 : Int32) = (0 : Int32))).1) (by decide) (by decide) ?_
                            refine XS.iloadN X574.here hx rfl (hb hby od344) rfl ?_
                            exact retN X574 hx (t := .boolean) Bd.returns (by simp) (hb hby od345) hr
                          · show Q_istL Z a0 cs kc fm h0 n0 _ T574.heap _
                            rw [e574]
                            refine ⟨?_, N574, EX537⟩
                            rw [F_istL, if_pos hc11_542, if_pos hc31_545, if_pos hc44_548, if_neg hc52_551, if_pos hc31_554, if_pos hc44_557, if_neg hc52_560, if_pos hc31_563, if_pos hc44_566, if_neg hc52_569, if_pos hc31_572, if_neg hc44_575]
                          · show CHr Z own_EL s.vm s.heap T574.vm T574.heap
                            rw [hh, e574]
                            exact CHn537.trans (CHv.at (s := s) (vm0 := T537.vm) X574 hZ hEW CHn537.1)
                      · obtain ⟨fs, hr, hrun, hended, hE⟩ := X571.leaveW hS537 (by rw [e571]; exact hk537) (v := some (.int 1)) (fun h => by rw [Bd.returns] at h; cases h)
                        refine ⟨_, _, pre573 _ ?_, hrun, hended, _, _, rfl, ?_, ?_, own_wmono hE (by decide) (by decide)⟩
                        · show Steps p.tables e below (T571.setTop (mkF m 31 #[vr a0, vi 1, vi ((((0 : Int32) + (1 : Int32)) + (1 : Int32)) + (1 : Int32)), vi (cs.getD 2 0)] [(.int (F_lenC cs)), (.int ((((0 : Int32) + (1 : Int32)) + (1 : Int32)) + (1 : Int32)))])) _
                          refine XS.icmpYes X571.here hx rfl (pc0 := 31) (pc' := 67) rfl (hb hby od328) rfl (flt hc31_572).2.1 (by decide) (by decide) ?_
                          refine XS.iloadN X571.here hx rfl (hb hby od344) rfl ?_
                          exact retN X571 hx (t := .boolean) Bd.returns (by simp) (hb hby od345) hr
                        · show Q_istL Z a0 cs kc fm h0 n0 _ T571.heap _
                          rw [e571]
                          refine ⟨?_, N571, EX537⟩
                          rw [F_istL, if_pos hc11_542, if_pos hc31_545, if_pos hc44_548, if_neg hc52_551, if_pos hc31_554, if_pos hc44_557, if_neg hc52_560, if_pos hc31_563, if_pos hc44_566, if_neg hc52_569, if_neg hc31_572]
                        · show CHr Z own_EL s.vm s.heap T571.vm T571.heap
                          rw [hh, e571]
                          exact CHn537.trans (CHv.at (s := s) (vm0 := T537.vm) X571 hZ hEW CHn537.1)
                  · obtain ⟨fs, hr, hrun, hended, hE⟩ := X565.leaveW hS537 (by rw [e565]; exact hk537) (v := some (.int 0)) (fun h => by rw [Bd.returns] at h; cases h)
                    refine ⟨_, _, pre567 _ ?_, hrun, hended, _, _, rfl, ?_, ?_, own_wmono hE (by decide) (by decide)⟩
                    · show Steps p.tables e below (T565.setTop (mkF m 44 #[vr a0, vi 1, vi (((0 : Int32) + (1 : Int32)) + (1 : Int32)), vi (cs.getD 2 0)] [(.int 128), (.int (cs.getD 2 0))])) _
                      refine XS.icmpYes X565.here hx rfl (pc0 := 44) (pc' := 59) rfl (hb hby od335) rfl (flt hc44_566).2.1 (by decide) (by decide) ?_
                      refine XS.iconst X565.here hx rfl (hb hby od340) ?_
                      refine XS.istoreN X565.here hx rfl (hb hby od341) rfl (l' := #[vr a0, vi 0, vi (((0 : Int32) + (1 : Int32)) + (1 : Int32)), vi (cs.getD 2 0)]) rfl ?_
                      refine XS.iinc X565.here hx rfl (hb hby od342) rfl (l' := #[vr a0, vi 0, vi ((((0 : Int32) + (1 : Int32)) + (1 : Int32)) + (1 : Int32)), vi (cs.getD 2 0)]) rfl ?_
                      refine XS.goto X565.here hx rfl (pc0 := 64) (pc' := 22) rfl (hb hby od343) (by decide) (by decide) ?_
                      refine XS.iloadN X565.here hx rfl (hb hby od323) rfl ?_
                      refine XS.ifYes X565.here hx rfl (pc0 := 23) (pc' := 67) rfl (hb hby od324) rfl ((if0 _ _).trans (teq (by decide : (0 : Int32) = (0 : Int32))).1) (by decide) (by decide) ?_
                      refine XS.iloadN X565.here hx rfl (hb hby od344) rfl ?_
                      exact retN X565 hx (t := .boolean) Bd.returns (by simp) (hb hby od345) hr
                    · show Q_istL Z a0 cs kc fm h0 n0 _ T565.heap _
                      rw [e565]
                      refine ⟨?_, N565, EX537⟩
                      rw [F_istL, if_pos hc11_542, if_pos hc31_545, if_pos hc44_548, if_neg hc52_551, if_pos hc31_554, if_pos hc44_557, if_neg hc52_560, if_pos hc31_563, if_neg hc44_566]
                    · show CHr Z own_EL s.vm s.heap T565.vm T565.heap
                      rw [hh, e565]
                      exact CHn537.trans (CHv.at (s := s) (vm0 := T537.vm) X565 hZ hEW CHn537.1)
                · obtain ⟨fs, hr, hrun, hended, hE⟩ := X562.leaveW hS537 (by rw [e562]; exact hk537) (v := some (.int 1)) (fun h => by rw [Bd.returns] at h; cases h)
                  refine ⟨_, _, pre564 _ ?_, hrun, hended, _, _, rfl, ?_, ?_, own_wmono hE (by decide) (by decide)⟩
                  · show Steps p.tables e below (T562.setTop (mkF m 31 #[vr a0, vi 1, vi (((0 : Int32) + (1 : Int32)) + (1 : Int32)), vi (cs.getD 1 0)] [(.int (F_lenC cs)), (.int (((0 : Int32) + (1 : Int32)) + (1 : Int32)))])) _
                    refine XS.icmpYes X562.here hx rfl (pc0 := 31) (pc' := 67) rfl (hb hby od328) rfl (flt hc31_563).2.1 (by decide) (by decide) ?_
                    refine XS.iloadN X562.here hx rfl (hb hby od344) rfl ?_
                    exact retN X562 hx (t := .boolean) Bd.returns (by simp) (hb hby od345) hr
                  · show Q_istL Z a0 cs kc fm h0 n0 _ T562.heap _
                    rw [e562]
                    refine ⟨?_, N562, EX537⟩
                    rw [F_istL, if_pos hc11_542, if_pos hc31_545, if_pos hc44_548, if_neg hc52_551, if_pos hc31_554, if_pos hc44_557, if_neg hc52_560, if_neg hc31_563]
                  · show CHr Z own_EL s.vm s.heap T562.vm T562.heap
                    rw [hh, e562]
                    exact CHn537.trans (CHv.at (s := s) (vm0 := T537.vm) X562 hZ hEW CHn537.1)
            · obtain ⟨fs, hr, hrun, hended, hE⟩ := X556.leaveW hS537 (by rw [e556]; exact hk537) (v := some (.int 0)) (fun h => by rw [Bd.returns] at h; cases h)
              refine ⟨_, _, pre558 _ ?_, hrun, hended, _, _, rfl, ?_, ?_, own_wmono hE (by decide) (by decide)⟩
              · show Steps p.tables e below (T556.setTop (mkF m 44 #[vr a0, vi 1, vi ((0 : Int32) + (1 : Int32)), vi (cs.getD 1 0)] [(.int 128), (.int (cs.getD 1 0))])) _
                refine XS.icmpYes X556.here hx rfl (pc0 := 44) (pc' := 59) rfl (hb hby od335) rfl (flt hc44_557).2.1 (by decide) (by decide) ?_
                refine XS.iconst X556.here hx rfl (hb hby od340) ?_
                refine XS.istoreN X556.here hx rfl (hb hby od341) rfl (l' := #[vr a0, vi 0, vi ((0 : Int32) + (1 : Int32)), vi (cs.getD 1 0)]) rfl ?_
                refine XS.iinc X556.here hx rfl (hb hby od342) rfl (l' := #[vr a0, vi 0, vi (((0 : Int32) + (1 : Int32)) + (1 : Int32)), vi (cs.getD 1 0)]) rfl ?_
                refine XS.goto X556.here hx rfl (pc0 := 64) (pc' := 22) rfl (hb hby od343) (by decide) (by decide) ?_
                refine XS.iloadN X556.here hx rfl (hb hby od323) rfl ?_
                refine XS.ifYes X556.here hx rfl (pc0 := 23) (pc' := 67) rfl (hb hby od324) rfl ((if0 _ _).trans (teq (by decide : (0 : Int32) = (0 : Int32))).1) (by decide) (by decide) ?_
                refine XS.iloadN X556.here hx rfl (hb hby od344) rfl ?_
                exact retN X556 hx (t := .boolean) Bd.returns (by simp) (hb hby od345) hr
              · show Q_istL Z a0 cs kc fm h0 n0 _ T556.heap _
                rw [e556]
                refine ⟨?_, N556, EX537⟩
                rw [F_istL, if_pos hc11_542, if_pos hc31_545, if_pos hc44_548, if_neg hc52_551, if_pos hc31_554, if_neg hc44_557]
              · show CHr Z own_EL s.vm s.heap T556.vm T556.heap
                rw [hh, e556]
                exact CHn537.trans (CHv.at (s := s) (vm0 := T537.vm) X556 hZ hEW CHn537.1)
          · obtain ⟨fs, hr, hrun, hended, hE⟩ := X553.leaveW hS537 (by rw [e553]; exact hk537) (v := some (.int 1)) (fun h => by rw [Bd.returns] at h; cases h)
            refine ⟨_, _, pre555 _ ?_, hrun, hended, _, _, rfl, ?_, ?_, own_wmono hE (by decide) (by decide)⟩
            · show Steps p.tables e below (T553.setTop (mkF m 31 #[vr a0, vi 1, vi ((0 : Int32) + (1 : Int32)), vi (cs.getD 0 0)] [(.int (F_lenC cs)), (.int ((0 : Int32) + (1 : Int32)))])) _
              refine XS.icmpYes X553.here hx rfl (pc0 := 31) (pc' := 67) rfl (hb hby od328) rfl (flt hc31_554).2.1 (by decide) (by decide) ?_
              refine XS.iloadN X553.here hx rfl (hb hby od344) rfl ?_
              exact retN X553 hx (t := .boolean) Bd.returns (by simp) (hb hby od345) hr
            · show Q_istL Z a0 cs kc fm h0 n0 _ T553.heap _
              rw [e553]
              refine ⟨?_, N553, EX537⟩
              rw [F_istL, if_pos hc11_542, if_pos hc31_545, if_pos hc44_548, if_neg hc52_551, if_neg hc31_554]
            · show CHr Z own_EL s.vm s.heap T553.vm T553.heap
              rw [hh, e553]
              exact CHn537.trans (CHv.at (s := s) (vm0 := T537.vm) X553 hZ hEW CHn537.1)
      · obtain ⟨fs, hr, hrun, hended, hE⟩ := X547.leaveW hS537 (by rw [e547]; exact hk537) (v := some (.int 0)) (fun h => by rw [Bd.returns] at h; cases h)
        refine ⟨_, _, pre549 _ ?_, hrun, hended, _, _, rfl, ?_, ?_, own_wmono hE (by decide) (by decide)⟩
        · show Steps p.tables e below (T547.setTop (mkF m 44 #[vr a0, vi 1, vi 0, vi (cs.getD 0 0)] [(.int 128), (.int (cs.getD 0 0))])) _
          refine XS.icmpYes X547.here hx rfl (pc0 := 44) (pc' := 59) rfl (hb hby od335) rfl (flt hc44_548).2.1 (by decide) (by decide) ?_
          refine XS.iconst X547.here hx rfl (hb hby od340) ?_
          refine XS.istoreN X547.here hx rfl (hb hby od341) rfl (l' := #[vr a0, vi 0, vi 0, vi (cs.getD 0 0)]) rfl ?_
          refine XS.iinc X547.here hx rfl (hb hby od342) rfl (l' := #[vr a0, vi 0, vi ((0 : Int32) + (1 : Int32)), vi (cs.getD 0 0)]) rfl ?_
          refine XS.goto X547.here hx rfl (pc0 := 64) (pc' := 22) rfl (hb hby od343) (by decide) (by decide) ?_
          refine XS.iloadN X547.here hx rfl (hb hby od323) rfl ?_
          refine XS.ifYes X547.here hx rfl (pc0 := 23) (pc' := 67) rfl (hb hby od324) rfl ((if0 _ _).trans (teq (by decide : (0 : Int32) = (0 : Int32))).1) (by decide) (by decide) ?_
          refine XS.iloadN X547.here hx rfl (hb hby od344) rfl ?_
          exact retN X547 hx (t := .boolean) Bd.returns (by simp) (hb hby od345) hr
        · show Q_istL Z a0 cs kc fm h0 n0 _ T547.heap _
          rw [e547]
          refine ⟨?_, N547, EX537⟩
          rw [F_istL, if_pos hc11_542, if_pos hc31_545, if_neg hc44_548]
        · show CHr Z own_EL s.vm s.heap T547.vm T547.heap
          rw [hh, e547]
          exact CHn537.trans (CHv.at (s := s) (vm0 := T537.vm) X547 hZ hEW CHn537.1)
    · obtain ⟨fs, hr, hrun, hended, hE⟩ := X544.leaveW hS537 (by rw [e544]; exact hk537) (v := some (.int 1)) (fun h => by rw [Bd.returns] at h; cases h)
      refine ⟨_, _, pre546 _ ?_, hrun, hended, _, _, rfl, ?_, ?_, own_wmono hE (by decide) (by decide)⟩
      · show Steps p.tables e below (T544.setTop (mkF m 31 #[vr a0, vi 1, vi 0, .unset] [(.int (F_lenC cs)), (.int 0)])) _
        refine XS.icmpYes X544.here hx rfl (pc0 := 31) (pc' := 67) rfl (hb hby od328) rfl (flt hc31_545).2.1 (by decide) (by decide) ?_
        refine XS.iloadN X544.here hx rfl (hb hby od344) rfl ?_
        exact retN X544 hx (t := .boolean) Bd.returns (by simp) (hb hby od345) hr
      · show Q_istL Z a0 cs kc fm h0 n0 _ T544.heap _
        rw [e544]
        refine ⟨?_, N544, EX537⟩
        rw [F_istL, if_pos hc11_542, if_neg hc31_545]
      · show CHr Z own_EL s.vm s.heap T544.vm T544.heap
        rw [hh, e544]
        exact CHn537.trans (CHv.at (s := s) (vm0 := T537.vm) X544 hZ hEW CHn537.1)
  · obtain ⟨fs, hr, hrun, hended, hE⟩ := X539.leaveW hS537 (by rw [e539]; exact hk537) (v := some (.int 0)) (fun h => by rw [Bd.returns] at h; cases h)
    refine ⟨_, _, pre543 _ ?_, hrun, hended, _, _, rfl, ?_, ?_, own_wmono hE (by decide) (by decide)⟩
    · show Steps p.tables e below (T539.setTop (mkF m 11 #[vr a0, .unset, .unset, .unset] [(.int (F_empC cs))])) _
      refine XS.ifYes X539.here hx rfl (pc0 := 11) (pc' := 18) rfl (hb hby od317) rfl ((if0 _ _).trans (feq hc11_542).2) (by decide) (by decide) ?_
      refine XS.iconst X539.here hx rfl (hb hby od348) ?_
      refine XS.istoreN X539.here hx rfl (hb hby od320) rfl (l' := #[vr a0, vi 0, .unset, .unset]) rfl ?_
      refine XS.iconst X539.here hx rfl (hb hby od321) ?_
      refine XS.istoreN X539.here hx rfl (hb hby od322) rfl (l' := #[vr a0, vi 0, vi 0, .unset]) rfl ?_
      refine XS.iloadN X539.here hx rfl (hb hby od323) rfl ?_
      refine XS.ifYes X539.here hx rfl (pc0 := 23) (pc' := 67) rfl (hb hby od324) rfl ((if0 _ _).trans (teq (by decide : (0 : Int32) = (0 : Int32))).1) (by decide) (by decide) ?_
      refine XS.iloadN X539.here hx rfl (hb hby od344) rfl ?_
      exact retN X539 hx (t := .boolean) Bd.returns (by simp) (hb hby od345) hr
    · show Q_istL Z a0 cs kc fm h0 n0 _ T539.heap _
      rw [e539]
      refine ⟨?_, N539, EX537⟩
      rw [F_istL, if_neg hc11_542]
    · show CHr Z own_EL s.vm s.heap T539.vm T539.heap
      rw [hh, e539]
      exact CHn537.trans (CHv.at (s := s) (vm0 := T537.vm) X539 hZ hEW CHn537.1)
theorem own_pd18 : parseMethodDescriptor "(Ljava/lang/String;)Z" = some ⟨[(.object "java/lang/String")], some .boolean⟩ := by decide +kernel
def F_s221 (xp : Int32) (cs : List Int32) : Int32 := (if (F_istL cs) = xp then (1 : Int32) else (0 : Int32))
def Q_s221 (Z : State) (p0 : Int32) (p1 : Int32) (p2 : Int32) (p3 : Int32) (p4 : Int32) (n : Int32) (c0 : Int32) (c1 : Int32) (c2 : Int32) (c3 : Int32) (b0 : Addr) (s0 : Addr) (xp : Int32) (cs : List Int32) (kc : Int32) (fm : Value) (h0 : Heap) (n0 : Nat) (v : Option Value) (h : Heap) (L : List Loc) : Prop := v = some (.int (F_s221 xp cs)) ∧ Fr n0 L ∧ True
theorem sg_s221 {l : Launch} {Z : State} {a0' : Array Value} (hw : ∀ d ∈ tables_1, d.before a0' Z = true) (p0 : Int32) (p1 : Int32) (p2 : Int32) (p3 : Int32) (p4 : Int32) (n : Int32) (c0 : Int32) (c1 : Int32) (c2 : Int32) (c3 : Int32) (b0 : Addr) (s0 : Addr) (xp : Int32) (cs : List Int32) (kc : Int32) (fm : Value) {h0 : Heap} {n0 : Nat} (Z0 : n0 ≤ h0.size) (HS : CS Z h0 s0 cs) (hl4 : cs.length ≤ 4) (S_cs : Sta Z h0 "java/lang/String" "COMPACT_STRINGS" "Z" (.int kc)) (hkc : ¬ (kc = (0 : Int32))) (S_fm : Sta Z h0 "jdk/internal/util/Preconditions" "SIOOBE_FORMATTER" "Ljava/util/function/BiFunction;" fm) (hfm : fm.isRef = true) (S_ad : Sta Z h0 "java/lang/StringUTF16" "$assertionsDisabled" "Z" (.int 1)) (S_hi : Sta Z h0 "java/lang/StringUTF16" "HI_BYTE_SHIFT" "I" (.int 0)) (S_lo : Sta Z h0 "java/lang/StringUTF16" "LO_BYTE_SHIFT" "I" (.int 8))
    {p : Program} {e : Env} {s : State} {m : MethodId} {args : Array Value} {below : List Frame} {meth : Method} {c : Code} {T0 : State} {locs : List Loc} {vm0 : Vm} {kk0 : Nat} (X0 : Stand p l e room_1 (s.setVm vm0) m args below meth c T0 locs 9 99) (hx : p.tables.exec = Jvm.exec) (hZ : Z.Warmed39 (s.setVm vm0).vm) (hby : c.code = code) (hml : c.maxLocals = 13) (hown : (s.setVm vm0).vm.findClass "com/example/lead_line/leadline/TermsIsTermPinLaw" = some m.cls) (hret : meth.sig.returnType = some .boolean) (hlk : meth.locks = false) (e0 : T0.heap = h0) (N0 : Fr n0 locs) (hS0 : s.Since vm0 kk0) (hk0 : kk0 ≤ h0.size) (CH0 : CHr Z own_EL vm0 h0 vm0 h0) :
    ∃ s₂ o, Steps p.tables e below (T0.setTop (mkF m 221 #[vi p0, vi p1, vi p2, vi p3, vi p4, vi n, vi c0, vi c1, vi c2, vi c3, vr b0, vr s0, vi xp] [])) s₂ ∧ s₂.status = .running ∧ Ended s₂ below o ∧ ∃ v L, o = .returned v ∧ Q_s221 Z p0 p1 p2 p3 p4 n c0 c1 c2 c3 b0 s0 xp cs kc fm h0 n0 v s₂.heap L ∧ ReturnedEndW s o s₂ L room_1.cells room_1.slots := by
  have hEW := own_EW hw
  have pre0 : PT p e below (T0.setTop (mkF m 221 #[vi p0, vi p1, vi p2, vi p3, vi p4, vi n, vi c0, vi c1, vi c2, vi c3, vr b0, vr s0, vi xp] [])) (T0.setTop (mkF m 221 #[vi p0, vi p1, vi p2, vi p3, vi p4, vi n, vi c0, vi c1, vi c2, vi c3, vr b0, vr s0, vi xp] [])) := fun t k => k
  have pre582 : PT p e below (T0.setTop (mkF m 223 #[vi p0, vi p1, vi p2, vi p3, vi p4, vi n, vi c0, vi c1, vi c2, vi c3, vr b0, vr s0, vi xp] [(.ref s0)])) (T0.setTop (mkF m 221 #[vi p0, vi p1, vi p2, vi p3, vi p4, vi n, vi c0, vi c1, vi c2, vi c3, vr b0, vr s0, vi xp] [])) := fun t k => pre0 t (by
    refine XS.aload X0.here hx rfl (hb hby at_221) rfl rfl ?_
    exact k)
  obtain ⟨_, _, ⟨T581, L581, k581, n581⟩, -, X581w, hS581w, hg581w, ⟨Lc581, hQ581, l581, y581, z581, hC581⟩, st581⟩ := callSS X0 hx (y := nm24) hown (mvT hZ (ow hw 24 rfl)) (mvT hZ (ow hw 25 rfl)) (mvT hZ (ow hw 26 rfl)) (mvT hZ (ow hw 27 rfl)) (by decide) (own_backW (s := s) (vm0 := vm0) (W := 0) (rm_istL l Z a0' hw [] s0 cs kc fm h0 n0 Z0 HS hl4 S_cs hkc S_fm hfm S_ad S_hi S_lo) hZ (ow hw 27 rfl) (ow hw 26 rfl) (by decide) (by decide) hEW CH0.1 all0) (g := (mkF m 223 #[vi p0, vi p1, vi p2, vi p3, vi p4, vi n, vi c0, vi c1, vi c2, vi c3, vr b0, vr s0, vi xp] [(.ref s0)])) rfl (by rw [hml]; rfl) (argsL := [(.ref s0)]) (rest := []) (lenOf own_pd18 rfl) rfl (by show 2 * 0 + _ ≤ _; exact Nat.le_of_eq rfl) (hb hby at_223) (fun _ _ => ⟨rfl, e0, (by decide : 9 + 2 ≤ _), (by decide : 99 + 20 ≤ _)⟩)
  dsimp only [Pt.U, Pt.locs, Pt.cells, Pt.slots] at X581w hS581w hg581w l581 y581 z581 st581 hQ581 hC581
  subst l581 y581 z581
  obtain ⟨X581, hS581, hZ, hown⟩ := rebS hS0 (by rw [e0]; exact hk0) X581w hS581w hg581w hZ hown
  have CHn581 := CH0.trans hC581
  obtain ⟨rfl, N581q, E581⟩ := hQ581
  have N581 := Fr.app N0 N581q
  have EX581 : Ext h0 T581.heap := E581
  have SZ581 : h0.size ≤ T581.heap.size := EX581.1
  have Z581 : n0 ≤ T581.heap.size := Nat.le_trans Z0 SZ581
  have pre584 : PT p e below (T581.setTop (mkF m 228 #[vi p0, vi p1, vi p2, vi p3, vi p4, vi n, vi c0, vi c1, vi c2, vi c3, vr b0, vr s0, vi xp] [(.int xp), (.int (F_istL cs))])) (T0.setTop (mkF m 221 #[vi p0, vi p1, vi p2, vi p3, vi p4, vi n, vi c0, vi c1, vi c2, vi c3, vr b0, vr s0, vi xp] [])) := fun t k => pre582 t (by
    refine st581.trans ?_
    refine XS.iload X581.here hx rfl (hb hby at_226) rfl ?_
    exact k)
  by_cases hc228_583 : (F_istL cs) = xp
  · obtain ⟨fs, hr, hrun, hended, hE⟩ := X581.leaveW hS581 (Nat.le_refl _) (hlocks := hlk) (v := some (.int 1)) (fun h => by rw [hret] at h; cases h)
    refine ⟨_, _, pre584 _ ?_, hrun, hended, _, _, rfl, ?_, own_wmono hE (by decide) (by decide)⟩
    · show Steps p.tables e below (T581.setTop (mkF m 228 #[vi p0, vi p1, vi p2, vi p3, vi p4, vi n, vi c0, vi c1, vi c2, vi c3, vr b0, vr s0, vi xp] [(.int xp), (.int (F_istL cs))])) _
      refine XS.icmpNo X581.here hx rfl (hb hby at_228) rfl (teq hc228_583).2 ?_
      refine XS.iconst X581.here hx rfl (hb hby at_231) ?_
      refine XS.goto X581.here hx rfl (pc0 := 232) (pc' := 236) rfl (hb hby at_232) (by decide) (by decide) ?_
      exact retN X581 hx (t := .boolean) hret (by simp) (hb hby at_236) hr
    · show Q_s221 Z p0 p1 p2 p3 p4 n c0 c1 c2 c3 b0 s0 xp cs kc fm h0 n0 _ T581.heap _
      refine ⟨?_, N581, trivial⟩
      rw [F_s221, if_pos hc228_583]
  · obtain ⟨fs, hr, hrun, hended, hE⟩ := X581.leaveW hS581 (Nat.le_refl _) (hlocks := hlk) (v := some (.int 0)) (fun h => by rw [hret] at h; cases h)
    refine ⟨_, _, pre584 _ ?_, hrun, hended, _, _, rfl, ?_, own_wmono hE (by decide) (by decide)⟩
    · show Steps p.tables e below (T581.setTop (mkF m 228 #[vi p0, vi p1, vi p2, vi p3, vi p4, vi n, vi c0, vi c1, vi c2, vi c3, vr b0, vr s0, vi xp] [(.int xp), (.int (F_istL cs))])) _
      refine XS.icmpYes X581.here hx rfl (pc0 := 228) (pc' := 235) rfl (hb hby at_228) rfl (feq hc228_583).2 (by decide) (by decide) ?_
      refine XS.iconst X581.here hx rfl (hb hby at_235) ?_
      exact retN X581 hx (t := .boolean) hret (by simp) (hb hby at_236) hr
    · show Q_s221 Z p0 p1 p2 p3 p4 n c0 c1 c2 c3 b0 s0 xp cs kc fm h0 n0 _ T581.heap _
      refine ⟨?_, N581, trivial⟩
      rw [F_s221, if_neg hc228_583]
theorem own_pd19 : parseMethodDescriptor "(C)Z" = some ⟨[.char], some .boolean⟩ := by decide +kernel
def F_s158 (n : Int32) (c0 : Int32) (c1 : Int32) (c2 : Int32) (c3 : Int32) (cs : List Int32) : Int32 := (if n < (1 : Int32) then (F_s221 (0 : Int32) cs) else (if (F_aln c0) = (0 : Int32) then (F_s221 (0 : Int32) cs) else (if n < (2 : Int32) then (if n < (3 : Int32) then (if n < (4 : Int32) then (F_s221 (1 : Int32) cs) else (if (F_aln c3) = (0 : Int32) then (F_s221 (0 : Int32) cs) else (F_s221 (1 : Int32) cs))) else (if (F_aln c2) = (0 : Int32) then (F_s221 (0 : Int32) cs) else (if n < (4 : Int32) then (F_s221 (1 : Int32) cs) else (if (F_aln c3) = (0 : Int32) then (F_s221 (0 : Int32) cs) else (F_s221 (1 : Int32) cs))))) else (if (F_aln c1) = (0 : Int32) then (F_s221 (0 : Int32) cs) else (if n < (3 : Int32) then (if n < (4 : Int32) then (F_s221 (1 : Int32) cs) else (if (F_aln c3) = (0 : Int32) then (F_s221 (0 : Int32) cs) else (F_s221 (1 : Int32) cs))) else (if (F_aln c2) = (0 : Int32) then (F_s221 (0 : Int32) cs) else (if n < (4 : Int32) then (F_s221 (1 : Int32) cs) else (if (F_aln c3) = (0 : Int32) then (F_s221 (0 : Int32) cs) else (F_s221 (1 : Int32) cs)))))))))
def Q_s158 (Z : State) (p0 : Int32) (p1 : Int32) (p2 : Int32) (p3 : Int32) (p4 : Int32) (n : Int32) (c0 : Int32) (c1 : Int32) (c2 : Int32) (c3 : Int32) (b0 : Addr) (s0 : Addr) (cs : List Int32) (kc : Int32) (fm : Value) (h0 : Heap) (n0 : Nat) (v : Option Value) (h : Heap) (L : List Loc) : Prop := v = some (.int (F_s158 n c0 c1 c2 c3 cs)) ∧ Fr n0 L ∧ True
theorem sg_s158 {l : Launch} {Z : State} {a0' : Array Value} (hw : ∀ d ∈ tables_1, d.before a0' Z = true) (p0 : Int32) (p1 : Int32) (p2 : Int32) (p3 : Int32) (p4 : Int32) (n : Int32) (c0 : Int32) (c1 : Int32) (c2 : Int32) (c3 : Int32) (b0 : Addr) (s0 : Addr) (cs : List Int32) (kc : Int32) (fm : Value) {h0 : Heap} {n0 : Nat} (Z0 : n0 ≤ h0.size) (HS : CS Z h0 s0 cs) (hl4 : cs.length ≤ 4) (S_cs : Sta Z h0 "java/lang/String" "COMPACT_STRINGS" "Z" (.int kc)) (hkc : ¬ (kc = (0 : Int32))) (S_fm : Sta Z h0 "jdk/internal/util/Preconditions" "SIOOBE_FORMATTER" "Ljava/util/function/BiFunction;" fm) (hfm : fm.isRef = true) (S_ad : Sta Z h0 "java/lang/StringUTF16" "$assertionsDisabled" "Z" (.int 1)) (S_hi : Sta Z h0 "java/lang/StringUTF16" "HI_BYTE_SHIFT" "I" (.int 0)) (S_lo : Sta Z h0 "java/lang/StringUTF16" "LO_BYTE_SHIFT" "I" (.int 8))
    {p : Program} {e : Env} {s : State} {m : MethodId} {args : Array Value} {below : List Frame} {meth : Method} {c : Code} {T0 : State} {locs : List Loc} {vm0 : Vm} {kk0 : Nat} (X0 : Stand p l e room_1 (s.setVm vm0) m args below meth c T0 locs 9 99) (hx : p.tables.exec = Jvm.exec) (hZ : Z.Warmed39 (s.setVm vm0).vm) (hby : c.code = code) (hml : c.maxLocals = 13) (hown : (s.setVm vm0).vm.findClass "com/example/lead_line/leadline/TermsIsTermPinLaw" = some m.cls) (hret : meth.sig.returnType = some .boolean) (hlk : meth.locks = false) (e0 : T0.heap = h0) (N0 : Fr n0 locs) (hS0 : s.Since vm0 kk0) (hk0 : kk0 ≤ h0.size) (CH0 : CHr Z own_EL vm0 h0 vm0 h0) :
    ∃ s₂ o, Steps p.tables e below (T0.setTop (mkF m 158 #[vi p0, vi p1, vi p2, vi p3, vi p4, vi n, vi c0, vi c1, vi c2, vi c3, vr b0, vr s0, .unset] [])) s₂ ∧ s₂.status = .running ∧ Ended s₂ below o ∧ ∃ v L, o = .returned v ∧ Q_s158 Z p0 p1 p2 p3 p4 n c0 c1 c2 c3 b0 s0 cs kc fm h0 n0 v s₂.heap L ∧ ReturnedEndW s o s₂ L room_1.cells room_1.slots := by
  have hEW := own_EW hw
  have pre0 : PT p e below (T0.setTop (mkF m 158 #[vi p0, vi p1, vi p2, vi p3, vi p4, vi n, vi c0, vi c1, vi c2, vi c3, vr b0, vr s0, .unset] [])) (T0.setTop (mkF m 158 #[vi p0, vi p1, vi p2, vi p3, vi p4, vi n, vi c0, vi c1, vi c2, vi c3, vr b0, vr s0, .unset] [])) := fun t k => k
  have pre586 : PT p e below (T0.setTop (mkF m 161 #[vi p0, vi p1, vi p2, vi p3, vi p4, vi n, vi c0, vi c1, vi c2, vi c3, vr b0, vr s0, .unset] [(.int 1), (.int n)])) (T0.setTop (mkF m 158 #[vi p0, vi p1, vi p2, vi p3, vi p4, vi n, vi c0, vi c1, vi c2, vi c3, vr b0, vr s0, .unset] [])) := fun t k => pre0 t (by
    refine XS.iload X0.here hx rfl (hb hby at_158) rfl ?_
    refine XS.iconst X0.here hx rfl (hb hby at_160) ?_
    exact k)
  by_cases hc161_585 : n < (1 : Int32)
  · have pre587 : PT p e below (T0.setTop (mkF m 221 #[vi p0, vi p1, vi p2, vi p3, vi p4, vi n, vi c0, vi c1, vi c2, vi c3, vr b0, vr s0, vi 0] [])) (T0.setTop (mkF m 158 #[vi p0, vi p1, vi p2, vi p3, vi p4, vi n, vi c0, vi c1, vi c2, vi c3, vr b0, vr s0, .unset] [])) := fun t k => pre586 t (by
      refine XS.icmpYes X0.here hx rfl (pc0 := 161) (pc' := 218) rfl (hb hby at_161) rfl (tlt hc161_585).1 (by decide) (by decide) ?_
      refine XS.iconst X0.here hx rfl (hb hby at_218) ?_
      refine XS.istore X0.here hx rfl (hb hby at_219) rfl (l' := #[vi p0, vi p1, vi p2, vi p3, vi p4, vi n, vi c0, vi c1, vi c2, vi c3, vr b0, vr s0, vi 0]) rfl ?_
      exact k)
    obtain ⟨s₂, o₂, h1₂, h2₂, h3₂, v₂, L₂, rfl, ⟨hv₂, N₂, -⟩, hE₂⟩ := sg_s221 (l := l) (s := s) hw p0 p1 p2 p3 p4 n c0 c1 c2 c3 b0 s0 (0 : Int32) cs kc fm Z0 HS hl4 S_cs hkc S_fm hfm S_ad S_hi S_lo (vm0 := vm0) X0 hx hZ hby hml hown hret (by first | assumption | exact BodyLoose.notSynchronized (by assumption)) e0 N0 hS0 hk0 (CHr.refl CH0.1)
    refine ⟨s₂, _, pre587 _ h1₂, h2₂, h3₂, v₂, L₂, rfl, ⟨?_, N₂, trivial⟩, hE₂⟩
    rw [hv₂, F_s158, if_pos hc161_585]
  · obtain ⟨_, _, ⟨T588, L588, k588, n588⟩, -, X588, ⟨Lc588, hQ588, l588, y588, z588⟩, st588⟩ := Jvm.LawKit.callS X0 hx (y := nm22) hown (mvT hZ (ow hw 49 rfl)) (mvT hZ (ow hw 50 rfl)) (mvT hZ (ow hw 51 rfl)) (mvT hZ (ow hw 52 rfl)) (by decide) (backOf (W := 0) (rm_aln l Z a0' hw [] c0 h0 n0 Z0) hZ (ow hw 52 rfl) (ow hw 51 rfl) (by decide) (by decide)) (g := (mkF m 166 #[vi p0, vi p1, vi p2, vi p3, vi p4, vi n, vi c0, vi c1, vi c2, vi c3, vr b0, vr s0, .unset] [(.int c0)])) rfl (by rw [hml]; rfl) (argsL := [(.int c0)]) (rest := []) (lenOf own_pd19 rfl) rfl (by show 2 * 0 + _ ≤ _; exact Nat.le_of_eq rfl) (hb hby at_166) (fun _ _ => ⟨rfl, e0, (by decide : 9 + 0 ≤ _), (by decide : 99 + 0 ≤ _)⟩)
    dsimp only [Pt.U, Pt.locs, Pt.cells, Pt.slots] at X588 l588 y588 z588 st588 hQ588
    subst l588 y588 z588
    obtain ⟨rfl, N588q, e588⟩ := hQ588
    have N588 := Fr.app N0 N588q
    have pre590 : PT p e below (T588.setTop (mkF m 169 #[vi p0, vi p1, vi p2, vi p3, vi p4, vi n, vi c0, vi c1, vi c2, vi c3, vr b0, vr s0, .unset] [(.int (F_aln c0))])) (T0.setTop (mkF m 158 #[vi p0, vi p1, vi p2, vi p3, vi p4, vi n, vi c0, vi c1, vi c2, vi c3, vr b0, vr s0, .unset] [])) := fun t k => pre586 t (by
      refine XS.icmpNo X0.here hx rfl (hb hby at_161) rfl (flt hc161_585).1 ?_
      refine XS.iload X0.here hx rfl (hb hby at_164) rfl ?_
      refine st588 _ ?_
      exact k)
    by_cases hc169_589 : (F_aln c0) = (0 : Int32)
    · have pre591 : PT p e below (T588.setTop (mkF m 221 #[vi p0, vi p1, vi p2, vi p3, vi p4, vi n, vi c0, vi c1, vi c2, vi c3, vr b0, vr s0, vi 0] [])) (T0.setTop (mkF m 158 #[vi p0, vi p1, vi p2, vi p3, vi p4, vi n, vi c0, vi c1, vi c2, vi c3, vr b0, vr s0, .unset] [])) := fun t k => pre590 t (by
        refine XS.ifYes X588.here hx rfl (pc0 := 169) (pc' := 218) rfl (hb hby at_169) rfl ((if0 _ _).trans (teq hc169_589).1) (by decide) (by decide) ?_
        refine XS.iconst X588.here hx rfl (hb hby at_218) ?_
        refine XS.istore X588.here hx rfl (hb hby at_219) rfl (l' := #[vi p0, vi p1, vi p2, vi p3, vi p4, vi n, vi c0, vi c1, vi c2, vi c3, vr b0, vr s0, vi 0]) rfl ?_
        exact k)
      obtain ⟨s₂, o₂, h1₂, h2₂, h3₂, v₂, L₂, rfl, ⟨hv₂, N₂, -⟩, hE₂⟩ := sg_s221 (l := l) (s := s) hw p0 p1 p2 p3 p4 n c0 c1 c2 c3 b0 s0 (0 : Int32) cs kc fm Z0 HS hl4 S_cs hkc S_fm hfm S_ad S_hi S_lo (vm0 := vm0) X588 hx hZ hby hml hown hret (by first | assumption | exact BodyLoose.notSynchronized (by assumption)) e588 N588 hS0 hk0 (CHr.refl CH0.1)
      refine ⟨s₂, _, pre591 _ h1₂, h2₂, h3₂, v₂, L₂, rfl, ⟨?_, N₂, trivial⟩, hE₂⟩
      rw [hv₂, F_s158, if_neg hc161_585, if_pos hc169_589]
    · have pre593 : PT p e below (T588.setTop (mkF m 175 #[vi p0, vi p1, vi p2, vi p3, vi p4, vi n, vi c0, vi c1, vi c2, vi c3, vr b0, vr s0, .unset] [(.int 2), (.int n)])) (T0.setTop (mkF m 158 #[vi p0, vi p1, vi p2, vi p3, vi p4, vi n, vi c0, vi c1, vi c2, vi c3, vr b0, vr s0, .unset] [])) := fun t k => pre590 t (by
        refine XS.ifNo X588.here hx rfl (hb hby at_169) rfl ((if0 _ _).trans (feq hc169_589).1) ?_
        refine XS.iload X588.here hx rfl (hb hby at_172) rfl ?_
        refine XS.iconst X588.here hx rfl (hb hby at_174) ?_
        exact k)
      by_cases hc175_592 : n < (2 : Int32)
      · have pre595 : PT p e below (T588.setTop (mkF m 189 #[vi p0, vi p1, vi p2, vi p3, vi p4, vi n, vi c0, vi c1, vi c2, vi c3, vr b0, vr s0, .unset] [(.int 3), (.int n)])) (T0.setTop (mkF m 158 #[vi p0, vi p1, vi p2, vi p3, vi p4, vi n, vi c0, vi c1, vi c2, vi c3, vr b0, vr s0, .unset] [])) := fun t k => pre593 t (by
          refine XS.icmpYes X588.here hx rfl (pc0 := 175) (pc' := 186) rfl (hb hby at_175) rfl (tlt hc175_592).1 (by decide) (by decide) ?_
          refine XS.iload X588.here hx rfl (hb hby at_186) rfl ?_
          refine XS.iconst X588.here hx rfl (hb hby at_188) ?_
          exact k)
        by_cases hc189_594 : n < (3 : Int32)
        · have pre597 : PT p e below (T588.setTop (mkF m 203 #[vi p0, vi p1, vi p2, vi p3, vi p4, vi n, vi c0, vi c1, vi c2, vi c3, vr b0, vr s0, .unset] [(.int 4), (.int n)])) (T0.setTop (mkF m 158 #[vi p0, vi p1, vi p2, vi p3, vi p4, vi n, vi c0, vi c1, vi c2, vi c3, vr b0, vr s0, .unset] [])) := fun t k => pre595 t (by
            refine XS.icmpYes X588.here hx rfl (pc0 := 189) (pc' := 200) rfl (hb hby at_189) rfl (tlt hc189_594).1 (by decide) (by decide) ?_
            refine XS.iload X588.here hx rfl (hb hby at_200) rfl ?_
            refine XS.iconst X588.here hx rfl (hb hby at_202) ?_
            exact k)
          by_cases hc203_596 : n < (4 : Int32)
          · have pre598 : PT p e below (T588.setTop (mkF m 221 #[vi p0, vi p1, vi p2, vi p3, vi p4, vi n, vi c0, vi c1, vi c2, vi c3, vr b0, vr s0, vi 1] [])) (T0.setTop (mkF m 158 #[vi p0, vi p1, vi p2, vi p3, vi p4, vi n, vi c0, vi c1, vi c2, vi c3, vr b0, vr s0, .unset] [])) := fun t k => pre597 t (by
              refine XS.icmpYes X588.here hx rfl (pc0 := 203) (pc' := 214) rfl (hb hby at_203) rfl (tlt hc203_596).1 (by decide) (by decide) ?_
              refine XS.iconst X588.here hx rfl (hb hby at_214) ?_
              refine XS.goto X588.here hx rfl (pc0 := 215) (pc' := 219) rfl (hb hby at_215) (by decide) (by decide) ?_
              refine XS.istore X588.here hx rfl (hb hby at_219) rfl (l' := #[vi p0, vi p1, vi p2, vi p3, vi p4, vi n, vi c0, vi c1, vi c2, vi c3, vr b0, vr s0, vi 1]) rfl ?_
              exact k)
            obtain ⟨s₂, o₂, h1₂, h2₂, h3₂, v₂, L₂, rfl, ⟨hv₂, N₂, -⟩, hE₂⟩ := sg_s221 (l := l) (s := s) hw p0 p1 p2 p3 p4 n c0 c1 c2 c3 b0 s0 (1 : Int32) cs kc fm Z0 HS hl4 S_cs hkc S_fm hfm S_ad S_hi S_lo (vm0 := vm0) X588 hx hZ hby hml hown hret (by first | assumption | exact BodyLoose.notSynchronized (by assumption)) e588 N588 hS0 hk0 (CHr.refl CH0.1)
            refine ⟨s₂, _, pre598 _ h1₂, h2₂, h3₂, v₂, L₂, rfl, ⟨?_, N₂, trivial⟩, hE₂⟩
            rw [hv₂, F_s158, if_neg hc161_585, if_neg hc169_589, if_pos hc175_592, if_pos hc189_594, if_pos hc203_596]
          · obtain ⟨_, _, ⟨T599, L599, k599, n599⟩, -, X599, ⟨Lc599, hQ599, l599, y599, z599⟩, st599⟩ := Jvm.LawKit.callS X588 hx (y := nm22) hown (mvT hZ (ow hw 49 rfl)) (mvT hZ (ow hw 50 rfl)) (mvT hZ (ow hw 51 rfl)) (mvT hZ (ow hw 52 rfl)) (by decide) (backOf (W := 0) (rm_aln l Z a0' hw [] c3 h0 n0 Z0) hZ (ow hw 52 rfl) (ow hw 51 rfl) (by decide) (by decide)) (g := (mkF m 208 #[vi p0, vi p1, vi p2, vi p3, vi p4, vi n, vi c0, vi c1, vi c2, vi c3, vr b0, vr s0, .unset] [(.int c3)])) rfl (by rw [hml]; rfl) (argsL := [(.int c3)]) (rest := []) (lenOf own_pd19 rfl) rfl (by show 2 * 0 + _ ≤ _; exact Nat.le_of_eq rfl) (hb hby at_208) (fun _ _ => ⟨rfl, e588, (by decide : 9 + 0 ≤ _), (by decide : 99 + 0 ≤ _)⟩)
            dsimp only [Pt.U, Pt.locs, Pt.cells, Pt.slots] at X599 l599 y599 z599 st599 hQ599
            subst l599 y599 z599
            obtain ⟨rfl, N599q, e599⟩ := hQ599
            have N599 := Fr.app N588 N599q
            have pre601 : PT p e below (T599.setTop (mkF m 211 #[vi p0, vi p1, vi p2, vi p3, vi p4, vi n, vi c0, vi c1, vi c2, vi c3, vr b0, vr s0, .unset] [(.int (F_aln c3))])) (T0.setTop (mkF m 158 #[vi p0, vi p1, vi p2, vi p3, vi p4, vi n, vi c0, vi c1, vi c2, vi c3, vr b0, vr s0, .unset] [])) := fun t k => pre597 t (by
              refine XS.icmpNo X588.here hx rfl (hb hby at_203) rfl (flt hc203_596).1 ?_
              refine XS.iload X588.here hx rfl (hb hby at_206) rfl ?_
              refine st599 _ ?_
              exact k)
            by_cases hc211_600 : (F_aln c3) = (0 : Int32)
            · have pre602 : PT p e below (T599.setTop (mkF m 221 #[vi p0, vi p1, vi p2, vi p3, vi p4, vi n, vi c0, vi c1, vi c2, vi c3, vr b0, vr s0, vi 0] [])) (T0.setTop (mkF m 158 #[vi p0, vi p1, vi p2, vi p3, vi p4, vi n, vi c0, vi c1, vi c2, vi c3, vr b0, vr s0, .unset] [])) := fun t k => pre601 t (by
                refine XS.ifYes X599.here hx rfl (pc0 := 211) (pc' := 218) rfl (hb hby at_211) rfl ((if0 _ _).trans (teq hc211_600).1) (by decide) (by decide) ?_
                refine XS.iconst X599.here hx rfl (hb hby at_218) ?_
                refine XS.istore X599.here hx rfl (hb hby at_219) rfl (l' := #[vi p0, vi p1, vi p2, vi p3, vi p4, vi n, vi c0, vi c1, vi c2, vi c3, vr b0, vr s0, vi 0]) rfl ?_
                exact k)
              obtain ⟨s₂, o₂, h1₂, h2₂, h3₂, v₂, L₂, rfl, ⟨hv₂, N₂, -⟩, hE₂⟩ := sg_s221 (l := l) (s := s) hw p0 p1 p2 p3 p4 n c0 c1 c2 c3 b0 s0 (0 : Int32) cs kc fm Z0 HS hl4 S_cs hkc S_fm hfm S_ad S_hi S_lo (vm0 := vm0) X599 hx hZ hby hml hown hret (by first | assumption | exact BodyLoose.notSynchronized (by assumption)) e599 N599 hS0 hk0 (CHr.refl CH0.1)
              refine ⟨s₂, _, pre602 _ h1₂, h2₂, h3₂, v₂, L₂, rfl, ⟨?_, N₂, trivial⟩, hE₂⟩
              rw [hv₂, F_s158, if_neg hc161_585, if_neg hc169_589, if_pos hc175_592, if_pos hc189_594, if_neg hc203_596, if_pos hc211_600]
            · have pre603 : PT p e below (T599.setTop (mkF m 221 #[vi p0, vi p1, vi p2, vi p3, vi p4, vi n, vi c0, vi c1, vi c2, vi c3, vr b0, vr s0, vi 1] [])) (T0.setTop (mkF m 158 #[vi p0, vi p1, vi p2, vi p3, vi p4, vi n, vi c0, vi c1, vi c2, vi c3, vr b0, vr s0, .unset] [])) := fun t k => pre601 t (by
                refine XS.ifNo X599.here hx rfl (hb hby at_211) rfl ((if0 _ _).trans (feq hc211_600).1) ?_
                refine XS.iconst X599.here hx rfl (hb hby at_214) ?_
                refine XS.goto X599.here hx rfl (pc0 := 215) (pc' := 219) rfl (hb hby at_215) (by decide) (by decide) ?_
                refine XS.istore X599.here hx rfl (hb hby at_219) rfl (l' := #[vi p0, vi p1, vi p2, vi p3, vi p4, vi n, vi c0, vi c1, vi c2, vi c3, vr b0, vr s0, vi 1]) rfl ?_
                exact k)
              obtain ⟨s₂, o₂, h1₂, h2₂, h3₂, v₂, L₂, rfl, ⟨hv₂, N₂, -⟩, hE₂⟩ := sg_s221 (l := l) (s := s) hw p0 p1 p2 p3 p4 n c0 c1 c2 c3 b0 s0 (1 : Int32) cs kc fm Z0 HS hl4 S_cs hkc S_fm hfm S_ad S_hi S_lo (vm0 := vm0) X599 hx hZ hby hml hown hret (by first | assumption | exact BodyLoose.notSynchronized (by assumption)) e599 N599 hS0 hk0 (CHr.refl CH0.1)
              refine ⟨s₂, _, pre603 _ h1₂, h2₂, h3₂, v₂, L₂, rfl, ⟨?_, N₂, trivial⟩, hE₂⟩
              rw [hv₂, F_s158, if_neg hc161_585, if_neg hc169_589, if_pos hc175_592, if_pos hc189_594, if_neg hc203_596, if_neg hc211_600]
        · obtain ⟨_, _, ⟨T604, L604, k604, n604⟩, -, X604, ⟨Lc604, hQ604, l604, y604, z604⟩, st604⟩ := Jvm.LawKit.callS X588 hx (y := nm22) hown (mvT hZ (ow hw 49 rfl)) (mvT hZ (ow hw 50 rfl)) (mvT hZ (ow hw 51 rfl)) (mvT hZ (ow hw 52 rfl)) (by decide) (backOf (W := 0) (rm_aln l Z a0' hw [] c2 h0 n0 Z0) hZ (ow hw 52 rfl) (ow hw 51 rfl) (by decide) (by decide)) (g := (mkF m 194 #[vi p0, vi p1, vi p2, vi p3, vi p4, vi n, vi c0, vi c1, vi c2, vi c3, vr b0, vr s0, .unset] [(.int c2)])) rfl (by rw [hml]; rfl) (argsL := [(.int c2)]) (rest := []) (lenOf own_pd19 rfl) rfl (by show 2 * 0 + _ ≤ _; exact Nat.le_of_eq rfl) (hb hby at_194) (fun _ _ => ⟨rfl, e588, (by decide : 9 + 0 ≤ _), (by decide : 99 + 0 ≤ _)⟩)
          dsimp only [Pt.U, Pt.locs, Pt.cells, Pt.slots] at X604 l604 y604 z604 st604 hQ604
          subst l604 y604 z604
          obtain ⟨rfl, N604q, e604⟩ := hQ604
          have N604 := Fr.app N588 N604q
          have pre606 : PT p e below (T604.setTop (mkF m 197 #[vi p0, vi p1, vi p2, vi p3, vi p4, vi n, vi c0, vi c1, vi c2, vi c3, vr b0, vr s0, .unset] [(.int (F_aln c2))])) (T0.setTop (mkF m 158 #[vi p0, vi p1, vi p2, vi p3, vi p4, vi n, vi c0, vi c1, vi c2, vi c3, vr b0, vr s0, .unset] [])) := fun t k => pre595 t (by
            refine XS.icmpNo X588.here hx rfl (hb hby at_189) rfl (flt hc189_594).1 ?_
            refine XS.iload X588.here hx rfl (hb hby at_192) rfl ?_
            refine st604 _ ?_
            exact k)
          by_cases hc197_605 : (F_aln c2) = (0 : Int32)
          · have pre607 : PT p e below (T604.setTop (mkF m 221 #[vi p0, vi p1, vi p2, vi p3, vi p4, vi n, vi c0, vi c1, vi c2, vi c3, vr b0, vr s0, vi 0] [])) (T0.setTop (mkF m 158 #[vi p0, vi p1, vi p2, vi p3, vi p4, vi n, vi c0, vi c1, vi c2, vi c3, vr b0, vr s0, .unset] [])) := fun t k => pre606 t (by
              refine XS.ifYes X604.here hx rfl (pc0 := 197) (pc' := 218) rfl (hb hby at_197) rfl ((if0 _ _).trans (teq hc197_605).1) (by decide) (by decide) ?_
              refine XS.iconst X604.here hx rfl (hb hby at_218) ?_
              refine XS.istore X604.here hx rfl (hb hby at_219) rfl (l' := #[vi p0, vi p1, vi p2, vi p3, vi p4, vi n, vi c0, vi c1, vi c2, vi c3, vr b0, vr s0, vi 0]) rfl ?_
              exact k)
            obtain ⟨s₂, o₂, h1₂, h2₂, h3₂, v₂, L₂, rfl, ⟨hv₂, N₂, -⟩, hE₂⟩ := sg_s221 (l := l) (s := s) hw p0 p1 p2 p3 p4 n c0 c1 c2 c3 b0 s0 (0 : Int32) cs kc fm Z0 HS hl4 S_cs hkc S_fm hfm S_ad S_hi S_lo (vm0 := vm0) X604 hx hZ hby hml hown hret (by first | assumption | exact BodyLoose.notSynchronized (by assumption)) e604 N604 hS0 hk0 (CHr.refl CH0.1)
            refine ⟨s₂, _, pre607 _ h1₂, h2₂, h3₂, v₂, L₂, rfl, ⟨?_, N₂, trivial⟩, hE₂⟩
            rw [hv₂, F_s158, if_neg hc161_585, if_neg hc169_589, if_pos hc175_592, if_neg hc189_594, if_pos hc197_605]
          · have pre609 : PT p e below (T604.setTop (mkF m 203 #[vi p0, vi p1, vi p2, vi p3, vi p4, vi n, vi c0, vi c1, vi c2, vi c3, vr b0, vr s0, .unset] [(.int 4), (.int n)])) (T0.setTop (mkF m 158 #[vi p0, vi p1, vi p2, vi p3, vi p4, vi n, vi c0, vi c1, vi c2, vi c3, vr b0, vr s0, .unset] [])) := fun t k => pre606 t (by
              refine XS.ifNo X604.here hx rfl (hb hby at_197) rfl ((if0 _ _).trans (feq hc197_605).1) ?_
              refine XS.iload X604.here hx rfl (hb hby at_200) rfl ?_
              refine XS.iconst X604.here hx rfl (hb hby at_202) ?_
              exact k)
            by_cases hc203_608 : n < (4 : Int32)
            · have pre610 : PT p e below (T604.setTop (mkF m 221 #[vi p0, vi p1, vi p2, vi p3, vi p4, vi n, vi c0, vi c1, vi c2, vi c3, vr b0, vr s0, vi 1] [])) (T0.setTop (mkF m 158 #[vi p0, vi p1, vi p2, vi p3, vi p4, vi n, vi c0, vi c1, vi c2, vi c3, vr b0, vr s0, .unset] [])) := fun t k => pre609 t (by
                refine XS.icmpYes X604.here hx rfl (pc0 := 203) (pc' := 214) rfl (hb hby at_203) rfl (tlt hc203_608).1 (by decide) (by decide) ?_
                refine XS.iconst X604.here hx rfl (hb hby at_214) ?_
                refine XS.goto X604.here hx rfl (pc0 := 215) (pc' := 219) rfl (hb hby at_215) (by decide) (by decide) ?_
                refine XS.istore X604.here hx rfl (hb hby at_219) rfl (l' := #[vi p0, vi p1, vi p2, vi p3, vi p4, vi n, vi c0, vi c1, vi c2, vi c3, vr b0, vr s0, vi 1]) rfl ?_
                exact k)
              obtain ⟨s₂, o₂, h1₂, h2₂, h3₂, v₂, L₂, rfl, ⟨hv₂, N₂, -⟩, hE₂⟩ := sg_s221 (l := l) (s := s) hw p0 p1 p2 p3 p4 n c0 c1 c2 c3 b0 s0 (1 : Int32) cs kc fm Z0 HS hl4 S_cs hkc S_fm hfm S_ad S_hi S_lo (vm0 := vm0) X604 hx hZ hby hml hown hret (by first | assumption | exact BodyLoose.notSynchronized (by assumption)) e604 N604 hS0 hk0 (CHr.refl CH0.1)
              refine ⟨s₂, _, pre610 _ h1₂, h2₂, h3₂, v₂, L₂, rfl, ⟨?_, N₂, trivial⟩, hE₂⟩
              rw [hv₂, F_s158, if_neg hc161_585, if_neg hc169_589, if_pos hc175_592, if_neg hc189_594, if_neg hc197_605, if_pos hc203_608]
            · obtain ⟨_, _, ⟨T611, L611, k611, n611⟩, -, X611, ⟨Lc611, hQ611, l611, y611, z611⟩, st611⟩ := Jvm.LawKit.callS X604 hx (y := nm22) hown (mvT hZ (ow hw 49 rfl)) (mvT hZ (ow hw 50 rfl)) (mvT hZ (ow hw 51 rfl)) (mvT hZ (ow hw 52 rfl)) (by decide) (backOf (W := 0) (rm_aln l Z a0' hw [] c3 h0 n0 Z0) hZ (ow hw 52 rfl) (ow hw 51 rfl) (by decide) (by decide)) (g := (mkF m 208 #[vi p0, vi p1, vi p2, vi p3, vi p4, vi n, vi c0, vi c1, vi c2, vi c3, vr b0, vr s0, .unset] [(.int c3)])) rfl (by rw [hml]; rfl) (argsL := [(.int c3)]) (rest := []) (lenOf own_pd19 rfl) rfl (by show 2 * 0 + _ ≤ _; exact Nat.le_of_eq rfl) (hb hby at_208) (fun _ _ => ⟨rfl, e604, (by decide : 9 + 0 ≤ _), (by decide : 99 + 0 ≤ _)⟩)
              dsimp only [Pt.U, Pt.locs, Pt.cells, Pt.slots] at X611 l611 y611 z611 st611 hQ611
              subst l611 y611 z611
              obtain ⟨rfl, N611q, e611⟩ := hQ611
              have N611 := Fr.app N604 N611q
              have pre613 : PT p e below (T611.setTop (mkF m 211 #[vi p0, vi p1, vi p2, vi p3, vi p4, vi n, vi c0, vi c1, vi c2, vi c3, vr b0, vr s0, .unset] [(.int (F_aln c3))])) (T0.setTop (mkF m 158 #[vi p0, vi p1, vi p2, vi p3, vi p4, vi n, vi c0, vi c1, vi c2, vi c3, vr b0, vr s0, .unset] [])) := fun t k => pre609 t (by
                refine XS.icmpNo X604.here hx rfl (hb hby at_203) rfl (flt hc203_608).1 ?_
                refine XS.iload X604.here hx rfl (hb hby at_206) rfl ?_
                refine st611 _ ?_
                exact k)
              by_cases hc211_612 : (F_aln c3) = (0 : Int32)
              · have pre614 : PT p e below (T611.setTop (mkF m 221 #[vi p0, vi p1, vi p2, vi p3, vi p4, vi n, vi c0, vi c1, vi c2, vi c3, vr b0, vr s0, vi 0] [])) (T0.setTop (mkF m 158 #[vi p0, vi p1, vi p2, vi p3, vi p4, vi n, vi c0, vi c1, vi c2, vi c3, vr b0, vr s0, .unset] [])) := fun t k => pre613 t (by
                  refine XS.ifYes X611.here hx rfl (pc0 := 211) (pc' := 218) rfl (hb hby at_211) rfl ((if0 _ _).trans (teq hc211_612).1) (by decide) (by decide) ?_
                  refine XS.iconst X611.here hx rfl (hb hby at_218) ?_
                  refine XS.istore X611.here hx rfl (hb hby at_219) rfl (l' := #[vi p0, vi p1, vi p2, vi p3, vi p4, vi n, vi c0, vi c1, vi c2, vi c3, vr b0, vr s0, vi 0]) rfl ?_
                  exact k)
                obtain ⟨s₂, o₂, h1₂, h2₂, h3₂, v₂, L₂, rfl, ⟨hv₂, N₂, -⟩, hE₂⟩ := sg_s221 (l := l) (s := s) hw p0 p1 p2 p3 p4 n c0 c1 c2 c3 b0 s0 (0 : Int32) cs kc fm Z0 HS hl4 S_cs hkc S_fm hfm S_ad S_hi S_lo (vm0 := vm0) X611 hx hZ hby hml hown hret (by first | assumption | exact BodyLoose.notSynchronized (by assumption)) e611 N611 hS0 hk0 (CHr.refl CH0.1)
                refine ⟨s₂, _, pre614 _ h1₂, h2₂, h3₂, v₂, L₂, rfl, ⟨?_, N₂, trivial⟩, hE₂⟩
                rw [hv₂, F_s158, if_neg hc161_585, if_neg hc169_589, if_pos hc175_592, if_neg hc189_594, if_neg hc197_605, if_neg hc203_608, if_pos hc211_612]
              · have pre615 : PT p e below (T611.setTop (mkF m 221 #[vi p0, vi p1, vi p2, vi p3, vi p4, vi n, vi c0, vi c1, vi c2, vi c3, vr b0, vr s0, vi 1] [])) (T0.setTop (mkF m 158 #[vi p0, vi p1, vi p2, vi p3, vi p4, vi n, vi c0, vi c1, vi c2, vi c3, vr b0, vr s0, .unset] [])) := fun t k => pre613 t (by
                  refine XS.ifNo X611.here hx rfl (hb hby at_211) rfl ((if0 _ _).trans (feq hc211_612).1) ?_
                  refine XS.iconst X611.here hx rfl (hb hby at_214) ?_
                  refine XS.goto X611.here hx rfl (pc0 := 215) (pc' := 219) rfl (hb hby at_215) (by decide) (by decide) ?_
                  refine XS.istore X611.here hx rfl (hb hby at_219) rfl (l' := #[vi p0, vi p1, vi p2, vi p3, vi p4, vi n, vi c0, vi c1, vi c2, vi c3, vr b0, vr s0, vi 1]) rfl ?_
                  exact k)
                obtain ⟨s₂, o₂, h1₂, h2₂, h3₂, v₂, L₂, rfl, ⟨hv₂, N₂, -⟩, hE₂⟩ := sg_s221 (l := l) (s := s) hw p0 p1 p2 p3 p4 n c0 c1 c2 c3 b0 s0 (1 : Int32) cs kc fm Z0 HS hl4 S_cs hkc S_fm hfm S_ad S_hi S_lo (vm0 := vm0) X611 hx hZ hby hml hown hret (by first | assumption | exact BodyLoose.notSynchronized (by assumption)) e611 N611 hS0 hk0 (CHr.refl CH0.1)
                refine ⟨s₂, _, pre615 _ h1₂, h2₂, h3₂, v₂, L₂, rfl, ⟨?_, N₂, trivial⟩, hE₂⟩
                rw [hv₂, F_s158, if_neg hc161_585, if_neg hc169_589, if_pos hc175_592, if_neg hc189_594, if_neg hc197_605, if_neg hc203_608, if_neg hc211_612]
      · obtain ⟨_, _, ⟨T616, L616, k616, n616⟩, -, X616, ⟨Lc616, hQ616, l616, y616, z616⟩, st616⟩ := Jvm.LawKit.callS X588 hx (y := nm22) hown (mvT hZ (ow hw 49 rfl)) (mvT hZ (ow hw 50 rfl)) (mvT hZ (ow hw 51 rfl)) (mvT hZ (ow hw 52 rfl)) (by decide) (backOf (W := 0) (rm_aln l Z a0' hw [] c1 h0 n0 Z0) hZ (ow hw 52 rfl) (ow hw 51 rfl) (by decide) (by decide)) (g := (mkF m 180 #[vi p0, vi p1, vi p2, vi p3, vi p4, vi n, vi c0, vi c1, vi c2, vi c3, vr b0, vr s0, .unset] [(.int c1)])) rfl (by rw [hml]; rfl) (argsL := [(.int c1)]) (rest := []) (lenOf own_pd19 rfl) rfl (by show 2 * 0 + _ ≤ _; exact Nat.le_of_eq rfl) (hb hby at_180) (fun _ _ => ⟨rfl, e588, (by decide : 9 + 0 ≤ _), (by decide : 99 + 0 ≤ _)⟩)
        dsimp only [Pt.U, Pt.locs, Pt.cells, Pt.slots] at X616 l616 y616 z616 st616 hQ616
        subst l616 y616 z616
        obtain ⟨rfl, N616q, e616⟩ := hQ616
        have N616 := Fr.app N588 N616q
        have pre618 : PT p e below (T616.setTop (mkF m 183 #[vi p0, vi p1, vi p2, vi p3, vi p4, vi n, vi c0, vi c1, vi c2, vi c3, vr b0, vr s0, .unset] [(.int (F_aln c1))])) (T0.setTop (mkF m 158 #[vi p0, vi p1, vi p2, vi p3, vi p4, vi n, vi c0, vi c1, vi c2, vi c3, vr b0, vr s0, .unset] [])) := fun t k => pre593 t (by
          refine XS.icmpNo X588.here hx rfl (hb hby at_175) rfl (flt hc175_592).1 ?_
          refine XS.iload X588.here hx rfl (hb hby at_178) rfl ?_
          refine st616 _ ?_
          exact k)
        by_cases hc183_617 : (F_aln c1) = (0 : Int32)
        · have pre619 : PT p e below (T616.setTop (mkF m 221 #[vi p0, vi p1, vi p2, vi p3, vi p4, vi n, vi c0, vi c1, vi c2, vi c3, vr b0, vr s0, vi 0] [])) (T0.setTop (mkF m 158 #[vi p0, vi p1, vi p2, vi p3, vi p4, vi n, vi c0, vi c1, vi c2, vi c3, vr b0, vr s0, .unset] [])) := fun t k => pre618 t (by
            refine XS.ifYes X616.here hx rfl (pc0 := 183) (pc' := 218) rfl (hb hby at_183) rfl ((if0 _ _).trans (teq hc183_617).1) (by decide) (by decide) ?_
            refine XS.iconst X616.here hx rfl (hb hby at_218) ?_
            refine XS.istore X616.here hx rfl (hb hby at_219) rfl (l' := #[vi p0, vi p1, vi p2, vi p3, vi p4, vi n, vi c0, vi c1, vi c2, vi c3, vr b0, vr s0, vi 0]) rfl ?_
            exact k)
          obtain ⟨s₂, o₂, h1₂, h2₂, h3₂, v₂, L₂, rfl, ⟨hv₂, N₂, -⟩, hE₂⟩ := sg_s221 (l := l) (s := s) hw p0 p1 p2 p3 p4 n c0 c1 c2 c3 b0 s0 (0 : Int32) cs kc fm Z0 HS hl4 S_cs hkc S_fm hfm S_ad S_hi S_lo (vm0 := vm0) X616 hx hZ hby hml hown hret (by first | assumption | exact BodyLoose.notSynchronized (by assumption)) e616 N616 hS0 hk0 (CHr.refl CH0.1)
          refine ⟨s₂, _, pre619 _ h1₂, h2₂, h3₂, v₂, L₂, rfl, ⟨?_, N₂, trivial⟩, hE₂⟩
          rw [hv₂, F_s158, if_neg hc161_585, if_neg hc169_589, if_neg hc175_592, if_pos hc183_617]
        · have pre621 : PT p e below (T616.setTop (mkF m 189 #[vi p0, vi p1, vi p2, vi p3, vi p4, vi n, vi c0, vi c1, vi c2, vi c3, vr b0, vr s0, .unset] [(.int 3), (.int n)])) (T0.setTop (mkF m 158 #[vi p0, vi p1, vi p2, vi p3, vi p4, vi n, vi c0, vi c1, vi c2, vi c3, vr b0, vr s0, .unset] [])) := fun t k => pre618 t (by
            refine XS.ifNo X616.here hx rfl (hb hby at_183) rfl ((if0 _ _).trans (feq hc183_617).1) ?_
            refine XS.iload X616.here hx rfl (hb hby at_186) rfl ?_
            refine XS.iconst X616.here hx rfl (hb hby at_188) ?_
            exact k)
          by_cases hc189_620 : n < (3 : Int32)
          · have pre623 : PT p e below (T616.setTop (mkF m 203 #[vi p0, vi p1, vi p2, vi p3, vi p4, vi n, vi c0, vi c1, vi c2, vi c3, vr b0, vr s0, .unset] [(.int 4), (.int n)])) (T0.setTop (mkF m 158 #[vi p0, vi p1, vi p2, vi p3, vi p4, vi n, vi c0, vi c1, vi c2, vi c3, vr b0, vr s0, .unset] [])) := fun t k => pre621 t (by
              refine XS.icmpYes X616.here hx rfl (pc0 := 189) (pc' := 200) rfl (hb hby at_189) rfl (tlt hc189_620).1 (by decide) (by decide) ?_
              refine XS.iload X616.here hx rfl (hb hby at_200) rfl ?_
              refine XS.iconst X616.here hx rfl (hb hby at_202) ?_
              exact k)
            by_cases hc203_622 : n < (4 : Int32)
            · have pre624 : PT p e below (T616.setTop (mkF m 221 #[vi p0, vi p1, vi p2, vi p3, vi p4, vi n, vi c0, vi c1, vi c2, vi c3, vr b0, vr s0, vi 1] [])) (T0.setTop (mkF m 158 #[vi p0, vi p1, vi p2, vi p3, vi p4, vi n, vi c0, vi c1, vi c2, vi c3, vr b0, vr s0, .unset] [])) := fun t k => pre623 t (by
                refine XS.icmpYes X616.here hx rfl (pc0 := 203) (pc' := 214) rfl (hb hby at_203) rfl (tlt hc203_622).1 (by decide) (by decide) ?_
                refine XS.iconst X616.here hx rfl (hb hby at_214) ?_
                refine XS.goto X616.here hx rfl (pc0 := 215) (pc' := 219) rfl (hb hby at_215) (by decide) (by decide) ?_
                refine XS.istore X616.here hx rfl (hb hby at_219) rfl (l' := #[vi p0, vi p1, vi p2, vi p3, vi p4, vi n, vi c0, vi c1, vi c2, vi c3, vr b0, vr s0, vi 1]) rfl ?_
                exact k)
              obtain ⟨s₂, o₂, h1₂, h2₂, h3₂, v₂, L₂, rfl, ⟨hv₂, N₂, -⟩, hE₂⟩ := sg_s221 (l := l) (s := s) hw p0 p1 p2 p3 p4 n c0 c1 c2 c3 b0 s0 (1 : Int32) cs kc fm Z0 HS hl4 S_cs hkc S_fm hfm S_ad S_hi S_lo (vm0 := vm0) X616 hx hZ hby hml hown hret (by first | assumption | exact BodyLoose.notSynchronized (by assumption)) e616 N616 hS0 hk0 (CHr.refl CH0.1)
              refine ⟨s₂, _, pre624 _ h1₂, h2₂, h3₂, v₂, L₂, rfl, ⟨?_, N₂, trivial⟩, hE₂⟩
              rw [hv₂, F_s158, if_neg hc161_585, if_neg hc169_589, if_neg hc175_592, if_neg hc183_617, if_pos hc189_620, if_pos hc203_622]
            · obtain ⟨_, _, ⟨T625, L625, k625, n625⟩, -, X625, ⟨Lc625, hQ625, l625, y625, z625⟩, st625⟩ := Jvm.LawKit.callS X616 hx (y := nm22) hown (mvT hZ (ow hw 49 rfl)) (mvT hZ (ow hw 50 rfl)) (mvT hZ (ow hw 51 rfl)) (mvT hZ (ow hw 52 rfl)) (by decide) (backOf (W := 0) (rm_aln l Z a0' hw [] c3 h0 n0 Z0) hZ (ow hw 52 rfl) (ow hw 51 rfl) (by decide) (by decide)) (g := (mkF m 208 #[vi p0, vi p1, vi p2, vi p3, vi p4, vi n, vi c0, vi c1, vi c2, vi c3, vr b0, vr s0, .unset] [(.int c3)])) rfl (by rw [hml]; rfl) (argsL := [(.int c3)]) (rest := []) (lenOf own_pd19 rfl) rfl (by show 2 * 0 + _ ≤ _; exact Nat.le_of_eq rfl) (hb hby at_208) (fun _ _ => ⟨rfl, e616, (by decide : 9 + 0 ≤ _), (by decide : 99 + 0 ≤ _)⟩)
              dsimp only [Pt.U, Pt.locs, Pt.cells, Pt.slots] at X625 l625 y625 z625 st625 hQ625
              subst l625 y625 z625
              obtain ⟨rfl, N625q, e625⟩ := hQ625
              have N625 := Fr.app N616 N625q
              have pre627 : PT p e below (T625.setTop (mkF m 211 #[vi p0, vi p1, vi p2, vi p3, vi p4, vi n, vi c0, vi c1, vi c2, vi c3, vr b0, vr s0, .unset] [(.int (F_aln c3))])) (T0.setTop (mkF m 158 #[vi p0, vi p1, vi p2, vi p3, vi p4, vi n, vi c0, vi c1, vi c2, vi c3, vr b0, vr s0, .unset] [])) := fun t k => pre623 t (by
                refine XS.icmpNo X616.here hx rfl (hb hby at_203) rfl (flt hc203_622).1 ?_
                refine XS.iload X616.here hx rfl (hb hby at_206) rfl ?_
                refine st625 _ ?_
                exact k)
              by_cases hc211_626 : (F_aln c3) = (0 : Int32)
              · have pre628 : PT p e below (T625.setTop (mkF m 221 #[vi p0, vi p1, vi p2, vi p3, vi p4, vi n, vi c0, vi c1, vi c2, vi c3, vr b0, vr s0, vi 0] [])) (T0.setTop (mkF m 158 #[vi p0, vi p1, vi p2, vi p3, vi p4, vi n, vi c0, vi c1, vi c2, vi c3, vr b0, vr s0, .unset] [])) := fun t k => pre627 t (by
                  refine XS.ifYes X625.here hx rfl (pc0 := 211) (pc' := 218) rfl (hb hby at_211) rfl ((if0 _ _).trans (teq hc211_626).1) (by decide) (by decide) ?_
                  refine XS.iconst X625.here hx rfl (hb hby at_218) ?_
                  refine XS.istore X625.here hx rfl (hb hby at_219) rfl (l' := #[vi p0, vi p1, vi p2, vi p3, vi p4, vi n, vi c0, vi c1, vi c2, vi c3, vr b0, vr s0, vi 0]) rfl ?_
                  exact k)
                obtain ⟨s₂, o₂, h1₂, h2₂, h3₂, v₂, L₂, rfl, ⟨hv₂, N₂, -⟩, hE₂⟩ := sg_s221 (l := l) (s := s) hw p0 p1 p2 p3 p4 n c0 c1 c2 c3 b0 s0 (0 : Int32) cs kc fm Z0 HS hl4 S_cs hkc S_fm hfm S_ad S_hi S_lo (vm0 := vm0) X625 hx hZ hby hml hown hret (by first | assumption | exact BodyLoose.notSynchronized (by assumption)) e625 N625 hS0 hk0 (CHr.refl CH0.1)
                refine ⟨s₂, _, pre628 _ h1₂, h2₂, h3₂, v₂, L₂, rfl, ⟨?_, N₂, trivial⟩, hE₂⟩
                rw [hv₂, F_s158, if_neg hc161_585, if_neg hc169_589, if_neg hc175_592, if_neg hc183_617, if_pos hc189_620, if_neg hc203_622, if_pos hc211_626]
              · have pre629 : PT p e below (T625.setTop (mkF m 221 #[vi p0, vi p1, vi p2, vi p3, vi p4, vi n, vi c0, vi c1, vi c2, vi c3, vr b0, vr s0, vi 1] [])) (T0.setTop (mkF m 158 #[vi p0, vi p1, vi p2, vi p3, vi p4, vi n, vi c0, vi c1, vi c2, vi c3, vr b0, vr s0, .unset] [])) := fun t k => pre627 t (by
                  refine XS.ifNo X625.here hx rfl (hb hby at_211) rfl ((if0 _ _).trans (feq hc211_626).1) ?_
                  refine XS.iconst X625.here hx rfl (hb hby at_214) ?_
                  refine XS.goto X625.here hx rfl (pc0 := 215) (pc' := 219) rfl (hb hby at_215) (by decide) (by decide) ?_
                  refine XS.istore X625.here hx rfl (hb hby at_219) rfl (l' := #[vi p0, vi p1, vi p2, vi p3, vi p4, vi n, vi c0, vi c1, vi c2, vi c3, vr b0, vr s0, vi 1]) rfl ?_
                  exact k)
                obtain ⟨s₂, o₂, h1₂, h2₂, h3₂, v₂, L₂, rfl, ⟨hv₂, N₂, -⟩, hE₂⟩ := sg_s221 (l := l) (s := s) hw p0 p1 p2 p3 p4 n c0 c1 c2 c3 b0 s0 (1 : Int32) cs kc fm Z0 HS hl4 S_cs hkc S_fm hfm S_ad S_hi S_lo (vm0 := vm0) X625 hx hZ hby hml hown hret (by first | assumption | exact BodyLoose.notSynchronized (by assumption)) e625 N625 hS0 hk0 (CHr.refl CH0.1)
                refine ⟨s₂, _, pre629 _ h1₂, h2₂, h3₂, v₂, L₂, rfl, ⟨?_, N₂, trivial⟩, hE₂⟩
                rw [hv₂, F_s158, if_neg hc161_585, if_neg hc169_589, if_neg hc175_592, if_neg hc183_617, if_pos hc189_620, if_neg hc203_622, if_neg hc211_626]
          · obtain ⟨_, _, ⟨T630, L630, k630, n630⟩, -, X630, ⟨Lc630, hQ630, l630, y630, z630⟩, st630⟩ := Jvm.LawKit.callS X616 hx (y := nm22) hown (mvT hZ (ow hw 49 rfl)) (mvT hZ (ow hw 50 rfl)) (mvT hZ (ow hw 51 rfl)) (mvT hZ (ow hw 52 rfl)) (by decide) (backOf (W := 0) (rm_aln l Z a0' hw [] c2 h0 n0 Z0) hZ (ow hw 52 rfl) (ow hw 51 rfl) (by decide) (by decide)) (g := (mkF m 194 #[vi p0, vi p1, vi p2, vi p3, vi p4, vi n, vi c0, vi c1, vi c2, vi c3, vr b0, vr s0, .unset] [(.int c2)])) rfl (by rw [hml]; rfl) (argsL := [(.int c2)]) (rest := []) (lenOf own_pd19 rfl) rfl (by show 2 * 0 + _ ≤ _; exact Nat.le_of_eq rfl) (hb hby at_194) (fun _ _ => ⟨rfl, e616, (by decide : 9 + 0 ≤ _), (by decide : 99 + 0 ≤ _)⟩)
            dsimp only [Pt.U, Pt.locs, Pt.cells, Pt.slots] at X630 l630 y630 z630 st630 hQ630
            subst l630 y630 z630
            obtain ⟨rfl, N630q, e630⟩ := hQ630
            have N630 := Fr.app N616 N630q
            have pre632 : PT p e below (T630.setTop (mkF m 197 #[vi p0, vi p1, vi p2, vi p3, vi p4, vi n, vi c0, vi c1, vi c2, vi c3, vr b0, vr s0, .unset] [(.int (F_aln c2))])) (T0.setTop (mkF m 158 #[vi p0, vi p1, vi p2, vi p3, vi p4, vi n, vi c0, vi c1, vi c2, vi c3, vr b0, vr s0, .unset] [])) := fun t k => pre621 t (by
              refine XS.icmpNo X616.here hx rfl (hb hby at_189) rfl (flt hc189_620).1 ?_
              refine XS.iload X616.here hx rfl (hb hby at_192) rfl ?_
              refine st630 _ ?_
              exact k)
            by_cases hc197_631 : (F_aln c2) = (0 : Int32)
            · have pre633 : PT p e below (T630.setTop (mkF m 221 #[vi p0, vi p1, vi p2, vi p3, vi p4, vi n, vi c0, vi c1, vi c2, vi c3, vr b0, vr s0, vi 0] [])) (T0.setTop (mkF m 158 #[vi p0, vi p1, vi p2, vi p3, vi p4, vi n, vi c0, vi c1, vi c2, vi c3, vr b0, vr s0, .unset] [])) := fun t k => pre632 t (by
                refine XS.ifYes X630.here hx rfl (pc0 := 197) (pc' := 218) rfl (hb hby at_197) rfl ((if0 _ _).trans (teq hc197_631).1) (by decide) (by decide) ?_
                refine XS.iconst X630.here hx rfl (hb hby at_218) ?_
                refine XS.istore X630.here hx rfl (hb hby at_219) rfl (l' := #[vi p0, vi p1, vi p2, vi p3, vi p4, vi n, vi c0, vi c1, vi c2, vi c3, vr b0, vr s0, vi 0]) rfl ?_
                exact k)
              obtain ⟨s₂, o₂, h1₂, h2₂, h3₂, v₂, L₂, rfl, ⟨hv₂, N₂, -⟩, hE₂⟩ := sg_s221 (l := l) (s := s) hw p0 p1 p2 p3 p4 n c0 c1 c2 c3 b0 s0 (0 : Int32) cs kc fm Z0 HS hl4 S_cs hkc S_fm hfm S_ad S_hi S_lo (vm0 := vm0) X630 hx hZ hby hml hown hret (by first | assumption | exact BodyLoose.notSynchronized (by assumption)) e630 N630 hS0 hk0 (CHr.refl CH0.1)
              refine ⟨s₂, _, pre633 _ h1₂, h2₂, h3₂, v₂, L₂, rfl, ⟨?_, N₂, trivial⟩, hE₂⟩
              rw [hv₂, F_s158, if_neg hc161_585, if_neg hc169_589, if_neg hc175_592, if_neg hc183_617, if_neg hc189_620, if_pos hc197_631]
            · have pre635 : PT p e below (T630.setTop (mkF m 203 #[vi p0, vi p1, vi p2, vi p3, vi p4, vi n, vi c0, vi c1, vi c2, vi c3, vr b0, vr s0, .unset] [(.int 4), (.int n)])) (T0.setTop (mkF m 158 #[vi p0, vi p1, vi p2, vi p3, vi p4, vi n, vi c0, vi c1, vi c2, vi c3, vr b0, vr s0, .unset] [])) := fun t k => pre632 t (by
                refine XS.ifNo X630.here hx rfl (hb hby at_197) rfl ((if0 _ _).trans (feq hc197_631).1) ?_
                refine XS.iload X630.here hx rfl (hb hby at_200) rfl ?_
                refine XS.iconst X630.here hx rfl (hb hby at_202) ?_
                exact k)
              by_cases hc203_634 : n < (4 : Int32)
              · have pre636 : PT p e below (T630.setTop (mkF m 221 #[vi p0, vi p1, vi p2, vi p3, vi p4, vi n, vi c0, vi c1, vi c2, vi c3, vr b0, vr s0, vi 1] [])) (T0.setTop (mkF m 158 #[vi p0, vi p1, vi p2, vi p3, vi p4, vi n, vi c0, vi c1, vi c2, vi c3, vr b0, vr s0, .unset] [])) := fun t k => pre635 t (by
                  refine XS.icmpYes X630.here hx rfl (pc0 := 203) (pc' := 214) rfl (hb hby at_203) rfl (tlt hc203_634).1 (by decide) (by decide) ?_
                  refine XS.iconst X630.here hx rfl (hb hby at_214) ?_
                  refine XS.goto X630.here hx rfl (pc0 := 215) (pc' := 219) rfl (hb hby at_215) (by decide) (by decide) ?_
                  refine XS.istore X630.here hx rfl (hb hby at_219) rfl (l' := #[vi p0, vi p1, vi p2, vi p3, vi p4, vi n, vi c0, vi c1, vi c2, vi c3, vr b0, vr s0, vi 1]) rfl ?_
                  exact k)
                obtain ⟨s₂, o₂, h1₂, h2₂, h3₂, v₂, L₂, rfl, ⟨hv₂, N₂, -⟩, hE₂⟩ := sg_s221 (l := l) (s := s) hw p0 p1 p2 p3 p4 n c0 c1 c2 c3 b0 s0 (1 : Int32) cs kc fm Z0 HS hl4 S_cs hkc S_fm hfm S_ad S_hi S_lo (vm0 := vm0) X630 hx hZ hby hml hown hret (by first | assumption | exact BodyLoose.notSynchronized (by assumption)) e630 N630 hS0 hk0 (CHr.refl CH0.1)
                refine ⟨s₂, _, pre636 _ h1₂, h2₂, h3₂, v₂, L₂, rfl, ⟨?_, N₂, trivial⟩, hE₂⟩
                rw [hv₂, F_s158, if_neg hc161_585, if_neg hc169_589, if_neg hc175_592, if_neg hc183_617, if_neg hc189_620, if_neg hc197_631, if_pos hc203_634]
              · obtain ⟨_, _, ⟨T637, L637, k637, n637⟩, -, X637, ⟨Lc637, hQ637, l637, y637, z637⟩, st637⟩ := Jvm.LawKit.callS X630 hx (y := nm22) hown (mvT hZ (ow hw 49 rfl)) (mvT hZ (ow hw 50 rfl)) (mvT hZ (ow hw 51 rfl)) (mvT hZ (ow hw 52 rfl)) (by decide) (backOf (W := 0) (rm_aln l Z a0' hw [] c3 h0 n0 Z0) hZ (ow hw 52 rfl) (ow hw 51 rfl) (by decide) (by decide)) (g := (mkF m 208 #[vi p0, vi p1, vi p2, vi p3, vi p4, vi n, vi c0, vi c1, vi c2, vi c3, vr b0, vr s0, .unset] [(.int c3)])) rfl (by rw [hml]; rfl) (argsL := [(.int c3)]) (rest := []) (lenOf own_pd19 rfl) rfl (by show 2 * 0 + _ ≤ _; exact Nat.le_of_eq rfl) (hb hby at_208) (fun _ _ => ⟨rfl, e630, (by decide : 9 + 0 ≤ _), (by decide : 99 + 0 ≤ _)⟩)
                dsimp only [Pt.U, Pt.locs, Pt.cells, Pt.slots] at X637 l637 y637 z637 st637 hQ637
                subst l637 y637 z637
                obtain ⟨rfl, N637q, e637⟩ := hQ637
                have N637 := Fr.app N630 N637q
                have pre639 : PT p e below (T637.setTop (mkF m 211 #[vi p0, vi p1, vi p2, vi p3, vi p4, vi n, vi c0, vi c1, vi c2, vi c3, vr b0, vr s0, .unset] [(.int (F_aln c3))])) (T0.setTop (mkF m 158 #[vi p0, vi p1, vi p2, vi p3, vi p4, vi n, vi c0, vi c1, vi c2, vi c3, vr b0, vr s0, .unset] [])) := fun t k => pre635 t (by
                  refine XS.icmpNo X630.here hx rfl (hb hby at_203) rfl (flt hc203_634).1 ?_
                  refine XS.iload X630.here hx rfl (hb hby at_206) rfl ?_
                  refine st637 _ ?_
                  exact k)
                by_cases hc211_638 : (F_aln c3) = (0 : Int32)
                · have pre640 : PT p e below (T637.setTop (mkF m 221 #[vi p0, vi p1, vi p2, vi p3, vi p4, vi n, vi c0, vi c1, vi c2, vi c3, vr b0, vr s0, vi 0] [])) (T0.setTop (mkF m 158 #[vi p0, vi p1, vi p2, vi p3, vi p4, vi n, vi c0, vi c1, vi c2, vi c3, vr b0, vr s0, .unset] [])) := fun t k => pre639 t (by
                    refine XS.ifYes X637.here hx rfl (pc0 := 211) (pc' := 218) rfl (hb hby at_211) rfl ((if0 _ _).trans (teq hc211_638).1) (by decide) (by decide) ?_
                    refine XS.iconst X637.here hx rfl (hb hby at_218) ?_
                    refine XS.istore X637.here hx rfl (hb hby at_219) rfl (l' := #[vi p0, vi p1, vi p2, vi p3, vi p4, vi n, vi c0, vi c1, vi c2, vi c3, vr b0, vr s0, vi 0]) rfl ?_
                    exact k)
                  obtain ⟨s₂, o₂, h1₂, h2₂, h3₂, v₂, L₂, rfl, ⟨hv₂, N₂, -⟩, hE₂⟩ := sg_s221 (l := l) (s := s) hw p0 p1 p2 p3 p4 n c0 c1 c2 c3 b0 s0 (0 : Int32) cs kc fm Z0 HS hl4 S_cs hkc S_fm hfm S_ad S_hi S_lo (vm0 := vm0) X637 hx hZ hby hml hown hret (by first | assumption | exact BodyLoose.notSynchronized (by assumption)) e637 N637 hS0 hk0 (CHr.refl CH0.1)
                  refine ⟨s₂, _, pre640 _ h1₂, h2₂, h3₂, v₂, L₂, rfl, ⟨?_, N₂, trivial⟩, hE₂⟩
                  rw [hv₂, F_s158, if_neg hc161_585, if_neg hc169_589, if_neg hc175_592, if_neg hc183_617, if_neg hc189_620, if_neg hc197_631, if_neg hc203_634, if_pos hc211_638]
                · have pre641 : PT p e below (T637.setTop (mkF m 221 #[vi p0, vi p1, vi p2, vi p3, vi p4, vi n, vi c0, vi c1, vi c2, vi c3, vr b0, vr s0, vi 1] [])) (T0.setTop (mkF m 158 #[vi p0, vi p1, vi p2, vi p3, vi p4, vi n, vi c0, vi c1, vi c2, vi c3, vr b0, vr s0, .unset] [])) := fun t k => pre639 t (by
                    refine XS.ifNo X637.here hx rfl (hb hby at_211) rfl ((if0 _ _).trans (feq hc211_638).1) ?_
                    refine XS.iconst X637.here hx rfl (hb hby at_214) ?_
                    refine XS.goto X637.here hx rfl (pc0 := 215) (pc' := 219) rfl (hb hby at_215) (by decide) (by decide) ?_
                    refine XS.istore X637.here hx rfl (hb hby at_219) rfl (l' := #[vi p0, vi p1, vi p2, vi p3, vi p4, vi n, vi c0, vi c1, vi c2, vi c3, vr b0, vr s0, vi 1]) rfl ?_
                    exact k)
                  obtain ⟨s₂, o₂, h1₂, h2₂, h3₂, v₂, L₂, rfl, ⟨hv₂, N₂, -⟩, hE₂⟩ := sg_s221 (l := l) (s := s) hw p0 p1 p2 p3 p4 n c0 c1 c2 c3 b0 s0 (1 : Int32) cs kc fm Z0 HS hl4 S_cs hkc S_fm hfm S_ad S_hi S_lo (vm0 := vm0) X637 hx hZ hby hml hown hret (by first | assumption | exact BodyLoose.notSynchronized (by assumption)) e637 N637 hS0 hk0 (CHr.refl CH0.1)
                  refine ⟨s₂, _, pre641 _ h1₂, h2₂, h3₂, v₂, L₂, rfl, ⟨?_, N₂, trivial⟩, hE₂⟩
                  rw [hv₂, F_s158, if_neg hc161_585, if_neg hc169_589, if_neg hc175_592, if_neg hc183_617, if_neg hc189_620, if_neg hc197_631, if_neg hc203_634, if_neg hc211_638]
theorem own_pd20 : parseMethodDescriptor "([C)V" = some ⟨[(.array .char)], none⟩ := by decide +kernel
def F_s37 (n : Int32) (c0 : Int32) (c1 : Int32) (c2 : Int32) (c3 : Int32) : Int32 := (if n = (0 : Int32) then (F_s158 n c0 c1 c2 c3 []) else (if n = (1 : Int32) then (F_s158 n c0 c1 c2 c3 [(nar .char c0)]) else (if n = (2 : Int32) then (F_s158 n c0 c1 c2 c3 [(nar .char c0), (nar .char c1)]) else (if n = (3 : Int32) then (F_s158 n c0 c1 c2 c3 [(nar .char c0), (nar .char c1), (nar .char c2)]) else (F_s158 n c0 c1 c2 c3 [(nar .char c0), (nar .char c1), (nar .char c2), (nar .char c3)])))))
def Q_s37 (Z : State) (p0 : Int32) (p1 : Int32) (p2 : Int32) (p3 : Int32) (p4 : Int32) (n : Int32) (c0 : Int32) (c1 : Int32) (c2 : Int32) (c3 : Int32) (kc : Int32) (fm : Value) (h0 : Heap) (n0 : Nat) (v : Option Value) (h : Heap) (L : List Loc) : Prop := v = some (.int (F_s37 n c0 c1 c2 c3)) ∧ Fr n0 L ∧ True
theorem sg_s37 {l : Launch} {Z : State} {a0' : Array Value} (hw : ∀ d ∈ tables_1, d.before a0' Z = true) (p0 : Int32) (p1 : Int32) (p2 : Int32) (p3 : Int32) (p4 : Int32) (n : Int32) (c0 : Int32) (c1 : Int32) (c2 : Int32) (c3 : Int32) (kc : Int32) (fm : Value) {h0 : Heap} {n0 : Nat} (Z0 : n0 ≤ h0.size) (S_cs : Sta Z h0 "java/lang/String" "COMPACT_STRINGS" "Z" (.int kc)) (hkc : ¬ (kc = (0 : Int32))) (S_fm : Sta Z h0 "jdk/internal/util/Preconditions" "SIOOBE_FORMATTER" "Ljava/util/function/BiFunction;" fm) (hfm : fm.isRef = true) (S_ad : Sta Z h0 "java/lang/StringUTF16" "$assertionsDisabled" "Z" (.int 1)) (S_hi : Sta Z h0 "java/lang/StringUTF16" "HI_BYTE_SHIFT" "I" (.int 0)) (S_lo : Sta Z h0 "java/lang/StringUTF16" "LO_BYTE_SHIFT" "I" (.int 8))
    {p : Program} {e : Env} {s : State} {m : MethodId} {args : Array Value} {below : List Frame} {meth : Method} {c : Code} {T0 : State} {locs : List Loc} {vm0 : Vm} {kk0 : Nat} (X0 : Stand p l e room_1 (s.setVm vm0) m args below meth c T0 locs 0 0) (hx : p.tables.exec = Jvm.exec) (hZ : Z.Warmed39 (s.setVm vm0).vm) (hby : c.code = code) (hml : c.maxLocals = 13) (hown : (s.setVm vm0).vm.findClass "com/example/lead_line/leadline/TermsIsTermPinLaw" = some m.cls) (hret : meth.sig.returnType = some .boolean) (hlk : meth.locks = false) (e0 : T0.heap = h0) (N0 : Fr n0 locs) (hS0 : s.Since vm0 kk0) (hk0 : kk0 ≤ h0.size) (CH0 : CHr Z own_EL vm0 h0 vm0 h0) :
    ∃ s₂ o, Steps p.tables e below (T0.setTop (mkF m 37 #[vi p0, vi p1, vi p2, vi p3, vi p4, vi n, vi c0, vi c1, vi c2, vi c3, .unset, .unset, .unset] [])) s₂ ∧ s₂.status = .running ∧ Ended s₂ below o ∧ ∃ v L, o = .returned v ∧ Q_s37 Z p0 p1 p2 p3 p4 n c0 c1 c2 c3 kc fm h0 n0 v s₂.heap L ∧ ReturnedEndW s o s₂ L room_1.cells room_1.slots := by
  have hEW := own_EW hw
  have pre0 : PT p e below (T0.setTop (mkF m 37 #[vi p0, vi p1, vi p2, vi p3, vi p4, vi n, vi c0, vi c1, vi c2, vi c3, .unset, .unset, .unset] [])) (T0.setTop (mkF m 37 #[vi p0, vi p1, vi p2, vi p3, vi p4, vi n, vi c0, vi c1, vi c2, vi c3, .unset, .unset, .unset] [])) := fun t k => k
  have pre643 : PT p e below (T0.setTop (mkF m 39 #[vi p0, vi p1, vi p2, vi p3, vi p4, vi n, vi c0, vi c1, vi c2, vi c3, .unset, .unset, .unset] [(.int n)])) (T0.setTop (mkF m 37 #[vi p0, vi p1, vi p2, vi p3, vi p4, vi n, vi c0, vi c1, vi c2, vi c3, .unset, .unset, .unset] [])) := fun t k => pre0 t (by
    refine XS.iload X0.here hx rfl (hb hby at_37) rfl ?_
    exact k)
  by_cases hc39_642 : n = (0 : Int32)
  · obtain ⟨T644, h644, k644, X644, e644, E644, A644, st644⟩ := newP X0 hx hZ (ow hw 2 rfl) e0 (g := (mkF m 43 #[vi p0, vi p1, vi p2, vi p3, vi p4, vi n, vi c0, vi c1, vi c2, vi c3, .unset, .unset, .unset] [(.int 0)])) rfl (hb hby at_43) rfl (by decide) (cap := 0) (by decide) (by decide) (by decide) (by decide)
    obtain ⟨b644, g644⟩ : ∃ z, z = h0.size := ⟨_, rfl⟩
    rw [← g644] at A644 st644
    have V_b644 : Arv Z h644 b644 k644 .char (0 : Int32) [] (.int 0) := Arv.new A644 (by decide)
    have szb_b644 : h0.size ≤ b644 := Nat.le_of_eq g644.symm
    have g_b644 : n0 ≤ b644 := Nat.le_trans Z0 (Nat.le_of_eq g644.symm)
    have sz_b644 : h0.size ≤ b644 := Nat.le_trans (Nat.le_refl _) (Nat.le_of_eq g644.symm)
    have EX644 : Ext h0 h644 := E644
    have SZ644 : h0.size ≤ h644.size := EX644.1
    have Z644 : n0 ≤ h644.size := Nat.le_trans Z0 SZ644
    have hk644 := Nat.le_trans hk0 E644.1
    have EXb644 : Ext h0 h644 := E644
    obtain ⟨T645, h645, X645, e645, E645, A645, D645, -, st645⟩ := newO X644 hx hZ hown (ow hw 3 rfl) (ow hw 4 rfl) (ow hw 5 rfl) e644 (g := (mkF m 147 #[vi p0, vi p1, vi p2, vi p3, vi p4, vi n, vi c0, vi c1, vi c2, vi c3, vr b644, .unset, .unset] [])) rfl (hb hby at_147) (by decide) (by decide)
    obtain ⟨b645, g645⟩ : ∃ z, z = h644.size := ⟨_, rfl⟩
    rw [← g645] at A645 D645 st645
    have ne645_b644_b645 : b644 ≠ b645 := Nat.ne_of_lt (Nat.lt_of_lt_of_le V_b644.lt (Nat.le_of_eq g645.symm))
    have szb_b645 : h0.size ≤ b645 := Nat.le_trans EXb644.1 (Nat.le_of_eq g645.symm)
    have g_b645 : n0 ≤ b645 := Nat.le_trans Z644 (Nat.le_of_eq g645.symm)
    have sz_b645 : h0.size ≤ b645 := Nat.le_trans SZ644 (Nat.le_of_eq g645.symm)
    have EX645 : Ext h0 h645 := own_exttr EX644 E645
    have SZ645 : h0.size ≤ h645.size := EX645.1
    have Z645 : n0 ≤ h645.size := Nat.le_trans Z0 SZ645
    have hk645 := Nat.le_trans hk644 E645.1
    have EXb645 : Ext h0 h645 := own_exttr EXb644 E645
    have F0_value_b645 := D645 (Or.inr (ow hw 18 rfl)) (ty := (.array .byte)) (by decide)
    have F0_coder_b645 := D645 (Or.inr (ow hw 19 rfl)) (ty := .byte) (by decide)
    have fx647 := (V_b644.ext E645)
    have pre648 : PT p e below (T645.setTop (mkF m 153 #[vi p0, vi p1, vi p2, vi p3, vi p4, vi n, vi c0, vi c1, vi c2, vi c3, vr b644, .unset, .unset] [(.ref b644), (.ref b645), (.ref b645)])) (T0.setTop (mkF m 37 #[vi p0, vi p1, vi p2, vi p3, vi p4, vi n, vi c0, vi c1, vi c2, vi c3, .unset, .unset, .unset] [])) := fun t k => pre643 t (by
      refine XS.ifNo X0.here hx rfl (hb hby at_39) rfl ((if0 _ _).trans (teq hc39_642).2) ?_
      refine XS.iconst X0.here hx rfl (hb hby at_42) ?_
      refine st644 _ ?_
      refine XS.astore X644.here hx rfl (hb hby at_45) rfl rfl (l' := #[vi p0, vi p1, vi p2, vi p3, vi p4, vi n, vi c0, vi c1, vi c2, vi c3, vr b644, .unset, .unset]) rfl ?_
      refine XS.goto X644.here hx rfl (pc0 := 47) (pc' := 147) rfl (hb hby at_47) (by decide) (by decide) ?_
      refine st645 _ ?_
      refine XS.dup X645.here hx rfl (hb hby at_150) rfl rfl ?_
      refine XS.aload X645.here hx rfl (hb hby at_151) rfl rfl ?_
      exact k)
    obtain ⟨_, _, ⟨T646, L646, k646, n646⟩, -, X646w, hS646w, hg646w, ⟨Lc646, hQ646, l646, y646, z646, hC646⟩, st646⟩ := X645.specialBackS hx (y := nm20) rfl hown (mvT hZ (ow hw 6 rfl)) (mvT hZ (ow hw 7 rfl)) (mvT hZ (ow hw 8 rfl)) (by decide) (own_backW (s := s) (vm0 := vm0) (W := 1) (rm_in1_0 l Z a0' hw [] b645 b644 k644 h645 n0 Z645 A645 F0_value_b645 F0_coder_b645 g_b645 fx647) hZ (ow hw 8 rfl) (ow hw 5 rfl) (by decide) (by decide) hEW (CH0.trans (CHr.ext EXb645 CH0.1)).1 (allS (P := fun x => x < _ ∧ Safe Z own_EL _ _ x) ⟨A645.lt, (own_safe CH0.1 EXb645 szb_b645)⟩ all0)) (g := (mkF m 153 #[vi p0, vi p1, vi p2, vi p3, vi p4, vi n, vi c0, vi c1, vi c2, vi c3, vr b644, .unset, .unset] [(.ref b644), (.ref b645), (.ref b645)])) rfl (by rw [hml]; rfl) (Steps.refl _) (a := b645) (argsL := [(.ref b644)]) (rest := [(.ref b645)]) (lenOf own_pd20 rfl) rfl (by show 2 * 0 + _ ≤ _; exact Nat.le_of_eq rfl) (hb hby at_153) (fun _ _ => ⟨rfl, e645, (by decide : 2 + 4 ≤ _), (by decide : 4 + 8 ≤ _)⟩)
    dsimp only [Pt.U, Pt.locs, Pt.cells, Pt.slots] at X646w hS646w hg646w l646 y646 z646 st646 hQ646 hC646
    subst l646 y646 z646
    obtain ⟨X646, hS646, hZ, hown⟩ := rebS hS0 (by rw [e645]; exact hk645) X646w hS646w hg646w hZ hown
    have CHn646 := (CH0.trans (CHr.ext EXb645 CH0.1)).trans hC646
    obtain ⟨rfl, N646q, K646, Ei646, Ci646, bi646, ki646, Fi646, Vi646⟩ := hQ646
    have N646 := Fr.app N0 N646q
    have EX646 : Ext h0 T646.heap := own_extkeep EX645 K646 sz_b645
    have SZ646 : h0.size ≤ T646.heap.size := EX646.1
    have Z646 : n0 ≤ T646.heap.size := Nat.le_trans Z0 SZ646
    have Cs649 : CS Z T646.heap b645 [] := ⟨Ei646, _, _, Fi646, Or.inl ⟨Ci646, by simp, Vi646⟩⟩
    have pre650 : PT p e below (T646.setTop (mkF m 158 #[vi p0, vi p1, vi p2, vi p3, vi p4, vi n, vi c0, vi c1, vi c2, vi c3, vr b644, vr b645, .unset] [])) (T0.setTop (mkF m 37 #[vi p0, vi p1, vi p2, vi p3, vi p4, vi n, vi c0, vi c1, vi c2, vi c3, .unset, .unset, .unset] [])) := fun t k => pre648 t (by
      refine st646.trans ?_
      refine XS.astore X646.here hx rfl (hb hby at_156) rfl rfl (l' := #[vi p0, vi p1, vi p2, vi p3, vi p4, vi n, vi c0, vi c1, vi c2, vi c3, vr b644, vr b645, .unset]) rfl ?_
      exact k)
    obtain ⟨s₂, o₂, h1₂, h2₂, h3₂, v₂, L₂, rfl, ⟨hv₂, N₂, -⟩, hE₂⟩ := sg_s158 (l := l) (s := s) hw p0 p1 p2 p3 p4 n c0 c1 c2 c3 b644 b645 [] kc fm Z646 Cs649 (Nat.le_of_ble_eq_true rfl) (S_cs.ext EX646) hkc (S_fm.ext EX646) hfm (S_ad.ext EX646) (S_hi.ext EX646) (S_lo.ext EX646) (vm0 := T646.vm) (X646.more (by decide) (by decide)) hx hZ hby hml hown hret (by first | assumption | exact BodyLoose.notSynchronized (by assumption)) rfl N646 hS646 (Nat.le_refl _) (CHr.refl CHn646.1)
    refine ⟨s₂, _, pre650 _ h1₂, h2₂, h3₂, v₂, L₂, rfl, ⟨?_, N₂, trivial⟩, hE₂⟩
    rw [hv₂, F_s37, if_pos hc39_642]
  · have pre652 : PT p e below (T0.setTop (mkF m 53 #[vi p0, vi p1, vi p2, vi p3, vi p4, vi n, vi c0, vi c1, vi c2, vi c3, .unset, .unset, .unset] [(.int 1), (.int n)])) (T0.setTop (mkF m 37 #[vi p0, vi p1, vi p2, vi p3, vi p4, vi n, vi c0, vi c1, vi c2, vi c3, .unset, .unset, .unset] [])) := fun t k => pre643 t (by
      refine XS.ifYes X0.here hx rfl (pc0 := 39) (pc' := 50) rfl (hb hby at_39) rfl ((if0 _ _).trans (feq hc39_642).2) (by decide) (by decide) ?_
      refine XS.iload X0.here hx rfl (hb hby at_50) rfl ?_
      refine XS.iconst X0.here hx rfl (hb hby at_52) ?_
      exact k)
    by_cases hc53_651 : n = (1 : Int32)
    · obtain ⟨T653, h653, k653, X653, e653, E653, A653, st653⟩ := newP X0 hx hZ (ow hw 2 rfl) e0 (g := (mkF m 57 #[vi p0, vi p1, vi p2, vi p3, vi p4, vi n, vi c0, vi c1, vi c2, vi c3, .unset, .unset, .unset] [(.int 1)])) rfl (hb hby at_57) rfl (by decide) (cap := 1) (by decide) (by decide) (by decide) (by decide)
      obtain ⟨b653, g653⟩ : ∃ z, z = h0.size := ⟨_, rfl⟩
      rw [← g653] at A653 st653
      have V_b653 : Arv Z h653 b653 k653 .char (1 : Int32) [(.int 0)] (.int 0) := (Arv.new A653 (by decide)).pad (pad_rep [] (.int 0) 1)
      have szb_b653 : h0.size ≤ b653 := Nat.le_of_eq g653.symm
      have g_b653 : n0 ≤ b653 := Nat.le_trans Z0 (Nat.le_of_eq g653.symm)
      have sz_b653 : h0.size ≤ b653 := Nat.le_trans (Nat.le_refl _) (Nat.le_of_eq g653.symm)
      have EX653 : Ext h0 h653 := E653
      have SZ653 : h0.size ≤ h653.size := EX653.1
      have Z653 : n0 ≤ h653.size := Nat.le_trans Z0 SZ653
      have hk653 := Nat.le_trans hk0 E653.1
      have EXb653 : Ext h0 h653 := E653
      have Vc654 := V_b653
      obtain ⟨cl654, Ar654, q654, S654, N_654, H654, G654⟩ := Vc654
      have hin654 : ¬ ((0 : Int32) < 0 ∨ cl654.slots.size ≤ ((0 : Int32)).toNatClampNeg) := inb_of S654 ⟨by decide, by decide⟩
      obtain ⟨T655, h655, X655, e655, W655, st655⟩ := stC X653 hx hZ e653 Ar654 (j := (0 : Int32)) hin654 (g := (mkF m 63 #[vi p0, vi p1, vi p2, vi p3, vi p4, vi n, vi c0, vi c1, vi c2, vi c3, .unset, .unset, .unset] [(.int c0), (.int 0), (.ref b653), (.ref b653)])) rfl rfl (hb hby at_63)
      have V_b653_655 : Arv Z h655 b653 k653 .char (1 : Int32) [(.int (nar .char c0))] (.int 0) := Arv.set Ar654 q654 S654 N_654 H654 G654 (fits_nar_char _) W655 0 rfl (Nat.le_of_ble_eq_true rfl)
      have N655 := Fr.snoc X655 N0 g_b653
      have EX655 : Ext h0 h655 := own_extwr EX653 W655 sz_b653
      have SZ655 : h0.size ≤ h655.size := EX655.1
      have Z655 : n0 ≤ h655.size := Nat.le_trans Z0 SZ655
      have hk655 := Nat.le_trans hk653 (Keep.of_wr W655).1
      have EXb655 : Ext h0 h655 := own_extwr EXb653 W655 (Nat.le_trans szb_b653 (Nat.le_of_eq rfl))
      obtain ⟨T656, h656, X656, e656, E656, A656, D656, -, st656⟩ := newO X655 hx hZ hown (ow hw 3 rfl) (ow hw 4 rfl) (ow hw 5 rfl) e655 (g := (mkF m 147 #[vi p0, vi p1, vi p2, vi p3, vi p4, vi n, vi c0, vi c1, vi c2, vi c3, vr b653, .unset, .unset] [])) rfl (hb hby at_147) (by decide) (by decide)
      obtain ⟨b656, g656⟩ : ∃ z, z = h655.size := ⟨_, rfl⟩
      rw [← g656] at A656 D656 st656
      have ne656_b653_b656 : b653 ≠ b656 := Nat.ne_of_lt (Nat.lt_of_lt_of_le V_b653_655.lt (Nat.le_of_eq g656.symm))
      have szb_b656 : h0.size ≤ b656 := Nat.le_trans EXb655.1 (Nat.le_of_eq g656.symm)
      have g_b656 : n0 ≤ b656 := Nat.le_trans Z655 (Nat.le_of_eq g656.symm)
      have sz_b656 : h0.size ≤ b656 := Nat.le_trans SZ655 (Nat.le_of_eq g656.symm)
      have EX656 : Ext h0 h656 := own_exttr EX655 E656
      have SZ656 : h0.size ≤ h656.size := EX656.1
      have Z656 : n0 ≤ h656.size := Nat.le_trans Z0 SZ656
      have hk656 := Nat.le_trans hk655 E656.1
      have EXb656 : Ext h0 h656 := own_exttr EXb655 E656
      have F0_value_b656 := D656 (Or.inr (ow hw 18 rfl)) (ty := (.array .byte)) (by decide)
      have F0_coder_b656 := D656 (Or.inr (ow hw 19 rfl)) (ty := .byte) (by decide)
      have fx658 := (V_b653_655.ext E656)
      obtain ⟨_, _, ⟨T657, L657, k657, n657⟩, -, X657, ⟨Lc657, hQ657, l657, y657, z657⟩, st657⟩ := X656.specialBack hx (y := nm20) rfl hown (mvT hZ (ow hw 6 rfl)) (mvT hZ (ow hw 7 rfl)) (mvT hZ (ow hw 8 rfl)) (by decide) (backOf (W := 1) (rm_in1C1 l Z a0' hw [] b656 b653 k653 (nar .char c0) kc h656 n0 Z656 A656 F0_value_b656 F0_coder_b656 g_b656 fx658 (Ne.symm ne656_b653_b656) (own_chb _) (S_cs.ext EX656) hkc (S_ad.ext EX656) (S_hi.ext EX656) (S_lo.ext EX656)) hZ (ow hw 8 rfl) (ow hw 5 rfl) (by decide) (by decide)) (g := (mkF m 153 #[vi p0, vi p1, vi p2, vi p3, vi p4, vi n, vi c0, vi c1, vi c2, vi c3, vr b653, .unset, .unset] [(.ref b653), (.ref b656), (.ref b656)])) rfl (by rw [hml]; rfl) (Steps.refl _) (a := b656) (argsL := [(.ref b653)]) (rest := [(.ref b656)]) (lenOf own_pd20 rfl) rfl (by show 2 * 0 + _ ≤ _; exact Nat.le_of_eq rfl) (hb hby at_153) (fun _ _ => ⟨rfl, e656, (by decide : 2 + 2 ≤ _), (by decide : 5 + 3 ≤ _)⟩)
      dsimp only [Pt.U, Pt.locs, Pt.cells, Pt.slots] at X657 l657 y657 z657 st657 hQ657
      subst l657 y657 z657
      obtain ⟨rfl, N657q, K657, Cs657⟩ := hQ657
      have N657 := Fr.app N655 N657q
      have EX657 : Ext h0 T657.heap := own_extkeep EX656 K657 sz_b656
      have SZ657 : h0.size ≤ T657.heap.size := EX657.1
      have Z657 : n0 ≤ T657.heap.size := Nat.le_trans Z0 SZ657
      have hk657 := Nat.le_trans hk656 K657.1
      have EXb657 : Ext h0 T657.heap := own_extkeep EXb656 K657 szb_b656
      have pre659 : PT p e below (T657.setTop (mkF m 158 #[vi p0, vi p1, vi p2, vi p3, vi p4, vi n, vi c0, vi c1, vi c2, vi c3, vr b653, vr b656, .unset] [])) (T0.setTop (mkF m 37 #[vi p0, vi p1, vi p2, vi p3, vi p4, vi n, vi c0, vi c1, vi c2, vi c3, .unset, .unset, .unset] [])) := fun t k => pre652 t (by
        refine XS.icmpNo X0.here hx rfl (hb hby at_53) rfl (teq hc53_651).2 ?_
        refine XS.iconst X0.here hx rfl (hb hby at_56) ?_
        refine st653 _ ?_
        refine XS.dup X653.here hx rfl (hb hby at_59) rfl rfl ?_
        refine XS.iconst X653.here hx rfl (hb hby at_60) ?_
        refine XS.iload X653.here hx rfl (hb hby at_61) rfl ?_
        refine st655 _ ?_
        refine XS.astore X655.here hx rfl (hb hby at_64) rfl rfl (l' := #[vi p0, vi p1, vi p2, vi p3, vi p4, vi n, vi c0, vi c1, vi c2, vi c3, vr b653, .unset, .unset]) rfl ?_
        refine XS.goto X655.here hx rfl (pc0 := 66) (pc' := 147) rfl (hb hby at_66) (by decide) (by decide) ?_
        refine st656 _ ?_
        refine XS.dup X656.here hx rfl (hb hby at_150) rfl rfl ?_
        refine XS.aload X656.here hx rfl (hb hby at_151) rfl rfl ?_
        refine st657.trans ?_
        refine XS.astore X657.here hx rfl (hb hby at_156) rfl rfl (l' := #[vi p0, vi p1, vi p2, vi p3, vi p4, vi n, vi c0, vi c1, vi c2, vi c3, vr b653, vr b656, .unset]) rfl ?_
        exact k)
      obtain ⟨s₂, o₂, h1₂, h2₂, h3₂, v₂, L₂, rfl, ⟨hv₂, N₂, -⟩, hE₂⟩ := sg_s158 (l := l) (s := s) hw p0 p1 p2 p3 p4 n c0 c1 c2 c3 b653 b656 [(nar .char c0)] kc fm Z657 Cs657 (Nat.le_of_ble_eq_true rfl) (S_cs.ext EX657) hkc (S_fm.ext EX657) hfm (S_ad.ext EX657) (S_hi.ext EX657) (S_lo.ext EX657) (vm0 := vm0) (X657.more (by decide) (by decide)) hx hZ hby hml hown hret (by first | assumption | exact BodyLoose.notSynchronized (by assumption)) rfl N657 hS0 hk657 (CHr.refl (CH0.trans (CHr.ext EXb657 CH0.1)).1)
      refine ⟨s₂, _, pre659 _ h1₂, h2₂, h3₂, v₂, L₂, rfl, ⟨?_, N₂, trivial⟩, hE₂⟩
      rw [hv₂, F_s37, if_neg hc39_642, if_pos hc53_651]
    · have pre661 : PT p e below (T0.setTop (mkF m 72 #[vi p0, vi p1, vi p2, vi p3, vi p4, vi n, vi c0, vi c1, vi c2, vi c3, .unset, .unset, .unset] [(.int 2), (.int n)])) (T0.setTop (mkF m 37 #[vi p0, vi p1, vi p2, vi p3, vi p4, vi n, vi c0, vi c1, vi c2, vi c3, .unset, .unset, .unset] [])) := fun t k => pre652 t (by
        refine XS.icmpYes X0.here hx rfl (pc0 := 53) (pc' := 69) rfl (hb hby at_53) rfl (feq hc53_651).2 (by decide) (by decide) ?_
        refine XS.iload X0.here hx rfl (hb hby at_69) rfl ?_
        refine XS.iconst X0.here hx rfl (hb hby at_71) ?_
        exact k)
      by_cases hc72_660 : n = (2 : Int32)
      · obtain ⟨T662, h662, k662, X662, e662, E662, A662, st662⟩ := newP X0 hx hZ (ow hw 2 rfl) e0 (g := (mkF m 76 #[vi p0, vi p1, vi p2, vi p3, vi p4, vi n, vi c0, vi c1, vi c2, vi c3, .unset, .unset, .unset] [(.int 2)])) rfl (hb hby at_76) rfl (by decide) (cap := 2) (by decide) (by decide) (by decide) (by decide)
        obtain ⟨b662, g662⟩ : ∃ z, z = h0.size := ⟨_, rfl⟩
        rw [← g662] at A662 st662
        have V_b662 : Arv Z h662 b662 k662 .char (2 : Int32) [(.int 0), (.int 0)] (.int 0) := (Arv.new A662 (by decide)).pad (pad_rep [] (.int 0) 2)
        have szb_b662 : h0.size ≤ b662 := Nat.le_of_eq g662.symm
        have g_b662 : n0 ≤ b662 := Nat.le_trans Z0 (Nat.le_of_eq g662.symm)
        have sz_b662 : h0.size ≤ b662 := Nat.le_trans (Nat.le_refl _) (Nat.le_of_eq g662.symm)
        have EX662 : Ext h0 h662 := E662
        have SZ662 : h0.size ≤ h662.size := EX662.1
        have Z662 : n0 ≤ h662.size := Nat.le_trans Z0 SZ662
        have hk662 := Nat.le_trans hk0 E662.1
        have EXb662 : Ext h0 h662 := E662
        have Vc663 := V_b662
        obtain ⟨cl663, Ar663, q663, S663, N_663, H663, G663⟩ := Vc663
        have hin663 : ¬ ((0 : Int32) < 0 ∨ cl663.slots.size ≤ ((0 : Int32)).toNatClampNeg) := inb_of S663 ⟨by decide, by decide⟩
        obtain ⟨T664, h664, X664, e664, W664, st664⟩ := stC X662 hx hZ e662 Ar663 (j := (0 : Int32)) hin663 (g := (mkF m 82 #[vi p0, vi p1, vi p2, vi p3, vi p4, vi n, vi c0, vi c1, vi c2, vi c3, .unset, .unset, .unset] [(.int c0), (.int 0), (.ref b662), (.ref b662)])) rfl rfl (hb hby at_82)
        have V_b662_664 : Arv Z h664 b662 k662 .char (2 : Int32) [(.int (nar .char c0)), (.int 0)] (.int 0) := Arv.set Ar663 q663 S663 N_663 H663 G663 (fits_nar_char _) W664 0 rfl (Nat.le_of_ble_eq_true rfl)
        have N664 := Fr.snoc X664 N0 g_b662
        have EX664 : Ext h0 h664 := own_extwr EX662 W664 sz_b662
        have SZ664 : h0.size ≤ h664.size := EX664.1
        have Z664 : n0 ≤ h664.size := Nat.le_trans Z0 SZ664
        have hk664 := Nat.le_trans hk662 (Keep.of_wr W664).1
        have EXb664 : Ext h0 h664 := own_extwr EXb662 W664 (Nat.le_trans szb_b662 (Nat.le_of_eq rfl))
        have Vc665 := V_b662_664
        obtain ⟨cl665, Ar665, q665, S665, N_665, H665, G665⟩ := Vc665
        have hin665 : ¬ ((1 : Int32) < 0 ∨ cl665.slots.size ≤ ((1 : Int32)).toNatClampNeg) := inb_of S665 ⟨by decide, by decide⟩
        obtain ⟨T666, h666, X666, e666, W666, st666⟩ := stC X664 hx hZ e664 Ar665 (j := (1 : Int32)) hin665 (g := (mkF m 87 #[vi p0, vi p1, vi p2, vi p3, vi p4, vi n, vi c0, vi c1, vi c2, vi c3, .unset, .unset, .unset] [(.int c1), (.int 1), (.ref b662), (.ref b662)])) rfl rfl (hb hby at_87)
        have V_b662_666 : Arv Z h666 b662 k662 .char (2 : Int32) [(.int (nar .char c0)), (.int (nar .char c1))] (.int 0) := Arv.set Ar665 q665 S665 N_665 H665 G665 (fits_nar_char _) W666 1 rfl (Nat.le_of_ble_eq_true rfl)
        have N666 := Fr.snoc X666 N664 g_b662
        have EX666 : Ext h0 h666 := own_extwr EX664 W666 sz_b662
        have SZ666 : h0.size ≤ h666.size := EX666.1
        have Z666 : n0 ≤ h666.size := Nat.le_trans Z0 SZ666
        have hk666 := Nat.le_trans hk664 (Keep.of_wr W666).1
        have EXb666 : Ext h0 h666 := own_extwr EXb664 W666 (Nat.le_trans szb_b662 (Nat.le_of_eq rfl))
        obtain ⟨T667, h667, X667, e667, E667, A667, D667, -, st667⟩ := newO X666 hx hZ hown (ow hw 3 rfl) (ow hw 4 rfl) (ow hw 5 rfl) e666 (g := (mkF m 147 #[vi p0, vi p1, vi p2, vi p3, vi p4, vi n, vi c0, vi c1, vi c2, vi c3, vr b662, .unset, .unset] [])) rfl (hb hby at_147) (by decide) (by decide)
        obtain ⟨b667, g667⟩ : ∃ z, z = h666.size := ⟨_, rfl⟩
        rw [← g667] at A667 D667 st667
        have ne667_b662_b667 : b662 ≠ b667 := Nat.ne_of_lt (Nat.lt_of_lt_of_le V_b662_666.lt (Nat.le_of_eq g667.symm))
        have szb_b667 : h0.size ≤ b667 := Nat.le_trans EXb666.1 (Nat.le_of_eq g667.symm)
        have g_b667 : n0 ≤ b667 := Nat.le_trans Z666 (Nat.le_of_eq g667.symm)
        have sz_b667 : h0.size ≤ b667 := Nat.le_trans SZ666 (Nat.le_of_eq g667.symm)
        have EX667 : Ext h0 h667 := own_exttr EX666 E667
        have SZ667 : h0.size ≤ h667.size := EX667.1
        have Z667 : n0 ≤ h667.size := Nat.le_trans Z0 SZ667
        have hk667 := Nat.le_trans hk666 E667.1
        have EXb667 : Ext h0 h667 := own_exttr EXb666 E667
        have F0_value_b667 := D667 (Or.inr (ow hw 18 rfl)) (ty := (.array .byte)) (by decide)
        have F0_coder_b667 := D667 (Or.inr (ow hw 19 rfl)) (ty := .byte) (by decide)
        have fx669 := (V_b662_666.ext E667)
        obtain ⟨_, _, ⟨T668, L668, k668, n668⟩, -, X668, ⟨Lc668, hQ668, l668, y668, z668⟩, st668⟩ := X667.specialBack hx (y := nm20) rfl hown (mvT hZ (ow hw 6 rfl)) (mvT hZ (ow hw 7 rfl)) (mvT hZ (ow hw 8 rfl)) (by decide) (backOf (W := 1) (rm_in1C2 l Z a0' hw [] b667 b662 k662 (nar .char c0) (nar .char c1) kc h667 n0 Z667 A667 F0_value_b667 F0_coder_b667 g_b667 fx669 (Ne.symm ne667_b662_b667) (own_chb _) (own_chb _) (S_cs.ext EX667) hkc (S_ad.ext EX667) (S_hi.ext EX667) (S_lo.ext EX667)) hZ (ow hw 8 rfl) (ow hw 5 rfl) (by decide) (by decide)) (g := (mkF m 153 #[vi p0, vi p1, vi p2, vi p3, vi p4, vi n, vi c0, vi c1, vi c2, vi c3, vr b662, .unset, .unset] [(.ref b662), (.ref b667), (.ref b667)])) rfl (by rw [hml]; rfl) (Steps.refl _) (a := b667) (argsL := [(.ref b662)]) (rest := [(.ref b667)]) (lenOf own_pd20 rfl) rfl (by show 2 * 0 + _ ≤ _; exact Nat.le_of_eq rfl) (hb hby at_153) (fun _ _ => ⟨rfl, e667, (by decide : 2 + 2 ≤ _), (by decide : 6 + 6 ≤ _)⟩)
        dsimp only [Pt.U, Pt.locs, Pt.cells, Pt.slots] at X668 l668 y668 z668 st668 hQ668
        subst l668 y668 z668
        obtain ⟨rfl, N668q, K668, Cs668⟩ := hQ668
        have N668 := Fr.app N666 N668q
        have EX668 : Ext h0 T668.heap := own_extkeep EX667 K668 sz_b667
        have SZ668 : h0.size ≤ T668.heap.size := EX668.1
        have Z668 : n0 ≤ T668.heap.size := Nat.le_trans Z0 SZ668
        have hk668 := Nat.le_trans hk667 K668.1
        have EXb668 : Ext h0 T668.heap := own_extkeep EXb667 K668 szb_b667
        have pre670 : PT p e below (T668.setTop (mkF m 158 #[vi p0, vi p1, vi p2, vi p3, vi p4, vi n, vi c0, vi c1, vi c2, vi c3, vr b662, vr b667, .unset] [])) (T0.setTop (mkF m 37 #[vi p0, vi p1, vi p2, vi p3, vi p4, vi n, vi c0, vi c1, vi c2, vi c3, .unset, .unset, .unset] [])) := fun t k => pre661 t (by
          refine XS.icmpNo X0.here hx rfl (hb hby at_72) rfl (teq hc72_660).2 ?_
          refine XS.iconst X0.here hx rfl (hb hby at_75) ?_
          refine st662 _ ?_
          refine XS.dup X662.here hx rfl (hb hby at_78) rfl rfl ?_
          refine XS.iconst X662.here hx rfl (hb hby at_79) ?_
          refine XS.iload X662.here hx rfl (hb hby at_80) rfl ?_
          refine st664 _ ?_
          refine XS.dup X664.here hx rfl (hb hby at_83) rfl rfl ?_
          refine XS.iconst X664.here hx rfl (hb hby at_84) ?_
          refine XS.iload X664.here hx rfl (hb hby at_85) rfl ?_
          refine st666 _ ?_
          refine XS.astore X666.here hx rfl (hb hby at_88) rfl rfl (l' := #[vi p0, vi p1, vi p2, vi p3, vi p4, vi n, vi c0, vi c1, vi c2, vi c3, vr b662, .unset, .unset]) rfl ?_
          refine XS.goto X666.here hx rfl (pc0 := 90) (pc' := 147) rfl (hb hby at_90) (by decide) (by decide) ?_
          refine st667 _ ?_
          refine XS.dup X667.here hx rfl (hb hby at_150) rfl rfl ?_
          refine XS.aload X667.here hx rfl (hb hby at_151) rfl rfl ?_
          refine st668.trans ?_
          refine XS.astore X668.here hx rfl (hb hby at_156) rfl rfl (l' := #[vi p0, vi p1, vi p2, vi p3, vi p4, vi n, vi c0, vi c1, vi c2, vi c3, vr b662, vr b667, .unset]) rfl ?_
          exact k)
        obtain ⟨s₂, o₂, h1₂, h2₂, h3₂, v₂, L₂, rfl, ⟨hv₂, N₂, -⟩, hE₂⟩ := sg_s158 (l := l) (s := s) hw p0 p1 p2 p3 p4 n c0 c1 c2 c3 b662 b667 [(nar .char c0), (nar .char c1)] kc fm Z668 Cs668 (Nat.le_of_ble_eq_true rfl) (S_cs.ext EX668) hkc (S_fm.ext EX668) hfm (S_ad.ext EX668) (S_hi.ext EX668) (S_lo.ext EX668) (vm0 := vm0) (X668.more (by decide) (by decide)) hx hZ hby hml hown hret (by first | assumption | exact BodyLoose.notSynchronized (by assumption)) rfl N668 hS0 hk668 (CHr.refl (CH0.trans (CHr.ext EXb668 CH0.1)).1)
        refine ⟨s₂, _, pre670 _ h1₂, h2₂, h3₂, v₂, L₂, rfl, ⟨?_, N₂, trivial⟩, hE₂⟩
        rw [hv₂, F_s37, if_neg hc39_642, if_neg hc53_651, if_pos hc72_660]
      · have pre672 : PT p e below (T0.setTop (mkF m 96 #[vi p0, vi p1, vi p2, vi p3, vi p4, vi n, vi c0, vi c1, vi c2, vi c3, .unset, .unset, .unset] [(.int 3), (.int n)])) (T0.setTop (mkF m 37 #[vi p0, vi p1, vi p2, vi p3, vi p4, vi n, vi c0, vi c1, vi c2, vi c3, .unset, .unset, .unset] [])) := fun t k => pre661 t (by
          refine XS.icmpYes X0.here hx rfl (pc0 := 72) (pc' := 93) rfl (hb hby at_72) rfl (feq hc72_660).2 (by decide) (by decide) ?_
          refine XS.iload X0.here hx rfl (hb hby at_93) rfl ?_
          refine XS.iconst X0.here hx rfl (hb hby at_95) ?_
          exact k)
        by_cases hc96_671 : n = (3 : Int32)
        · obtain ⟨T673, h673, k673, X673, e673, E673, A673, st673⟩ := newP X0 hx hZ (ow hw 2 rfl) e0 (g := (mkF m 100 #[vi p0, vi p1, vi p2, vi p3, vi p4, vi n, vi c0, vi c1, vi c2, vi c3, .unset, .unset, .unset] [(.int 3)])) rfl (hb hby at_100) rfl (by decide) (cap := 3) (by decide) (by decide) (by decide) (by decide)
          obtain ⟨b673, g673⟩ : ∃ z, z = h0.size := ⟨_, rfl⟩
          rw [← g673] at A673 st673
          have V_b673 : Arv Z h673 b673 k673 .char (3 : Int32) [(.int 0), (.int 0), (.int 0)] (.int 0) := (Arv.new A673 (by decide)).pad (pad_rep [] (.int 0) 3)
          have szb_b673 : h0.size ≤ b673 := Nat.le_of_eq g673.symm
          have g_b673 : n0 ≤ b673 := Nat.le_trans Z0 (Nat.le_of_eq g673.symm)
          have sz_b673 : h0.size ≤ b673 := Nat.le_trans (Nat.le_refl _) (Nat.le_of_eq g673.symm)
          have EX673 : Ext h0 h673 := E673
          have SZ673 : h0.size ≤ h673.size := EX673.1
          have Z673 : n0 ≤ h673.size := Nat.le_trans Z0 SZ673
          have hk673 := Nat.le_trans hk0 E673.1
          have EXb673 : Ext h0 h673 := E673
          have Vc674 := V_b673
          obtain ⟨cl674, Ar674, q674, S674, N_674, H674, G674⟩ := Vc674
          have hin674 : ¬ ((0 : Int32) < 0 ∨ cl674.slots.size ≤ ((0 : Int32)).toNatClampNeg) := inb_of S674 ⟨by decide, by decide⟩
          obtain ⟨T675, h675, X675, e675, W675, st675⟩ := stC X673 hx hZ e673 Ar674 (j := (0 : Int32)) hin674 (g := (mkF m 106 #[vi p0, vi p1, vi p2, vi p3, vi p4, vi n, vi c0, vi c1, vi c2, vi c3, .unset, .unset, .unset] [(.int c0), (.int 0), (.ref b673), (.ref b673)])) rfl rfl (hb hby at_106)
          have V_b673_675 : Arv Z h675 b673 k673 .char (3 : Int32) [(.int (nar .char c0)), (.int 0), (.int 0)] (.int 0) := Arv.set Ar674 q674 S674 N_674 H674 G674 (fits_nar_char _) W675 0 rfl (Nat.le_of_ble_eq_true rfl)
          have N675 := Fr.snoc X675 N0 g_b673
          have EX675 : Ext h0 h675 := own_extwr EX673 W675 sz_b673
          have SZ675 : h0.size ≤ h675.size := EX675.1
          have Z675 : n0 ≤ h675.size := Nat.le_trans Z0 SZ675
          have hk675 := Nat.le_trans hk673 (Keep.of_wr W675).1
          have EXb675 : Ext h0 h675 := own_extwr EXb673 W675 (Nat.le_trans szb_b673 (Nat.le_of_eq rfl))
          have Vc676 := V_b673_675
          obtain ⟨cl676, Ar676, q676, S676, N_676, H676, G676⟩ := Vc676
          have hin676 : ¬ ((1 : Int32) < 0 ∨ cl676.slots.size ≤ ((1 : Int32)).toNatClampNeg) := inb_of S676 ⟨by decide, by decide⟩
          obtain ⟨T677, h677, X677, e677, W677, st677⟩ := stC X675 hx hZ e675 Ar676 (j := (1 : Int32)) hin676 (g := (mkF m 111 #[vi p0, vi p1, vi p2, vi p3, vi p4, vi n, vi c0, vi c1, vi c2, vi c3, .unset, .unset, .unset] [(.int c1), (.int 1), (.ref b673), (.ref b673)])) rfl rfl (hb hby at_111)
          have V_b673_677 : Arv Z h677 b673 k673 .char (3 : Int32) [(.int (nar .char c0)), (.int (nar .char c1)), (.int 0)] (.int 0) := Arv.set Ar676 q676 S676 N_676 H676 G676 (fits_nar_char _) W677 1 rfl (Nat.le_of_ble_eq_true rfl)
          have N677 := Fr.snoc X677 N675 g_b673
          have EX677 : Ext h0 h677 := own_extwr EX675 W677 sz_b673
          have SZ677 : h0.size ≤ h677.size := EX677.1
          have Z677 : n0 ≤ h677.size := Nat.le_trans Z0 SZ677
          have hk677 := Nat.le_trans hk675 (Keep.of_wr W677).1
          have EXb677 : Ext h0 h677 := own_extwr EXb675 W677 (Nat.le_trans szb_b673 (Nat.le_of_eq rfl))
          have Vc678 := V_b673_677
          obtain ⟨cl678, Ar678, q678, S678, N_678, H678, G678⟩ := Vc678
          have hin678 : ¬ ((2 : Int32) < 0 ∨ cl678.slots.size ≤ ((2 : Int32)).toNatClampNeg) := inb_of S678 ⟨by decide, by decide⟩
          obtain ⟨T679, h679, X679, e679, W679, st679⟩ := stC X677 hx hZ e677 Ar678 (j := (2 : Int32)) hin678 (g := (mkF m 116 #[vi p0, vi p1, vi p2, vi p3, vi p4, vi n, vi c0, vi c1, vi c2, vi c3, .unset, .unset, .unset] [(.int c2), (.int 2), (.ref b673), (.ref b673)])) rfl rfl (hb hby at_116)
          have V_b673_679 : Arv Z h679 b673 k673 .char (3 : Int32) [(.int (nar .char c0)), (.int (nar .char c1)), (.int (nar .char c2))] (.int 0) := Arv.set Ar678 q678 S678 N_678 H678 G678 (fits_nar_char _) W679 2 rfl (Nat.le_of_ble_eq_true rfl)
          have N679 := Fr.snoc X679 N677 g_b673
          have EX679 : Ext h0 h679 := own_extwr EX677 W679 sz_b673
          have SZ679 : h0.size ≤ h679.size := EX679.1
          have Z679 : n0 ≤ h679.size := Nat.le_trans Z0 SZ679
          have hk679 := Nat.le_trans hk677 (Keep.of_wr W679).1
          have EXb679 : Ext h0 h679 := own_extwr EXb677 W679 (Nat.le_trans szb_b673 (Nat.le_of_eq rfl))
          obtain ⟨T680, h680, X680, e680, E680, A680, D680, -, st680⟩ := newO X679 hx hZ hown (ow hw 3 rfl) (ow hw 4 rfl) (ow hw 5 rfl) e679 (g := (mkF m 147 #[vi p0, vi p1, vi p2, vi p3, vi p4, vi n, vi c0, vi c1, vi c2, vi c3, vr b673, .unset, .unset] [])) rfl (hb hby at_147) (by decide) (by decide)
          obtain ⟨b680, g680⟩ : ∃ z, z = h679.size := ⟨_, rfl⟩
          rw [← g680] at A680 D680 st680
          have ne680_b673_b680 : b673 ≠ b680 := Nat.ne_of_lt (Nat.lt_of_lt_of_le V_b673_679.lt (Nat.le_of_eq g680.symm))
          have szb_b680 : h0.size ≤ b680 := Nat.le_trans EXb679.1 (Nat.le_of_eq g680.symm)
          have g_b680 : n0 ≤ b680 := Nat.le_trans Z679 (Nat.le_of_eq g680.symm)
          have sz_b680 : h0.size ≤ b680 := Nat.le_trans SZ679 (Nat.le_of_eq g680.symm)
          have EX680 : Ext h0 h680 := own_exttr EX679 E680
          have SZ680 : h0.size ≤ h680.size := EX680.1
          have Z680 : n0 ≤ h680.size := Nat.le_trans Z0 SZ680
          have hk680 := Nat.le_trans hk679 E680.1
          have EXb680 : Ext h0 h680 := own_exttr EXb679 E680
          have F0_value_b680 := D680 (Or.inr (ow hw 18 rfl)) (ty := (.array .byte)) (by decide)
          have F0_coder_b680 := D680 (Or.inr (ow hw 19 rfl)) (ty := .byte) (by decide)
          have fx682 := (V_b673_679.ext E680)
          obtain ⟨_, _, ⟨T681, L681, k681, n681⟩, -, X681, ⟨Lc681, hQ681, l681, y681, z681⟩, st681⟩ := X680.specialBack hx (y := nm20) rfl hown (mvT hZ (ow hw 6 rfl)) (mvT hZ (ow hw 7 rfl)) (mvT hZ (ow hw 8 rfl)) (by decide) (backOf (W := 1) (rm_in1C3 l Z a0' hw [] b680 b673 k673 (nar .char c0) (nar .char c1) (nar .char c2) kc h680 n0 Z680 A680 F0_value_b680 F0_coder_b680 g_b680 fx682 (Ne.symm ne680_b673_b680) (own_chb _) (own_chb _) (own_chb _) (S_cs.ext EX680) hkc (S_ad.ext EX680) (S_hi.ext EX680) (S_lo.ext EX680)) hZ (ow hw 8 rfl) (ow hw 5 rfl) (by decide) (by decide)) (g := (mkF m 153 #[vi p0, vi p1, vi p2, vi p3, vi p4, vi n, vi c0, vi c1, vi c2, vi c3, vr b673, .unset, .unset] [(.ref b673), (.ref b680), (.ref b680)])) rfl (by rw [hml]; rfl) (Steps.refl _) (a := b680) (argsL := [(.ref b673)]) (rest := [(.ref b680)]) (lenOf own_pd20 rfl) rfl (by show 2 * 0 + _ ≤ _; exact Nat.le_of_eq rfl) (hb hby at_153) (fun _ _ => ⟨rfl, e680, (by decide : 2 + 2 ≤ _), (by decide : 7 + 9 ≤ _)⟩)
          dsimp only [Pt.U, Pt.locs, Pt.cells, Pt.slots] at X681 l681 y681 z681 st681 hQ681
          subst l681 y681 z681
          obtain ⟨rfl, N681q, K681, Cs681⟩ := hQ681
          have N681 := Fr.app N679 N681q
          have EX681 : Ext h0 T681.heap := own_extkeep EX680 K681 sz_b680
          have SZ681 : h0.size ≤ T681.heap.size := EX681.1
          have Z681 : n0 ≤ T681.heap.size := Nat.le_trans Z0 SZ681
          have hk681 := Nat.le_trans hk680 K681.1
          have EXb681 : Ext h0 T681.heap := own_extkeep EXb680 K681 szb_b680
          have pre683 : PT p e below (T681.setTop (mkF m 158 #[vi p0, vi p1, vi p2, vi p3, vi p4, vi n, vi c0, vi c1, vi c2, vi c3, vr b673, vr b680, .unset] [])) (T0.setTop (mkF m 37 #[vi p0, vi p1, vi p2, vi p3, vi p4, vi n, vi c0, vi c1, vi c2, vi c3, .unset, .unset, .unset] [])) := fun t k => pre672 t (by
            refine XS.icmpNo X0.here hx rfl (hb hby at_96) rfl (teq hc96_671).2 ?_
            refine XS.iconst X0.here hx rfl (hb hby at_99) ?_
            refine st673 _ ?_
            refine XS.dup X673.here hx rfl (hb hby at_102) rfl rfl ?_
            refine XS.iconst X673.here hx rfl (hb hby at_103) ?_
            refine XS.iload X673.here hx rfl (hb hby at_104) rfl ?_
            refine st675 _ ?_
            refine XS.dup X675.here hx rfl (hb hby at_107) rfl rfl ?_
            refine XS.iconst X675.here hx rfl (hb hby at_108) ?_
            refine XS.iload X675.here hx rfl (hb hby at_109) rfl ?_
            refine st677 _ ?_
            refine XS.dup X677.here hx rfl (hb hby at_112) rfl rfl ?_
            refine XS.iconst X677.here hx rfl (hb hby at_113) ?_
            refine XS.iload X677.here hx rfl (hb hby at_114) rfl ?_
            refine st679 _ ?_
            refine XS.astore X679.here hx rfl (hb hby at_117) rfl rfl (l' := #[vi p0, vi p1, vi p2, vi p3, vi p4, vi n, vi c0, vi c1, vi c2, vi c3, vr b673, .unset, .unset]) rfl ?_
            refine XS.goto X679.here hx rfl (pc0 := 119) (pc' := 147) rfl (hb hby at_119) (by decide) (by decide) ?_
            refine st680 _ ?_
            refine XS.dup X680.here hx rfl (hb hby at_150) rfl rfl ?_
            refine XS.aload X680.here hx rfl (hb hby at_151) rfl rfl ?_
            refine st681.trans ?_
            refine XS.astore X681.here hx rfl (hb hby at_156) rfl rfl (l' := #[vi p0, vi p1, vi p2, vi p3, vi p4, vi n, vi c0, vi c1, vi c2, vi c3, vr b673, vr b680, .unset]) rfl ?_
            exact k)
          obtain ⟨s₂, o₂, h1₂, h2₂, h3₂, v₂, L₂, rfl, ⟨hv₂, N₂, -⟩, hE₂⟩ := sg_s158 (l := l) (s := s) hw p0 p1 p2 p3 p4 n c0 c1 c2 c3 b673 b680 [(nar .char c0), (nar .char c1), (nar .char c2)] kc fm Z681 Cs681 (Nat.le_of_ble_eq_true rfl) (S_cs.ext EX681) hkc (S_fm.ext EX681) hfm (S_ad.ext EX681) (S_hi.ext EX681) (S_lo.ext EX681) (vm0 := vm0) (X681.more (by decide) (by decide)) hx hZ hby hml hown hret (by first | assumption | exact BodyLoose.notSynchronized (by assumption)) rfl N681 hS0 hk681 (CHr.refl (CH0.trans (CHr.ext EXb681 CH0.1)).1)
          refine ⟨s₂, _, pre683 _ h1₂, h2₂, h3₂, v₂, L₂, rfl, ⟨?_, N₂, trivial⟩, hE₂⟩
          rw [hv₂, F_s37, if_neg hc39_642, if_neg hc53_651, if_neg hc72_660, if_pos hc96_671]
        · obtain ⟨T684, h684, k684, X684, e684, E684, A684, st684⟩ := newP X0 hx hZ (ow hw 2 rfl) e0 (g := (mkF m 123 #[vi p0, vi p1, vi p2, vi p3, vi p4, vi n, vi c0, vi c1, vi c2, vi c3, .unset, .unset, .unset] [(.int 4)])) rfl (hb hby at_123) rfl (by decide) (cap := 4) (by decide) (by decide) (by decide) (by decide)
          obtain ⟨b684, g684⟩ : ∃ z, z = h0.size := ⟨_, rfl⟩
          rw [← g684] at A684 st684
          have V_b684 : Arv Z h684 b684 k684 .char (4 : Int32) [(.int 0), (.int 0), (.int 0), (.int 0)] (.int 0) := (Arv.new A684 (by decide)).pad (pad_rep [] (.int 0) 4)
          have szb_b684 : h0.size ≤ b684 := Nat.le_of_eq g684.symm
          have g_b684 : n0 ≤ b684 := Nat.le_trans Z0 (Nat.le_of_eq g684.symm)
          have sz_b684 : h0.size ≤ b684 := Nat.le_trans (Nat.le_refl _) (Nat.le_of_eq g684.symm)
          have EX684 : Ext h0 h684 := E684
          have SZ684 : h0.size ≤ h684.size := EX684.1
          have Z684 : n0 ≤ h684.size := Nat.le_trans Z0 SZ684
          have hk684 := Nat.le_trans hk0 E684.1
          have EXb684 : Ext h0 h684 := E684
          have Vc685 := V_b684
          obtain ⟨cl685, Ar685, q685, S685, N_685, H685, G685⟩ := Vc685
          have hin685 : ¬ ((0 : Int32) < 0 ∨ cl685.slots.size ≤ ((0 : Int32)).toNatClampNeg) := inb_of S685 ⟨by decide, by decide⟩
          obtain ⟨T686, h686, X686, e686, W686, st686⟩ := stC X684 hx hZ e684 Ar685 (j := (0 : Int32)) hin685 (g := (mkF m 129 #[vi p0, vi p1, vi p2, vi p3, vi p4, vi n, vi c0, vi c1, vi c2, vi c3, .unset, .unset, .unset] [(.int c0), (.int 0), (.ref b684), (.ref b684)])) rfl rfl (hb hby at_129)
          have V_b684_686 : Arv Z h686 b684 k684 .char (4 : Int32) [(.int (nar .char c0)), (.int 0), (.int 0), (.int 0)] (.int 0) := Arv.set Ar685 q685 S685 N_685 H685 G685 (fits_nar_char _) W686 0 rfl (Nat.le_of_ble_eq_true rfl)
          have N686 := Fr.snoc X686 N0 g_b684
          have EX686 : Ext h0 h686 := own_extwr EX684 W686 sz_b684
          have SZ686 : h0.size ≤ h686.size := EX686.1
          have Z686 : n0 ≤ h686.size := Nat.le_trans Z0 SZ686
          have hk686 := Nat.le_trans hk684 (Keep.of_wr W686).1
          have EXb686 : Ext h0 h686 := own_extwr EXb684 W686 (Nat.le_trans szb_b684 (Nat.le_of_eq rfl))
          have Vc687 := V_b684_686
          obtain ⟨cl687, Ar687, q687, S687, N_687, H687, G687⟩ := Vc687
          have hin687 : ¬ ((1 : Int32) < 0 ∨ cl687.slots.size ≤ ((1 : Int32)).toNatClampNeg) := inb_of S687 ⟨by decide, by decide⟩
          obtain ⟨T688, h688, X688, e688, W688, st688⟩ := stC X686 hx hZ e686 Ar687 (j := (1 : Int32)) hin687 (g := (mkF m 134 #[vi p0, vi p1, vi p2, vi p3, vi p4, vi n, vi c0, vi c1, vi c2, vi c3, .unset, .unset, .unset] [(.int c1), (.int 1), (.ref b684), (.ref b684)])) rfl rfl (hb hby at_134)
          have V_b684_688 : Arv Z h688 b684 k684 .char (4 : Int32) [(.int (nar .char c0)), (.int (nar .char c1)), (.int 0), (.int 0)] (.int 0) := Arv.set Ar687 q687 S687 N_687 H687 G687 (fits_nar_char _) W688 1 rfl (Nat.le_of_ble_eq_true rfl)
          have N688 := Fr.snoc X688 N686 g_b684
          have EX688 : Ext h0 h688 := own_extwr EX686 W688 sz_b684
          have SZ688 : h0.size ≤ h688.size := EX688.1
          have Z688 : n0 ≤ h688.size := Nat.le_trans Z0 SZ688
          have hk688 := Nat.le_trans hk686 (Keep.of_wr W688).1
          have EXb688 : Ext h0 h688 := own_extwr EXb686 W688 (Nat.le_trans szb_b684 (Nat.le_of_eq rfl))
          have Vc689 := V_b684_688
          obtain ⟨cl689, Ar689, q689, S689, N_689, H689, G689⟩ := Vc689
          have hin689 : ¬ ((2 : Int32) < 0 ∨ cl689.slots.size ≤ ((2 : Int32)).toNatClampNeg) := inb_of S689 ⟨by decide, by decide⟩
          obtain ⟨T690, h690, X690, e690, W690, st690⟩ := stC X688 hx hZ e688 Ar689 (j := (2 : Int32)) hin689 (g := (mkF m 139 #[vi p0, vi p1, vi p2, vi p3, vi p4, vi n, vi c0, vi c1, vi c2, vi c3, .unset, .unset, .unset] [(.int c2), (.int 2), (.ref b684), (.ref b684)])) rfl rfl (hb hby at_139)
          have V_b684_690 : Arv Z h690 b684 k684 .char (4 : Int32) [(.int (nar .char c0)), (.int (nar .char c1)), (.int (nar .char c2)), (.int 0)] (.int 0) := Arv.set Ar689 q689 S689 N_689 H689 G689 (fits_nar_char _) W690 2 rfl (Nat.le_of_ble_eq_true rfl)
          have N690 := Fr.snoc X690 N688 g_b684
          have EX690 : Ext h0 h690 := own_extwr EX688 W690 sz_b684
          have SZ690 : h0.size ≤ h690.size := EX690.1
          have Z690 : n0 ≤ h690.size := Nat.le_trans Z0 SZ690
          have hk690 := Nat.le_trans hk688 (Keep.of_wr W690).1
          have EXb690 : Ext h0 h690 := own_extwr EXb688 W690 (Nat.le_trans szb_b684 (Nat.le_of_eq rfl))
          have Vc691 := V_b684_690
          obtain ⟨cl691, Ar691, q691, S691, N_691, H691, G691⟩ := Vc691
          have hin691 : ¬ ((3 : Int32) < 0 ∨ cl691.slots.size ≤ ((3 : Int32)).toNatClampNeg) := inb_of S691 ⟨by decide, by decide⟩
          obtain ⟨T692, h692, X692, e692, W692, st692⟩ := stC X690 hx hZ e690 Ar691 (j := (3 : Int32)) hin691 (g := (mkF m 144 #[vi p0, vi p1, vi p2, vi p3, vi p4, vi n, vi c0, vi c1, vi c2, vi c3, .unset, .unset, .unset] [(.int c3), (.int 3), (.ref b684), (.ref b684)])) rfl rfl (hb hby at_144)
          have V_b684_692 : Arv Z h692 b684 k684 .char (4 : Int32) [(.int (nar .char c0)), (.int (nar .char c1)), (.int (nar .char c2)), (.int (nar .char c3))] (.int 0) := Arv.set Ar691 q691 S691 N_691 H691 G691 (fits_nar_char _) W692 3 rfl (Nat.le_of_ble_eq_true rfl)
          have N692 := Fr.snoc X692 N690 g_b684
          have EX692 : Ext h0 h692 := own_extwr EX690 W692 sz_b684
          have SZ692 : h0.size ≤ h692.size := EX692.1
          have Z692 : n0 ≤ h692.size := Nat.le_trans Z0 SZ692
          have hk692 := Nat.le_trans hk690 (Keep.of_wr W692).1
          have EXb692 : Ext h0 h692 := own_extwr EXb690 W692 (Nat.le_trans szb_b684 (Nat.le_of_eq rfl))
          obtain ⟨T693, h693, X693, e693, E693, A693, D693, -, st693⟩ := newO X692 hx hZ hown (ow hw 3 rfl) (ow hw 4 rfl) (ow hw 5 rfl) e692 (g := (mkF m 147 #[vi p0, vi p1, vi p2, vi p3, vi p4, vi n, vi c0, vi c1, vi c2, vi c3, vr b684, .unset, .unset] [])) rfl (hb hby at_147) (by decide) (by decide)
          obtain ⟨b693, g693⟩ : ∃ z, z = h692.size := ⟨_, rfl⟩
          rw [← g693] at A693 D693 st693
          have ne693_b684_b693 : b684 ≠ b693 := Nat.ne_of_lt (Nat.lt_of_lt_of_le V_b684_692.lt (Nat.le_of_eq g693.symm))
          have szb_b693 : h0.size ≤ b693 := Nat.le_trans EXb692.1 (Nat.le_of_eq g693.symm)
          have g_b693 : n0 ≤ b693 := Nat.le_trans Z692 (Nat.le_of_eq g693.symm)
          have sz_b693 : h0.size ≤ b693 := Nat.le_trans SZ692 (Nat.le_of_eq g693.symm)
          have EX693 : Ext h0 h693 := own_exttr EX692 E693
          have SZ693 : h0.size ≤ h693.size := EX693.1
          have Z693 : n0 ≤ h693.size := Nat.le_trans Z0 SZ693
          have hk693 := Nat.le_trans hk692 E693.1
          have EXb693 : Ext h0 h693 := own_exttr EXb692 E693
          have F0_value_b693 := D693 (Or.inr (ow hw 18 rfl)) (ty := (.array .byte)) (by decide)
          have F0_coder_b693 := D693 (Or.inr (ow hw 19 rfl)) (ty := .byte) (by decide)
          have fx695 := (V_b684_692.ext E693)
          obtain ⟨_, _, ⟨T694, L694, k694, n694⟩, -, X694, ⟨Lc694, hQ694, l694, y694, z694⟩, st694⟩ := X693.specialBack hx (y := nm20) rfl hown (mvT hZ (ow hw 6 rfl)) (mvT hZ (ow hw 7 rfl)) (mvT hZ (ow hw 8 rfl)) (by decide) (backOf (W := 1) (rm_in1C4 l Z a0' hw [] b693 b684 k684 (nar .char c0) (nar .char c1) (nar .char c2) (nar .char c3) kc h693 n0 Z693 A693 F0_value_b693 F0_coder_b693 g_b693 fx695 (Ne.symm ne693_b684_b693) (own_chb _) (own_chb _) (own_chb _) (own_chb _) (S_cs.ext EX693) hkc (S_ad.ext EX693) (S_hi.ext EX693) (S_lo.ext EX693)) hZ (ow hw 8 rfl) (ow hw 5 rfl) (by decide) (by decide)) (g := (mkF m 153 #[vi p0, vi p1, vi p2, vi p3, vi p4, vi n, vi c0, vi c1, vi c2, vi c3, vr b684, .unset, .unset] [(.ref b684), (.ref b693), (.ref b693)])) rfl (by rw [hml]; rfl) (Steps.refl _) (a := b693) (argsL := [(.ref b684)]) (rest := [(.ref b693)]) (lenOf own_pd20 rfl) rfl (by show 2 * 0 + _ ≤ _; exact Nat.le_of_eq rfl) (hb hby at_153) (fun _ _ => ⟨rfl, e693, (by decide : 2 + 2 ≤ _), (by decide : 8 + 12 ≤ _)⟩)
          dsimp only [Pt.U, Pt.locs, Pt.cells, Pt.slots] at X694 l694 y694 z694 st694 hQ694
          subst l694 y694 z694
          obtain ⟨rfl, N694q, K694, Cs694⟩ := hQ694
          have N694 := Fr.app N692 N694q
          have EX694 : Ext h0 T694.heap := own_extkeep EX693 K694 sz_b693
          have SZ694 : h0.size ≤ T694.heap.size := EX694.1
          have Z694 : n0 ≤ T694.heap.size := Nat.le_trans Z0 SZ694
          have hk694 := Nat.le_trans hk693 K694.1
          have EXb694 : Ext h0 T694.heap := own_extkeep EXb693 K694 szb_b693
          have pre696 : PT p e below (T694.setTop (mkF m 158 #[vi p0, vi p1, vi p2, vi p3, vi p4, vi n, vi c0, vi c1, vi c2, vi c3, vr b684, vr b693, .unset] [])) (T0.setTop (mkF m 37 #[vi p0, vi p1, vi p2, vi p3, vi p4, vi n, vi c0, vi c1, vi c2, vi c3, .unset, .unset, .unset] [])) := fun t k => pre672 t (by
            refine XS.icmpYes X0.here hx rfl (pc0 := 96) (pc' := 122) rfl (hb hby at_96) rfl (feq hc96_671).2 (by decide) (by decide) ?_
            refine XS.iconst X0.here hx rfl (hb hby at_122) ?_
            refine st684 _ ?_
            refine XS.dup X684.here hx rfl (hb hby at_125) rfl rfl ?_
            refine XS.iconst X684.here hx rfl (hb hby at_126) ?_
            refine XS.iload X684.here hx rfl (hb hby at_127) rfl ?_
            refine st686 _ ?_
            refine XS.dup X686.here hx rfl (hb hby at_130) rfl rfl ?_
            refine XS.iconst X686.here hx rfl (hb hby at_131) ?_
            refine XS.iload X686.here hx rfl (hb hby at_132) rfl ?_
            refine st688 _ ?_
            refine XS.dup X688.here hx rfl (hb hby at_135) rfl rfl ?_
            refine XS.iconst X688.here hx rfl (hb hby at_136) ?_
            refine XS.iload X688.here hx rfl (hb hby at_137) rfl ?_
            refine st690 _ ?_
            refine XS.dup X690.here hx rfl (hb hby at_140) rfl rfl ?_
            refine XS.iconst X690.here hx rfl (hb hby at_141) ?_
            refine XS.iload X690.here hx rfl (hb hby at_142) rfl ?_
            refine st692 _ ?_
            refine XS.astore X692.here hx rfl (hb hby at_145) rfl rfl (l' := #[vi p0, vi p1, vi p2, vi p3, vi p4, vi n, vi c0, vi c1, vi c2, vi c3, vr b684, .unset, .unset]) rfl ?_
            refine st693 _ ?_
            refine XS.dup X693.here hx rfl (hb hby at_150) rfl rfl ?_
            refine XS.aload X693.here hx rfl (hb hby at_151) rfl rfl ?_
            refine st694.trans ?_
            refine XS.astore X694.here hx rfl (hb hby at_156) rfl rfl (l' := #[vi p0, vi p1, vi p2, vi p3, vi p4, vi n, vi c0, vi c1, vi c2, vi c3, vr b684, vr b693, .unset]) rfl ?_
            exact k)
          obtain ⟨s₂, o₂, h1₂, h2₂, h3₂, v₂, L₂, rfl, ⟨hv₂, N₂, -⟩, hE₂⟩ := sg_s158 (l := l) (s := s) hw p0 p1 p2 p3 p4 n c0 c1 c2 c3 b684 b693 [(nar .char c0), (nar .char c1), (nar .char c2), (nar .char c3)] kc fm Z694 Cs694 (Nat.le_of_ble_eq_true rfl) (S_cs.ext EX694) hkc (S_fm.ext EX694) hfm (S_ad.ext EX694) (S_hi.ext EX694) (S_lo.ext EX694) (vm0 := vm0) (X694.more (by decide) (by decide)) hx hZ hby hml hown hret (by first | assumption | exact BodyLoose.notSynchronized (by assumption)) rfl N694 hS0 hk694 (CHr.refl (CH0.trans (CHr.ext EXb694 CH0.1)).1)
          refine ⟨s₂, _, pre696 _ h1₂, h2₂, h3₂, v₂, L₂, rfl, ⟨?_, N₂, trivial⟩, hE₂⟩
          rw [hv₂, F_s37, if_neg hc39_642, if_neg hc53_651, if_neg hc72_660, if_neg hc96_671]
def F_law (p0 : Int32) (p1 : Int32) (p2 : Int32) (p3 : Int32) (p4 : Int32) : Int32 := (F_s37 ((p0 &&& (2147483647 : Int32)) % (5 : Int32)) ((p1 &&& (65535 : Int32)).toUInt32.toUInt16.toUInt32.toInt32) ((p2 &&& (65535 : Int32)).toUInt32.toUInt16.toUInt32.toInt32) ((p3 &&& (65535 : Int32)).toUInt32.toUInt16.toUInt32.toInt32) ((p4 &&& (65535 : Int32)).toUInt32.toUInt16.toUInt32.toInt32))
theorem own_ef_law (m : MethodId) (p0 : Int32) (p1 : Int32) (p2 : Int32) (p3 : Int32) (p4 : Int32) : entryFrame m #[(.int p0), (.int p1), (.int p2), (.int p3), (.int p4)] maxLocals = mkF m 0 #[vi p0, vi p1, vi p2, vi p3, vi p4, .unset, .unset, .unset, .unset, .unset, .unset, .unset, .unset] [] := by first | (simp [entryFrame, mkF, argsToLocals, Value.category, maxLocals]; done) | rfl
def Q_law (Z : State) (p0 : Int32) (p1 : Int32) (p2 : Int32) (p3 : Int32) (p4 : Int32) (kc : Int32) (fm : Value) (h0 : Heap) (n0 : Nat) (v : Option Value) (h : Heap) (L : List Loc) : Prop := v = some (.int (F_law p0 p1 p2 p3 p4)) ∧ Fr n0 L ∧ True
theorem rm_law (l : Launch) (Z : State) (a0' : Array Value) (hw : ∀ d ∈ tables_1, d.before a0' Z = true) (ws : List Jvm.Cond) (p0 : Int32) (p1 : Int32) (p2 : Int32) (p3 : Int32) (p4 : Int32) (kc : Int32) (fm : Value) (h0 : Heap) (n0 : Nat) (Z0 : n0 ≤ h0.size) (S_cs : Sta Z h0 "java/lang/String" "COMPACT_STRINGS" "Z" (.int kc)) (hkc : ¬ (kc = (0 : Int32))) (S_fm : Sta Z h0 "jdk/internal/util/Preconditions" "SIOOBE_FORMATTER" "Ljava/util/function/BiFunction;" fm) (hfm : fm.isRef = true) (S_ad : Sta Z h0 "java/lang/StringUTF16" "$assertionsDisabled" "Z" (.int 1)) (S_hi : Sta Z h0 "java/lang/StringUTF16" "HI_BYTE_SHIFT" "I" (.int 0)) (S_lo : Sta Z h0 "java/lang/StringUTF16" "LO_BYTE_SHIFT" "I" (.int 8)) :
    MetFree l x (head1 (Jvm.Cond.code x code maxLocals ret :: ws) room_1) (fun a U => a = #[(.int p0), (.int p1), (.int p2), (.int p3), (.int p4)] ∧ Z.Warmed39 U.vm ∧ U.heap = h0 ∧ CHv Z own_EL U.vm h0 ∧ ∀ x ∈ ([] : List Addr), Safe Z own_EL U.vm h0 x) (fun _ _ _ _ _ => True) (fun _ U o U' => ∃ v L, o = .returned v ∧ Q_law Z p0 p1 p2 p3 p4 kc fm h0 n0 v U'.heap L ∧ ReturnedEndW U o U' L room_1.cells room_1.slots) := by
  refine MetFree.of_bodySF (plainFor_of_name own_pn5) hisR ?_
  intro p e s m args below meth c s₁ Bd hml0 hP hK
  obtain ⟨rfl, hZ, hh, hCH, hSf⟩ := hP
  have hx := Bd.exec
  have hby := Bd.bytes
  have hml : c.maxLocals = 13 := hml0
  have hown : s.vm.findClass "com/example/lead_line/leadline/TermsIsTermPinLaw" = some m.cls := findClass_of_methodNamed Bd.named
  have hnm := (name_of_methodNamed Bd.named Bd.method).1
  have X0 : Stand p l e room_1 s m #[(.int p0), (.int p1), (.int p2), (.int p3), (.int p4)] below meth c s₁ [] 0 0 := Stand.of_body Bd
  have e0 : s₁.heap = h0 := by rw [← hh, Bd.state]; rfl
  have N0 := Fr.nil n0
  have pre0 : PT p e below (s₁.setTop (mkF m 0 #[vi p0, vi p1, vi p2, vi p3, vi p4, .unset, .unset, .unset, .unset, .unset, .unset, .unset, .unset] [])) (s₁.setTop (entryFrame m #[(.int p0), (.int p1), (.int p2), (.int p3), (.int p4)] maxLocals)) := fun t k => castTop (own_ef_law m p0 p1 p2 p3 p4) k
  have CH0 : CHr Z own_EL s.vm h0 s.vm h0 := CHr.refl hCH
  have hEW := own_EW hw
  have hS0 : s.Since s.vm 0 := (State.WarmedH.refl s).since 0
  have hk0 : 0 ≤ h0.size := Nat.zero_le _
  have pre697 : PT p e below (s₁.setTop (mkF m 37 #[vi p0, vi p1, vi p2, vi p3, vi p4, vi ((p0 &&& (2147483647 : Int32)) % (5 : Int32)), vi ((p1 &&& (65535 : Int32)).toUInt32.toUInt16.toUInt32.toInt32), vi ((p2 &&& (65535 : Int32)).toUInt32.toUInt16.toUInt32.toInt32), vi ((p3 &&& (65535 : Int32)).toUInt32.toUInt16.toUInt32.toInt32), vi ((p4 &&& (65535 : Int32)).toUInt32.toUInt16.toUInt32.toInt32), .unset, .unset, .unset] [])) (s₁.setTop (entryFrame m #[(.int p0), (.int p1), (.int p2), (.int p3), (.int p4)] maxLocals)) := fun t k => pre0 t (by
    refine XS.iloadN X0.here hx rfl (hb hby at_0) rfl ?_
    refine X0.ldcInt hx hown (mvT hZ (ow hw 0 rfl)) (g := (mkF m 1 #[vi p0, vi p1, vi p2, vi p3, vi p4, .unset, .unset, .unset, .unset, .unset, .unset, .unset, .unset] [(.int p0)])) rfl (hb hby at_1) _ ?_
    refine XS.iand X0.here hx rfl (hb hby at_3) rfl ?_
    refine XS.iconst X0.here hx rfl (hb hby at_4) ?_
    refine iremM X0 hx rfl (hb hby at_5) rfl (by decide) ?_
    refine XS.istore X0.here hx rfl (hb hby at_6) rfl (l' := #[vi p0, vi p1, vi p2, vi p3, vi p4, vi ((p0 &&& (2147483647 : Int32)) % (5 : Int32)), .unset, .unset, .unset, .unset, .unset, .unset, .unset]) rfl ?_
    refine XS.iloadN X0.here hx rfl (hb hby at_8) rfl ?_
    refine X0.ldcInt hx hown (mvT hZ (ow hw 1 rfl)) (g := (mkF m 9 #[vi p0, vi p1, vi p2, vi p3, vi p4, vi ((p0 &&& (2147483647 : Int32)) % (5 : Int32)), .unset, .unset, .unset, .unset, .unset, .unset, .unset] [(.int p1)])) rfl (hb hby at_9) _ ?_
    refine XS.iand X0.here hx rfl (hb hby at_11) rfl ?_
    refine XS.i2c X0.here hx rfl (hb hby at_12) rfl ?_
    refine XS.istore X0.here hx rfl (hb hby at_13) rfl (l' := #[vi p0, vi p1, vi p2, vi p3, vi p4, vi ((p0 &&& (2147483647 : Int32)) % (5 : Int32)), vi ((p1 &&& (65535 : Int32)).toUInt32.toUInt16.toUInt32.toInt32), .unset, .unset, .unset, .unset, .unset, .unset]) rfl ?_
    refine XS.iloadN X0.here hx rfl (hb hby at_15) rfl ?_
    refine X0.ldcInt hx hown (mvT hZ (ow hw 1 rfl)) (g := (mkF m 16 #[vi p0, vi p1, vi p2, vi p3, vi p4, vi ((p0 &&& (2147483647 : Int32)) % (5 : Int32)), vi ((p1 &&& (65535 : Int32)).toUInt32.toUInt16.toUInt32.toInt32), .unset, .unset, .unset, .unset, .unset, .unset] [(.int p2)])) rfl (hb hby at_16) _ ?_
    refine XS.iand X0.here hx rfl (hb hby at_18) rfl ?_
    refine XS.i2c X0.here hx rfl (hb hby at_19) rfl ?_
    refine XS.istore X0.here hx rfl (hb hby at_20) rfl (l' := #[vi p0, vi p1, vi p2, vi p3, vi p4, vi ((p0 &&& (2147483647 : Int32)) % (5 : Int32)), vi ((p1 &&& (65535 : Int32)).toUInt32.toUInt16.toUInt32.toInt32), vi ((p2 &&& (65535 : Int32)).toUInt32.toUInt16.toUInt32.toInt32), .unset, .unset, .unset, .unset, .unset]) rfl ?_
    refine XS.iloadN X0.here hx rfl (hb hby at_22) rfl ?_
    refine X0.ldcInt hx hown (mvT hZ (ow hw 1 rfl)) (g := (mkF m 23 #[vi p0, vi p1, vi p2, vi p3, vi p4, vi ((p0 &&& (2147483647 : Int32)) % (5 : Int32)), vi ((p1 &&& (65535 : Int32)).toUInt32.toUInt16.toUInt32.toInt32), vi ((p2 &&& (65535 : Int32)).toUInt32.toUInt16.toUInt32.toInt32), .unset, .unset, .unset, .unset, .unset] [(.int p3)])) rfl (hb hby at_23) _ ?_
    refine XS.iand X0.here hx rfl (hb hby at_25) rfl ?_
    refine XS.i2c X0.here hx rfl (hb hby at_26) rfl ?_
    refine XS.istore X0.here hx rfl (hb hby at_27) rfl (l' := #[vi p0, vi p1, vi p2, vi p3, vi p4, vi ((p0 &&& (2147483647 : Int32)) % (5 : Int32)), vi ((p1 &&& (65535 : Int32)).toUInt32.toUInt16.toUInt32.toInt32), vi ((p2 &&& (65535 : Int32)).toUInt32.toUInt16.toUInt32.toInt32), vi ((p3 &&& (65535 : Int32)).toUInt32.toUInt16.toUInt32.toInt32), .unset, .unset, .unset, .unset]) rfl ?_
    refine XS.iload X0.here hx rfl (hb hby at_29) rfl ?_
    refine X0.ldcInt hx hown (mvT hZ (ow hw 1 rfl)) (g := (mkF m 31 #[vi p0, vi p1, vi p2, vi p3, vi p4, vi ((p0 &&& (2147483647 : Int32)) % (5 : Int32)), vi ((p1 &&& (65535 : Int32)).toUInt32.toUInt16.toUInt32.toInt32), vi ((p2 &&& (65535 : Int32)).toUInt32.toUInt16.toUInt32.toInt32), vi ((p3 &&& (65535 : Int32)).toUInt32.toUInt16.toUInt32.toInt32), .unset, .unset, .unset, .unset] [(.int p4)])) rfl (hb hby at_31) _ ?_
    refine XS.iand X0.here hx rfl (hb hby at_33) rfl ?_
    refine XS.i2c X0.here hx rfl (hb hby at_34) rfl ?_
    refine XS.istore X0.here hx rfl (hb hby at_35) rfl (l' := #[vi p0, vi p1, vi p2, vi p3, vi p4, vi ((p0 &&& (2147483647 : Int32)) % (5 : Int32)), vi ((p1 &&& (65535 : Int32)).toUInt32.toUInt16.toUInt32.toInt32), vi ((p2 &&& (65535 : Int32)).toUInt32.toUInt16.toUInt32.toInt32), vi ((p3 &&& (65535 : Int32)).toUInt32.toUInt16.toUInt32.toInt32), vi ((p4 &&& (65535 : Int32)).toUInt32.toUInt16.toUInt32.toInt32), .unset, .unset, .unset]) rfl ?_
    exact k)
  obtain ⟨s₂, o₂, h1₂, h2₂, h3₂, v₂, L₂, rfl, ⟨hv₂, N₂, -⟩, hE₂⟩ := sg_s37 (l := l) (s := s) hw p0 p1 p2 p3 p4 ((p0 &&& (2147483647 : Int32)) % (5 : Int32)) ((p1 &&& (65535 : Int32)).toUInt32.toUInt16.toUInt32.toInt32) ((p2 &&& (65535 : Int32)).toUInt32.toUInt16.toUInt32.toInt32) ((p3 &&& (65535 : Int32)).toUInt32.toUInt16.toUInt32.toInt32) ((p4 &&& (65535 : Int32)).toUInt32.toUInt16.toUInt32.toInt32) kc fm Z0 S_cs hkc S_fm hfm S_ad S_hi S_lo (vm0 := s.vm) X0 hx hZ hby hml hown Bd.returns (by first | assumption | exact BodyLoose.notSynchronized (by assumption)) e0 N0 hS0 hk0 (CHr.refl CH0.1)
  refine ⟨s₂, _, pre697 _ h1₂, h2₂, h3₂, v₂, L₂, rfl, ⟨?_, N₂, trivial⟩, hE₂⟩
  rw [hv₂, F_law]
theorem own_keyA (c : Int32) (h : 0 ≤ c.toInt ∧ c.toInt ≤ 65535) : (F_aln c = 0) ↔ ¬ (c < 128 ∧ ¬ F_tb c.toInt8.toInt32 = 0) := by
  by_cases q : c < 128
  · have q' := q
    rw [Int32.lt_iff_toInt_lt, show (128 : Int32).toInt = 128 from rfl] at q'
    have e : c.toInt8.toInt32 = c := by
      rw [← Int32.toInt_inj, Int8.toInt_toInt32, Int32.toInt_toInt8, Int.bmod_def]
      omega
    rw [e, show F_tb c = F_aln c from rfl]
    exact ⟨fun z y => y.2 z, fun z => Classical.byContradiction fun y => z ⟨q, y⟩⟩
  · have q' := q
    rw [Int32.lt_iff_toInt_lt, show (128 : Int32).toInt = 128 from rfl] at q'
    have a1 : ¬ c < (97 : Int32) := by rw [Int32.lt_iff_toInt_lt, show (97 : Int32).toInt = 97 from rfl]; omega
    have a2 : (122 : Int32) < c := by rw [Int32.lt_iff_toInt_lt, show (122 : Int32).toInt = 122 from rfl]; omega
    have a3 : ¬ c < (65 : Int32) := by rw [Int32.lt_iff_toInt_lt, show (65 : Int32).toInt = 65 from rfl]; omega
    have a4 : (90 : Int32) < c := by rw [Int32.lt_iff_toInt_lt, show (90 : Int32).toInt = 90 from rfl]; omega
    have a5 : ¬ c < (48 : Int32) := by rw [Int32.lt_iff_toInt_lt, show (48 : Int32).toInt = 48 from rfl]; omega
    have a6 : (57 : Int32) < c := by rw [Int32.lt_iff_toInt_lt, show (57 : Int32).toInt = 57 from rfl]; omega
    have e : F_aln c = 0 := by
      unfold F_aln
      rw [if_neg a1, if_pos a2, if_neg a3, if_pos a4, if_neg a5, if_pos a6]
    exact ⟨fun _ y => q y.1, fun _ => e⟩
theorem own_ist0 : F_istL [] = 0 := by decide
theorem own_ist1 (a : Int32) : F_istL [a] = if a < 128 then (if F_tb a.toInt8.toInt32 = 0 then 0 else 1) else 0 := by
  have e : F_empC [a] = (0 : Int32) := if_neg (List.cons_ne_nil _ _)
  have l0 : (0 : Int32) < F_lenC [a] := (by decide : (0 : Int32) < Int32.ofNat 1)
  have l1 : ¬ (((0 : Int32) + (1 : Int32)) < F_lenC [a]) := (by decide : ¬ (((0 : Int32) + (1 : Int32)) < Int32.ofNat 1))
  unfold F_istL
  rw [if_pos e, if_pos l0, if_neg l1]
  rfl
theorem own_ist2 (a b : Int32) : F_istL [a, b] = if a < 128 then (if F_tb a.toInt8.toInt32 = 0 then 0 else (if b < 128 then (if F_tb b.toInt8.toInt32 = 0 then 0 else 1) else 0)) else 0 := by
  have e : F_empC [a, b] = (0 : Int32) := if_neg (List.cons_ne_nil _ _)
  have l0 : (0 : Int32) < F_lenC [a, b] := (by decide : (0 : Int32) < Int32.ofNat 2)
  have l1 : ((0 : Int32) + (1 : Int32)) < F_lenC [a, b] := (by decide : ((0 : Int32) + (1 : Int32)) < Int32.ofNat 2)
  have l2 : ¬ ((((0 : Int32) + (1 : Int32)) + (1 : Int32)) < F_lenC [a, b]) := (by decide : ¬ ((((0 : Int32) + (1 : Int32)) + (1 : Int32)) < Int32.ofNat 2))
  unfold F_istL
  rw [if_pos e, if_pos l0, if_pos l1, if_neg l2]
  rfl
theorem own_ist3 (a b c : Int32) : F_istL [a, b, c] = if a < 128 then (if F_tb a.toInt8.toInt32 = 0 then 0 else (if b < 128 then (if F_tb b.toInt8.toInt32 = 0 then 0 else (if c < 128 then (if F_tb c.toInt8.toInt32 = 0 then 0 else 1) else 0)) else 0)) else 0 := by
  have e : F_empC [a, b, c] = (0 : Int32) := if_neg (List.cons_ne_nil _ _)
  have l0 : (0 : Int32) < F_lenC [a, b, c] := (by decide : (0 : Int32) < Int32.ofNat 3)
  have l1 : ((0 : Int32) + (1 : Int32)) < F_lenC [a, b, c] := (by decide : ((0 : Int32) + (1 : Int32)) < Int32.ofNat 3)
  have l2 : (((0 : Int32) + (1 : Int32)) + (1 : Int32)) < F_lenC [a, b, c] := (by decide : (((0 : Int32) + (1 : Int32)) + (1 : Int32)) < Int32.ofNat 3)
  have l3 : ¬ (((((0 : Int32) + (1 : Int32)) + (1 : Int32)) + (1 : Int32)) < F_lenC [a, b, c]) := (by decide : ¬ (((((0 : Int32) + (1 : Int32)) + (1 : Int32)) + (1 : Int32)) < Int32.ofNat 3))
  unfold F_istL
  rw [if_pos e, if_pos l0, if_pos l1, if_pos l2, if_neg l3]
  rfl
theorem own_ist4 (a b c d : Int32) : F_istL [a, b, c, d] = if a < 128 then (if F_tb a.toInt8.toInt32 = 0 then 0 else (if b < 128 then (if F_tb b.toInt8.toInt32 = 0 then 0 else (if c < 128 then (if F_tb c.toInt8.toInt32 = 0 then 0 else (if d < 128 then (if F_tb d.toInt8.toInt32 = 0 then 0 else 1) else 0)) else 0)) else 0)) else 0 := by
  have e : F_empC [a, b, c, d] = (0 : Int32) := if_neg (List.cons_ne_nil _ _)
  have l0 : (0 : Int32) < F_lenC [a, b, c, d] := (by decide : (0 : Int32) < Int32.ofNat 4)
  have l1 : ((0 : Int32) + (1 : Int32)) < F_lenC [a, b, c, d] := (by decide : ((0 : Int32) + (1 : Int32)) < Int32.ofNat 4)
  have l2 : (((0 : Int32) + (1 : Int32)) + (1 : Int32)) < F_lenC [a, b, c, d] := (by decide : (((0 : Int32) + (1 : Int32)) + (1 : Int32)) < Int32.ofNat 4)
  have l3 : ((((0 : Int32) + (1 : Int32)) + (1 : Int32)) + (1 : Int32)) < F_lenC [a, b, c, d] := (by decide : ((((0 : Int32) + (1 : Int32)) + (1 : Int32)) + (1 : Int32)) < Int32.ofNat 4)
  unfold F_istL
  rw [if_pos e, if_pos l0, if_pos l1, if_pos l2, if_pos l3]
  rfl
theorem own_T (c : Int32) (h : 0 ≤ c.toInt ∧ c.toInt ≤ 65535) : (F_aln c = 0 ∧ ∀ x : Int32, (if c < 128 then (if F_tb c.toInt8.toInt32 = 0 then 0 else x) else 0) = 0) ∨ (¬ F_aln c = 0 ∧ ∀ x : Int32, (if c < 128 then (if F_tb c.toInt8.toInt32 = 0 then 0 else x) else 0) = x) := by
  have k := own_keyA c h
  by_cases q : c < 128 ∧ ¬ F_tb c.toInt8.toInt32 = 0
  · exact Or.inr ⟨fun z => (k.mp z) q, fun x => by rw [if_pos q.1, if_neg q.2]⟩
  · refine Or.inl ⟨k.mpr q, fun x => ?_⟩
    by_cases q1 : c < 128
    · rw [if_pos q1, if_pos (Classical.byContradiction fun y => q ⟨q1, y⟩)]
    · rw [if_neg q1]
theorem own_s37 (n c0 c1 c2 c3 : Int32) (hn : 0 ≤ n.toInt) (h0 : 0 ≤ c0.toInt ∧ c0.toInt ≤ 65535) (h1 : 0 ≤ c1.toInt ∧ c1.toInt ≤ 65535) (h2 : 0 ≤ c2.toInt ∧ c2.toInt ≤ 65535) (h3 : 0 ≤ c3.toInt ∧ c3.toInt ≤ 65535) : F_s37 n c0 c1 c2 c3 = 1 := by
  have e0 : nar .char c0 = c0 := own_i2c c0 h0.1 (by omega)
  have e1 : nar .char c1 = c1 := own_i2c c1 h1.1 (by omega)
  have e2 : nar .char c2 = c2 := own_i2c c2 h2.1 (by omega)
  have e3 : nar .char c3 = c3 := own_i2c c3 h3.1 (by omega)
  unfold F_s37
  rw [e0, e1, e2, e3]
  by_cases q0 : n = 0
  · subst q0
    rw [if_pos rfl]
    unfold F_s158
    rw [if_pos (by decide)]
    unfold F_s221
    rw [own_ist0, if_pos rfl]
  rw [if_neg q0]
  have d11 : ¬ (1 : Int32) < 1 := by decide
  have d12 : (1 : Int32) < 2 := by decide
  have d13 : (1 : Int32) < 3 := by decide
  have d14 : (1 : Int32) < 4 := by decide
  have d21 : ¬ (2 : Int32) < 1 := by decide
  have d22 : ¬ (2 : Int32) < 2 := by decide
  have d23 : (2 : Int32) < 3 := by decide
  have d24 : (2 : Int32) < 4 := by decide
  have d31 : ¬ (3 : Int32) < 1 := by decide
  have d32 : ¬ (3 : Int32) < 2 := by decide
  have d33 : ¬ (3 : Int32) < 3 := by decide
  have d34 : (3 : Int32) < 4 := by decide
  have z01 : ¬ (0 : Int32) = 1 := by decide
  have z10 : ¬ (1 : Int32) = 0 := by decide
  have T0 := own_T c0 h0
  have T1 := own_T c1 h1
  have T2 := own_T c2 h2
  have T3 := own_T c3 h3
  by_cases q1 : n = 1
  · subst q1
    rw [if_pos rfl]
    unfold F_s158 F_s221
    rw [own_ist1, if_neg d11, if_pos d12, if_pos d13, if_pos d14]
    rcases T0 with ⟨a0, b0⟩ | ⟨a0, b0⟩
    · rw [if_pos a0, b0, if_pos rfl]
    · rw [if_neg a0, b0, if_pos rfl]
  rw [if_neg q1]
  by_cases q2 : n = 2
  · subst q2
    rw [if_pos rfl]
    unfold F_s158 F_s221
    rw [own_ist2, if_neg d21, if_neg d22, if_pos d23, if_pos d24]
    rcases T0 with ⟨a0, b0⟩ | ⟨a0, b0⟩
    · rw [if_pos a0, b0, if_pos rfl]
    · rw [if_neg a0, b0]
      rcases T1 with ⟨a1, b1⟩ | ⟨a1, b1⟩
      · rw [if_pos a1, b1, if_pos rfl]
      · rw [if_neg a1, b1, if_pos rfl]
  rw [if_neg q2]
  by_cases q3 : n = 3
  · subst q3
    rw [if_pos rfl]
    unfold F_s158 F_s221
    rw [own_ist3, if_neg d31, if_neg d32, if_neg d33, if_pos d34]
    rcases T0 with ⟨a0, b0⟩ | ⟨a0, b0⟩
    · rw [if_pos a0, b0, if_pos rfl]
    · rw [if_neg a0, b0]
      rcases T1 with ⟨a1, b1⟩ | ⟨a1, b1⟩
      · rw [if_pos a1, b1, if_pos rfl]
      · rw [if_neg a1, b1]
        rcases T2 with ⟨a2, b2⟩ | ⟨a2, b2⟩
        · rw [if_pos a2, b2, if_pos rfl]
        · rw [if_neg a2, b2, if_pos rfl]
  rw [if_neg q3]
  have i0 : n.toInt ≠ 0 := fun q => q0 (Int32.toInt_inj.mp q)
  have i1 : n.toInt ≠ 1 := fun q => q1 (Int32.toInt_inj.mp q)
  have i2 : n.toInt ≠ 2 := fun q => q2 (Int32.toInt_inj.mp q)
  have i3 : n.toInt ≠ 3 := fun q => q3 (Int32.toInt_inj.mp q)
  have d41 : ¬ n < 1 := by rw [Int32.lt_iff_toInt_lt, show (1 : Int32).toInt = 1 from rfl]; omega
  have d42 : ¬ n < 2 := by rw [Int32.lt_iff_toInt_lt, show (2 : Int32).toInt = 2 from rfl]; omega
  have d43 : ¬ n < 3 := by rw [Int32.lt_iff_toInt_lt, show (3 : Int32).toInt = 3 from rfl]; omega
  have d44 : ¬ n < 4 := by rw [Int32.lt_iff_toInt_lt, show (4 : Int32).toInt = 4 from rfl]; omega
  unfold F_s158 F_s221
  rw [own_ist4, if_neg d41, if_neg d42, if_neg d43, if_neg d44]
  rcases T0 with ⟨a0, b0⟩ | ⟨a0, b0⟩
  · rw [if_pos a0, b0, if_pos rfl]
  · rw [if_neg a0, b0]
    rcases T1 with ⟨a1, b1⟩ | ⟨a1, b1⟩
    · rw [if_pos a1, b1, if_pos rfl]
    · rw [if_neg a1, b1]
      rcases T2 with ⟨a2, b2⟩ | ⟨a2, b2⟩
      · rw [if_pos a2, b2, if_pos rfl]
      · rw [if_neg a2, b2]
        rcases T3 with ⟨a3, b3⟩ | ⟨a3, b3⟩
        · rw [if_pos a3, b3, if_pos rfl]
        · rw [if_neg a3, b3, if_pos rfl]
theorem own_law (p0 p1 p2 p3 p4 : Int32) : F_law p0 p1 p2 p3 p4 = 1 := by
  unfold F_law
  refine own_s37 _ _ _ _ _ ?_ (own_chb _) (own_chb _) (own_chb _) (own_chb _)
  have e : (p0 &&& (2147483647 : Int32)).toInt = p0.toInt % 2 ^ 31 := Jvm.Kit.i32_mask _ 2147483647 (k := 31) (by decide) (by decide)
  rw [Int32.toInt_mod, e]
  show 0 ≤ (p0.toInt % 2 ^ 31).tmod 5
  have := Int.tmod_nonneg (a := p0.toInt % 2 ^ 31) 5 (by omega)
  exact this
theorem own_comes {Post : Tables → Env → Array Value → State → Outcome → State → Prop} (hpost : ∀ tb e args s v u, (limb_1_1.after args s (.returned v) u = true ∧ limb_1_2.after args s (.returned v) u = true ∧ True) → ReturnedEndW s (.returned v) u (Jvm.fieldLocs frame_1_writes args s ++ Jvm.arrayLocs frame_1_arrays args s ++ Jvm.staticLocs frame_1_statics s) 24 2176 → Post tb e args s (.returned v) u) :
    ArmFor flags0 classFile x code maxLocals ret World_1 tables_1 room_1 Calls_1 rest_1 Pre_1 Post := by
  intro l hfl _ _ p e ha hc hk s m args below hf hA hF happ hP
  obtain ⟨hcalls, hrest, hpre⟩ := hP
  obtain ⟨-, -, -, hnamed, -, -, -, hat⟩ := (Spec.applies_iff hf).mp happ
  obtain ⟨hg, hn⟩ := and_e (Cond.before_iff.mp (show (Jvm.Cond.and given_1 narrow_1).before args s = true from hpre))
  obtain ⟨g1, g1'⟩ := and_e hg
  obtain ⟨g2, g2'⟩ := and_e g1'
  obtain ⟨g3, g3'⟩ := and_e g2'
  obtain ⟨g4, g4'⟩ := and_e g3'
  obtain ⟨g5, g5'⟩ := and_e g4'
  obtain ⟨u0, u1, u2, u3, u4, rfl⟩ : ∃ u0 u1 u2 u3 u4 : Value, args = #[u0, u1, u2, u3, u4] := by
    have hs : args.size = 5 := by simpa [Cond.value, given_1] using g1
    obtain ⟨L⟩ := args
    match L, hs with
    | [u0, u1, u2, u3, u4], _ => exact ⟨u0, u1, u2, u3, u4, rfl⟩
  have hw := fun d (hd : d ∈ tables_1) => atoms_spec (ws := Jvm.Cond.code x code maxLocals ret :: tables_1) hat d (List.mem_cons_of_mem _ hd)
  obtain ⟨i0, ei0⟩ := is_v g2
  obtain rfl : u0 = (.int i0) := Option.some.inj ei0
  obtain ⟨i1, ei1⟩ := is_v g3
  obtain rfl : u1 = (.int i1) := Option.some.inj ei1
  obtain ⟨i2, ei2⟩ := is_v g4
  obtain rfl : u2 = (.int i2) := Option.some.inj ei2
  obtain ⟨i3, ei3⟩ := is_v g5
  obtain rfl : u3 = (.int i3) := Option.some.inj ei3
  obtain ⟨i4, ei4⟩ := is_v g5'
  obtain rfl : u4 = (.int i4) := Option.some.inj ei4
  obtain ⟨hsets, hown0⟩ := atoms_of _ (rest_1_c_eq ▸ (show rest_1_c.before _ s = true from hrest))
  obtain ⟨kc, evk⟩ := is_v (Cond.before_iff.mp (hsets _ (List.mem_of_getElem? (i := 1) rfl)))
  have S_cs := Sta.start evk (Or.inl (hsets _ (List.mem_of_getElem? (i := 0) rfl)))
  have hcw : Jvm.Lit.compactW.before _ s = true := (hsets _ (List.mem_of_getElem? (i := 2) rfl))
  have hkc : ¬ (kc = (0 : Int32)) := gotF (Cond.eq_ints evk (Term.int_eval _)) (not_v (Cond.before_iff.mp (hsets _ (List.mem_of_getElem? (i := 2) rfl))))
  obtain ⟨fm, evf, hfm⟩ := isR_v (Cond.before_iff.mp (hsets _ (List.mem_of_getElem? (i := 8) rfl)))
  have S_fm := Sta.start evf (Or.inl (hsets _ (List.mem_of_getElem? (i := 7) rfl)))
  have S_ad := Sta.start (own_eqk (Cond.before_iff.mp (hsets _ (List.mem_of_getElem? (i := 12) rfl)))) (Or.inl (hsets _ (List.mem_of_getElem? (i := 11) rfl)))
  have S_hi := Sta.start (own_eqk (Cond.before_iff.mp (hsets _ (List.mem_of_getElem? (i := 15) rfl)))) (Or.inl (hsets _ (List.mem_of_getElem? (i := 14) rfl)))
  have S_lo := Sta.start (own_eqk (Cond.before_iff.mp (hsets _ (List.mem_of_getElem? (i := 18) rfl)))) (Or.inl (hsets _ (List.mem_of_getElem? (i := 17) rfl)))
  have hCHv : CHv s own_EL s.vm s.heap := CHv.start (own_EW hw) (fun p hp => hcalls.1 p hp) hcw (ow hw 17 rfl) (ow hw 4 rfl)
  have hlaw := own_law i0 i1 i2 i3 i4
  obtain ⟨n, o, h1, h2, h3, v, L, rfl, ⟨hv, N, -⟩, hq⟩ := rm_law l s _ hw tables_1 i0 i1 i2 i3 i4 kc fm s.heap s.heap.size (Nat.le_refl _) S_cs hkc S_fm hfm S_ad S_hi S_lo p e ha hc hk s m _ below hf ((Spec.applies_iff_loose hf).mp happ).1 ⟨rfl, State.Warmed39.refl s, rfl, hCHv, all0⟩ trivial
  rw [hlaw] at hv
  subst hv
  refine ⟨n, _, h1, h2, h3, hpost _ _ _ _ _ _ ⟨Cond.after_iff.mpr rfl, Cond.after_iff.mpr (eq_i res_at (Term.int_eval (1)) rfl), trivial⟩ ⟨hq.1, hq.2.1, hq.2.2.1, (hq.2.2.2.sift fun y hy => Or.inr (N y hy)).mono (by decide) (by decide)⟩⟩
theorem main_1_1 : Claimed_1_1 := own_comes fun _ _ _ _ _ _ h hF => ⟨h.1, hF⟩
theorem main_1_2 : Claimed_1_2 := own_comes fun _ _ _ _ _ _ h hF => ⟨h.2.1, hF⟩
end Jvm.Pilot.@@N@@
namespace Jvm.Pilot.@@N@@
open Jvm Jvm.ClassFile Sem Op Lib Jvm.Free Jvm.Stand Jvm.Pilot.@@N@@.Jvm.D
/-! MADE BY PROGRAM (witnessworld.py) out of the Statement's table words and the real class files: 21 classes; the members and pool entries that the words name. The judged class is class 1, her method 2. -/
namespace start1
open Jvm.ClassFile
def u (s : String) : CpInfo := .utf8 (stringToUtf16 s)
/-- a pool by its gaps: so many unusable entries, then the entry; so many at the end -/
def gap : Nat → List CpInfo → List CpInfo
  | 0, r => r
  | n + 1, r => .unusable :: gap n r
def poolList (es : List (Nat × CpInfo)) (last : Nat) : List CpInfo := es.foldr (fun e r => gap e.1 (e.2 :: r)) (gap last [])
def pool (es : List (Nat × CpInfo)) (last : Nat) : Array CpInfo := ⟨poolList es last⟩
def fileOf (pool : Array CpInfo) (this : Nat) (attrs : Array Attribute := #[]) (ms : Array MethodInfo := #[]) (fl : Nat := 33) (sup : Nat := 0) (ifs : Array Nat := #[]) (fds : Array FieldInfo := #[]) : ClassFile where
  minorVersion := 0
  majorVersion := 65
  constantPool := pool
  accessFlags := fl
  thisClass := this
  superClass := sup
  interfaces := ifs
  fields := fds
  methods := ms
  attributes := attrs
def plain (name : String) (sup : Option ClassId) : Class where
  name := name
  kind := .ordinary
  loader := none
  accessFlags := 33
  super := sup
  interfaces := #[]
  cf := none
  fields := #[]
  methods := #[]
  instanceTypes := #[]
  staticTypes := #[]
  resolved := #[]
  callSites := []
  init := .initialized
  statics := none
  mirror := none

def pool0 : Array CpInfo := pool [(5, u "<init>"), (0, u "()V"), (1, .class_ 10), (1, u "java/lang/Object")] 113

def k0c0 : Code := { maxStack := 0, maxLocals := 1, code := object_method_1_code, exceptionTable := #[], attributes := #[] }
def k0m0 : Method := { name := "<init>", desc := "()V", sig := { parameters := [], returnType := none }, accessFlags := 1, code := some k0c0 }
/-- java/lang/Object -/
def k0 : Class := { plain "java/lang/Object" none with
  accessFlags := 33
  interfaces := #[]
  cf := some (fileOf pool0 8 #[] #[{ accessFlags := 1, nameIndex := 5, descriptorIndex := 6, attributes := #[] }] 33 0 #[] #[])
  fields := #[]
  methods := #[k0m0]
  instanceTypes := #[]
  staticTypes := #[]
  resolved := Array.replicate 124 none
  statics := none }

def pool1 : Array CpInfo := pool [(2, .class_ 4), (1, u "java/lang/Object"), (0, u "<init>"), (0, u "()V"), (0, .integer 2147483647), (0, .integer 65535), (0, .class_ 10), (0, u "java/lang/String"), (0, .methodref 9 12), (0, .nameAndType 5 13), (0, u "([C)V"), (0, .methodref 15 16), (0, .class_ 17), (0, .nameAndType 18 19), (0, u "com/example/lead_line/leadline/TermsIsTermPinLaw"), (0, u "alnum"), (0, u "(C)Z"), (0, .methodref 21 22), (0, .class_ 23), (0, .nameAndType 24 25), (0, u "com/example/lead_line/leadline/Terms"), (0, u "isTerm"), (0, u "(Ljava/lang/String;)Z"), (3, u "law"), (0, u "(IIIII)Z")] 4

def k1m0 : Method := { name := "<init>", desc := "()V", sig := { parameters := [], returnType := none }, accessFlags := 2, code := none }
def k1c1 : Code := { maxStack := 2, maxLocals := 1, code := method_2_code, exceptionTable := #[], attributes := #[] }
def k1m1 : Method := { name := "alnum", desc := "(C)Z", sig := { parameters := [.char], returnType := some .boolean }, accessFlags := 10, code := some k1c1 }
def k1c2 : Code := { maxStack := 4, maxLocals := 13, code := code, exceptionTable := #[], attributes := #[] }
def k1m2 : Method := { name := "law", desc := "(IIIII)Z", sig := { parameters := [.int, .int, .int, .int, .int], returnType := some .boolean }, accessFlags := 9, code := some k1c2 }
/-- com/example/lead_line/leadline/TermsIsTermPinLaw -/
def k1 : Class := { plain "com/example/lead_line/leadline/TermsIsTermPinLaw" (some 0) with
  accessFlags := 49
  interfaces := #[]
  cf := some (fileOf pool1 15 #[] #[{ accessFlags := 2, nameIndex := 5, descriptorIndex := 6, attributes := #[] }, { accessFlags := 10, nameIndex := 18, descriptorIndex := 19, attributes := #[] }, { accessFlags := 9, nameIndex := 29, descriptorIndex := 30, attributes := #[] }] 49 2 #[] #[])
  fields := #[]
  methods := #[k1m0, k1m1, k1m2]
  instanceTypes := #[]
  staticTypes := #[]
  resolved := Array.replicate 35 none
  statics := none }

def pool2 : Array CpInfo := pool [(1, .class_ 2), (0, u "java/io/Serializable"), (0, .class_ 4), (0, u "java/lang/Object")] 2

/-- java/io/Serializable -/
def k2 : Class := { plain "java/io/Serializable" (some 0) with
  accessFlags := 1537
  interfaces := #[]
  cf := some (fileOf pool2 1 #[] #[] 1537 3 #[] #[])
  fields := #[]
  methods := #[]
  instanceTypes := #[]
  staticTypes := #[]
  resolved := Array.replicate 7 none
  statics := none }

def pool3 : Array CpInfo := pool [(1, .class_ 2), (0, u "java/lang/Comparable"), (0, .class_ 4), (0, u "java/lang/Object")] 7

/-- java/lang/Comparable -/
def k3 : Class := { plain "java/lang/Comparable" (some 0) with
  accessFlags := 1537
  interfaces := #[]
  cf := some (fileOf pool3 1 #[] #[] 1537 3 #[] #[])
  fields := #[]
  methods := #[]
  instanceTypes := #[]
  staticTypes := #[]
  resolved := Array.replicate 12 none
  statics := none }

def pool4 : Array CpInfo := pool [(2, .class_ 4), (1, u "java/lang/CharSequence"), (42, .class_ 48), (0, u "java/lang/CharSequence$1CodePointIterator"), (10, .class_ 60), (0, u "java/lang/CharSequence$1CharIterator"), (5, .class_ 67), (0, u "java/lang/Object")] 63

/-- java/lang/CharSequence -/
def k4 : Class := { plain "java/lang/CharSequence" (some 0) with
  accessFlags := 1537
  interfaces := #[]
  cf := some (fileOf pool4 2 #[.nestMembers #[47, 59]] #[] 1537 66 #[] #[])
  fields := #[]
  methods := #[]
  instanceTypes := #[]
  staticTypes := #[]
  resolved := Array.replicate 131 none
  statics := none }

def pool5 : Array CpInfo := pool [(1, .class_ 2), (0, u "java/lang/constant/Constable"), (0, .class_ 4), (0, u "java/lang/Object")] 6

/-- java/lang/constant/Constable -/
def k5 : Class := { plain "java/lang/constant/Constable" (some 0) with
  accessFlags := 1537
  interfaces := #[]
  cf := some (fileOf pool5 1 #[] #[] 1537 3 #[] #[])
  fields := #[]
  methods := #[]
  instanceTypes := #[]
  staticTypes := #[]
  resolved := Array.replicate 11 none
  statics := none }

def pool6 : Array CpInfo := pool [(1, .class_ 2), (0, u "java/lang/constant/ConstantDesc"), (0, .class_ 4), (0, u "java/lang/Object")] 32

/-- java/lang/constant/ConstantDesc -/
def k6 : Class := { plain "java/lang/constant/ConstantDesc" (some 0) with
  accessFlags := 1537
  interfaces := #[]
  cf := some (fileOf pool6 1 #[] #[] 1537 3 #[] #[])
  fields := #[]
  methods := #[]
  instanceTypes := #[]
  staticTypes := #[]
  resolved := Array.replicate 37 none
  statics := none }

def pool7 : Array CpInfo := pool [(1, .methodref 2 3), (0, .class_ 4), (0, .nameAndType 5 6), (0, u "java/lang/Object"), (0, u "<init>"), (0, u "()V"), (0, .string 8), (0, u ""), (0, .fieldref 10 11), (0, .class_ 12), (0, .nameAndType 13 14), (0, u "java/lang/String"), (0, u "value"), (0, u "[B"), (0, .fieldref 10 16), (0, .nameAndType 17 18), (0, u "coder"), (0, u "B"), (2, u "hash"), (0, u "I"), (2, u "hashIsZero"), (0, u "Z"), (0, .methodref 10 28), (0, .nameAndType 5 29), (0, u "([CIILjava/lang/Void;)V"), (8, .fieldref 10 39), (0, .nameAndType 40 26), (0, u "COMPACT_STRINGS"), (1, .class_ 44), (1, u "java/lang/StringUTF16"), (0, u "compress"), (1, .methodref 42 48), (0, .nameAndType 49 50), (0, u "coderFromArrayLen"), (0, u "([BI)B"), (56, .class_ 109), (1, u "java/lang/StringLatin1"), (32, u "()Z"), (34, .methodref 42 178), (0, .nameAndType 45 179), (0, u "([CII)[B"), (154, u "()I"), (0, .methodref 10 336), (0, .nameAndType 17 337), (0, u "()B"), (25, u "([BI)C"), (27, u "(II)V"), (35, u "(I)C"), (64, .methodref 10 493), (0, .nameAndType 494 142), (0, u "isLatin1"), (0, .methodref 107 496), (0, .nameAndType 497 363), (0, u "charAt"), (0, .methodref 42 496), (2, u "checkIndex"), (5, u "length"), (67, .class_ 576), (0, u "java/lang/CharSequence"), (22, u "CASE_INSENSITIVE_ORDER"), (0, u "Ljava/util/Comparator;"), (91, u "isEmpty"), (317, u "([C)V"), (42, .fieldref 1054 1055), (0, .class_ 1056), (0, .nameAndType 1057 1058), (0, u "jdk/internal/util/Preconditions"), (0, u "SIOOBE_FORMATTER"), (0, u "Ljava/util/function/BiFunction;"), (0, .methodref 1054 1060), (0, .nameAndType 501 1061), (0, u "(IILjava/util/function/BiFunction;)I"), (39, u "serialPersistentFields"), (0, u "[Ljava/io/ObjectStreamField;"), (0, .class_ 1104), (0, u "java/lang/String$CaseInsensitiveComparator"), (1, .class_ 1107), (0, u "java/io/Serializable"), (0, .class_ 1109), (0, u "java/lang/Comparable"), (0, .class_ 1111), (0, u "java/lang/constant/Constable"), (0, .class_ 1113), (0, u "java/lang/constant/ConstantDesc"), (2, u "serialVersionUID"), (0, u "J"), (3, u "REPL"), (0, u "C"), (2, u "LATIN1"), (1, u "UTF16")] 323

def k7m0 : Method := { name := "<init>", desc := "()V", sig := { parameters := [], returnType := none }, accessFlags := 1, code := none }
def k7c1 : Code := { maxStack := 5, maxLocals := 2, code := jdk_42_method_3_code, exceptionTable := #[], attributes := #[] }
def k7m1 : Method := { name := "<init>", desc := "([C)V", sig := { parameters := [(.array .char)], returnType := none }, accessFlags := 1, code := some k7c1 }
def k7c2 : Code := { maxStack := 2, maxLocals := 1, code := jdk_42_method_54_code, exceptionTable := #[], attributes := #[] }
def k7m2 : Method := { name := "length", desc := "()I", sig := { parameters := [], returnType := some .int }, accessFlags := 1, code := some k7c2 }
def k7c3 : Code := { maxStack := 1, maxLocals := 1, code := jdk_42_method_55_code, exceptionTable := #[], attributes := #[] }
def k7m3 : Method := { name := "isEmpty", desc := "()Z", sig := { parameters := [], returnType := some .boolean }, accessFlags := 1, code := some k7c3 }
def k7c4 : Code := { maxStack := 2, maxLocals := 2, code := jdk_42_method_56_code, exceptionTable := #[], attributes := #[] }
def k7m4 : Method := { name := "charAt", desc := "(I)C", sig := { parameters := [.int], returnType := some .char }, accessFlags := 1, code := some k7c4 }
def k7c5 : Code := { maxStack := 4, maxLocals := 6, code := jdk_42_method_149_code, exceptionTable := #[], attributes := #[] }
def k7m5 : Method := { name := "<init>", desc := "([CIILjava/lang/Void;)V", sig := { parameters := [(.array .char), .int, .int, (.object "java/lang/Void")], returnType := none }, accessFlags := 2, code := some k7c5 }
def k7c6 : Code := { maxStack := 1, maxLocals := 1, code := jdk_42_method_152_code, exceptionTable := #[], attributes := #[] }
def k7m6 : Method := { name := "coder", desc := "()B", sig := { parameters := [], returnType := some .byte }, accessFlags := 0, code := some k7c6 }
def k7c7 : Code := { maxStack := 1, maxLocals := 1, code := jdk_42_method_154_code, exceptionTable := #[], attributes := #[] }
def k7m7 : Method := { name := "isLatin1", desc := "()Z", sig := { parameters := [], returnType := some .boolean }, accessFlags := 0, code := some k7c7 }
def k7c8 : Code := { maxStack := 3, maxLocals := 2, code := jdk_42_method_155_code, exceptionTable := #[], attributes := #[] }
def k7m8 : Method := { name := "checkIndex", desc := "(II)V", sig := { parameters := [.int, .int], returnType := none }, accessFlags := 8, code := some k7c8 }
/-- java/lang/String -/
def k7 : Class := { plain "java/lang/String" (some 0) with
  accessFlags := 49
  interfaces := #[2, 3, 4, 5, 6]
  cf := some (fileOf pool7 10 #[.nestMembers #[1103]] #[{ accessFlags := 1, nameIndex := 5, descriptorIndex := 6, attributes := #[] }, { accessFlags := 1, nameIndex := 5, descriptorIndex := 1010, attributes := #[] }, { accessFlags := 1, nameIndex := 507, descriptorIndex := 334, attributes := #[] }, { accessFlags := 1, nameIndex := 692, descriptorIndex := 142, attributes := #[] }, { accessFlags := 1, nameIndex := 497, descriptorIndex := 427, attributes := #[] }, { accessFlags := 2, nameIndex := 5, descriptorIndex := 29, attributes := #[] }, { accessFlags := 0, nameIndex := 17, descriptorIndex := 337, attributes := #[] }, { accessFlags := 0, nameIndex := 494, descriptorIndex := 142, attributes := #[] }, { accessFlags := 8, nameIndex := 501, descriptorIndex := 391, attributes := #[] }] 49 2 #[1106, 1108, 575, 1110, 1112] #[{ accessFlags := 18, nameIndex := 13, descriptorIndex := 14, attributes := #[] }, { accessFlags := 18, nameIndex := 17, descriptorIndex := 18, attributes := #[] }, { accessFlags := 2, nameIndex := 21, descriptorIndex := 22, attributes := #[] }, { accessFlags := 2, nameIndex := 25, descriptorIndex := 26, attributes := #[] }, { accessFlags := 26, nameIndex := 1116, descriptorIndex := 1117, attributes := #[] }, { accessFlags := 24, nameIndex := 40, descriptorIndex := 26, attributes := #[] }, { accessFlags := 26, nameIndex := 1101, descriptorIndex := 1102, attributes := #[] }, { accessFlags := 26, nameIndex := 1121, descriptorIndex := 1122, attributes := #[] }, { accessFlags := 25, nameIndex := 599, descriptorIndex := 600, attributes := #[] }, { accessFlags := 24, nameIndex := 1125, descriptorIndex := 18, attributes := #[] }, { accessFlags := 24, nameIndex := 1127, descriptorIndex := 18, attributes := #[] }])
  fields := #[{ name := "value", type := (.array .byte), accessFlags := 18, slot := 0, constantValue := 0 }, { name := "coder", type := .byte, accessFlags := 18, slot := 1, constantValue := 0 }, { name := "hash", type := .int, accessFlags := 2, slot := 2, constantValue := 0 }, { name := "hashIsZero", type := .boolean, accessFlags := 2, slot := 3, constantValue := 0 }, { name := "serialVersionUID", type := .long, accessFlags := 26, slot := 0, constantValue := 0 }, { name := "COMPACT_STRINGS", type := .boolean, accessFlags := 24, slot := 1, constantValue := 0 }, { name := "serialPersistentFields", type := (.array (.object "java/io/ObjectStreamField")), accessFlags := 26, slot := 2, constantValue := 0 }, { name := "REPL", type := .char, accessFlags := 26, slot := 3, constantValue := 0 }, { name := "CASE_INSENSITIVE_ORDER", type := (.object "java/util/Comparator"), accessFlags := 25, slot := 4, constantValue := 0 }, { name := "LATIN1", type := .byte, accessFlags := 24, slot := 5, constantValue := 0 }, { name := "UTF16", type := .byte, accessFlags := 24, slot := 6, constantValue := 0 }]
  methods := #[k7m0, k7m1, k7m2, k7m3, k7m4, k7m5, k7m6, k7m7, k7m8]
  instanceTypes := #[(.array .byte), .byte, .int, .boolean]
  staticTypes := #[.long, .boolean, (.array (.object "java/io/ObjectStreamField")), .char, (.object "java/util/Comparator"), .byte, .byte]
  resolved := Array.replicate 1451 none
  statics := some 0 }

def pool8 : Array CpInfo := pool [(2, .class_ 4), (1, u "java/lang/Object"), (0, u "<init>"), (0, u "()V"), (0, .string 8), (0, u "text"), (0, .methodref 10 11), (0, .class_ 12), (0, .nameAndType 13 14), (0, u "java/util/Objects"), (0, u "requireNonNull"), (0, u "(Ljava/lang/Object;Ljava/lang/String;)Ljava/lang/Object;"), (6, .methodref 22 23), (0, .class_ 24), (0, .nameAndType 25 26), (0, u "com/example/lead_line/leadline/Terms"), (0, u "isTermByte"), (0, u "(B)Z"), (11, .nameAndType 39 40), (0, u "length"), (0, u "()I"), (21, .class_ 64), (1, u "java/lang/String"), (22, .methodref 62 88), (0, .nameAndType 89 90), (0, u "isEmpty"), (0, u "()Z"), (0, .methodref 62 38), (0, .methodref 62 93), (0, .nameAndType 94 95), (0, u "charAt"), (0, u "(I)C"), (10, u "isTerm"), (0, u "(Ljava/lang/String;)Z")] 2

def k8m0 : Method := { name := "<init>", desc := "()V", sig := { parameters := [], returnType := none }, accessFlags := 2, code := none }
def k8c1 : Code := { maxStack := 2, maxLocals := 4, code := prog_10_method_5_code, exceptionTable := #[], attributes := #[] }
def k8m1 : Method := { name := "isTerm", desc := "(Ljava/lang/String;)Z", sig := { parameters := [(.object "java/lang/String")], returnType := some .boolean }, accessFlags := 9, code := some k8c1 }
def k8c2 : Code := { maxStack := 2, maxLocals := 1, code := prog_10_method_6_code, exceptionTable := #[], attributes := #[] }
def k8m2 : Method := { name := "isTermByte", desc := "(B)Z", sig := { parameters := [.byte], returnType := some .boolean }, accessFlags := 10, code := some k8c2 }
/-- com/example/lead_line/leadline/Terms -/
def k8 : Class := { plain "com/example/lead_line/leadline/Terms" (some 0) with
  accessFlags := 49
  interfaces := #[]
  cf := some (fileOf pool8 22 #[] #[{ accessFlags := 2, nameIndex := 5, descriptorIndex := 6, attributes := #[] }, { accessFlags := 9, nameIndex := 106, descriptorIndex := 107, attributes := #[] }, { accessFlags := 10, nameIndex := 25, descriptorIndex := 26, attributes := #[] }] 49 2 #[] #[])
  fields := #[]
  methods := #[k8m0, k8m1, k8m2]
  instanceTypes := #[]
  staticTypes := #[]
  resolved := Array.replicate 110 none
  statics := none }

def pool9 : Array CpInfo := pool [(2, .class_ 4), (1, u "java/lang/Object"), (0, u "<init>"), (0, u "()V"), (35, .class_ 44), (1, u "java/util/Objects"), (0, u "requireNonNull"), (48, u "(Ljava/lang/Object;Ljava/lang/String;)Ljava/lang/Object;")] 89

def k9m0 : Method := { name := "<init>", desc := "()V", sig := { parameters := [], returnType := none }, accessFlags := 2, code := none }
def k9c1 : Code := { maxStack := 3, maxLocals := 2, code := jdk_31_method_11_code, exceptionTable := #[], attributes := #[] }
def k9m1 : Method := { name := "requireNonNull", desc := "(Ljava/lang/Object;Ljava/lang/String;)Ljava/lang/Object;", sig := { parameters := [(.object "java/lang/Object"), (.object "java/lang/String")], returnType := some (.object "java/lang/Object") }, accessFlags := 9, code := some k9c1 }
/-- java/util/Objects -/
def k9 : Class := { plain "java/util/Objects" (some 0) with
  accessFlags := 49
  interfaces := #[]
  cf := some (fileOf pool9 42 #[] #[{ accessFlags := 2, nameIndex := 5, descriptorIndex := 6, attributes := #[] }, { accessFlags := 9, nameIndex := 45, descriptorIndex := 94, attributes := #[] }] 49 2 #[] #[])
  fields := #[]
  methods := #[k9m0, k9m1]
  instanceTypes := #[]
  staticTypes := #[]
  resolved := Array.replicate 184 none
  statics := none }

def pool10 : Array CpInfo := pool [(3, .class_ 4), (0, u "java/lang/String"), (1, .class_ 8), (1, u "java/lang/Object"), (0, u "<init>"), (0, u "()V"), (0, .methodref 12 13), (0, .class_ 14), (0, .nameAndType 15 16), (0, u "java/lang/StringUTF16"), (0, u "newBytesLength"), (0, u "(I)I"), (3, .integer 1073741823), (23, .fieldref 12 45), (0, .nameAndType 46 47), (0, u "$assertionsDisabled"), (0, u "Z"), (0, .methodref 12 49), (0, .nameAndType 50 51), (0, u "length"), (0, u "([B)I"), (7, .fieldref 12 60), (0, .nameAndType 61 62), (0, u "HI_BYTE_SHIFT"), (0, u "I"), (0, .fieldref 12 64), (0, .nameAndType 65 62), (0, u "LO_BYTE_SHIFT"), (1, .methodref 12 68), (0, .nameAndType 69 70), (0, u "checkIndex"), (0, u "(I[B)V"), (0, .methodref 12 72), (0, .nameAndType 73 74), (0, u "getChar"), (0, u "([BI)C"), (32, .methodref 12 108), (0, .nameAndType 109 110), (0, u "newBytesFor"), (0, u "(I)[B"), (0, .methodref 12 112), (0, .nameAndType 113 114), (0, u "putChar"), (0, u "([BII)V"), (0, .methodref 12 116), (0, .nameAndType 117 118), (0, u "compress"), (0, u "([CI[BII)I"), (0, .methodref 12 120), (0, .nameAndType 121 122), (0, u "toBytes"), (0, u "([CII)[B"), (138, u "coderFromArrayLen"), (0, u "([BI)B"), (106, .class_ 371), (1, u "java/lang/StringUTF16$LinesSpliterator"), (20, u "charAt"), (21, .methodref 3 415), (0, .nameAndType 69 416), (0, u "(II)V"), (13, u "MAX_LENGTH"), (196, .class_ 628), (0, u "java/lang/StringUTF16$CodePointsSpliterator"), (0, .class_ 630), (0, u "java/lang/StringUTF16$CharsSpliterator")] 4

def k10m0 : Method := { name := "<init>", desc := "()V", sig := { parameters := [], returnType := none }, accessFlags := 0, code := none }
def k10c1 : Code := { maxStack := 1, maxLocals := 1, code := jdk_52_method_2_code, exceptionTable := #[], attributes := #[] }
def k10m1 : Method := { name := "newBytesFor", desc := "(I)[B", sig := { parameters := [.int], returnType := some (.array .byte) }, accessFlags := 9, code := some k10c1 }
def k10c2 : Code := { maxStack := 4, maxLocals := 1, code := jdk_52_method_3_code, exceptionTable := #[], attributes := #[] }
def k10m2 : Method := { name := "newBytesLength", desc := "(I)I", sig := { parameters := [.int], returnType := some .int }, accessFlags := 9, code := some k10c2 }
def k10c3 : Code := { maxStack := 4, maxLocals := 3, code := jdk_52_method_4_code, exceptionTable := #[], attributes := #[] }
def k10m3 : Method := { name := "putChar", desc := "([BII)V", sig := { parameters := [(.array .byte), .int, .int], returnType := none }, accessFlags := 8, code := some k10c3 }
def k10c4 : Code := { maxStack := 3, maxLocals := 2, code := jdk_52_method_5_code, exceptionTable := #[], attributes := #[] }
def k10m4 : Method := { name := "getChar", desc := "([BI)C", sig := { parameters := [(.array .byte), .int], returnType := some .char }, accessFlags := 8, code := some k10c4 }
def k10c5 : Code := { maxStack := 2, maxLocals := 1, code := jdk_52_method_6_code, exceptionTable := #[], attributes := #[] }
def k10m5 : Method := { name := "length", desc := "([B)I", sig := { parameters := [(.array .byte)], returnType := some .int }, accessFlags := 9, code := some k10c5 }
def k10c6 : Code := { maxStack := 4, maxLocals := 5, code := jdk_52_method_14_code, exceptionTable := #[], attributes := #[] }
def k10m6 : Method := { name := "toBytes", desc := "([CII)[B", sig := { parameters := [(.array .char), .int, .int], returnType := some (.array .byte) }, accessFlags := 9, code := some k10c6 }
def k10c7 : Code := { maxStack := 2, maxLocals := 2, code := jdk_52_method_15_code, exceptionTable := #[], attributes := #[] }
def k10m7 : Method := { name := "coderFromArrayLen", desc := "([BI)B", sig := { parameters := [(.array .byte), .int], returnType := some .byte }, accessFlags := 8, code := some k10c7 }
def k10c8 : Code := { maxStack := 5, maxLocals := 6, code := jdk_52_method_16_code, exceptionTable := #[], attributes := #[] }
def k10m8 : Method := { name := "compress", desc := "([CII)[B", sig := { parameters := [(.array .char), .int, .int], returnType := some (.array .byte) }, accessFlags := 9, code := some k10c8 }
def k10c9 : Code := { maxStack := 3, maxLocals := 7, code := jdk_52_method_21_code, exceptionTable := #[], attributes := #[] }
def k10m9 : Method := { name := "compress", desc := "([CI[BII)I", sig := { parameters := [(.array .char), .int, (.array .byte), .int, .int], returnType := some .int }, accessFlags := 9, code := some k10c9 }
def k10c10 : Code := { maxStack := 2, maxLocals := 2, code := jdk_52_method_83_code, exceptionTable := #[], attributes := #[] }
def k10m10 : Method := { name := "charAt", desc := "([BI)C", sig := { parameters := [(.array .byte), .int], returnType := some .char }, accessFlags := 9, code := some k10c10 }
def k10c11 : Code := { maxStack := 2, maxLocals := 2, code := jdk_52_method_91_code, exceptionTable := #[], attributes := #[] }
def k10m11 : Method := { name := "checkIndex", desc := "(I[B)V", sig := { parameters := [.int, (.array .byte)], returnType := none }, accessFlags := 9, code := some k10c11 }
/-- java/lang/StringUTF16 -/
def k10 : Class := { plain "java/lang/StringUTF16" (some 0) with
  accessFlags := 48
  interfaces := #[]
  cf := some (fileOf pool10 12 #[.nestMembers #[627, 629, 369]] #[{ accessFlags := 0, nameIndex := 9, descriptorIndex := 10, attributes := #[] }, { accessFlags := 9, nameIndex := 109, descriptorIndex := 110, attributes := #[] }, { accessFlags := 9, nameIndex := 15, descriptorIndex := 16, attributes := #[] }, { accessFlags := 8, nameIndex := 113, descriptorIndex := 114, attributes := #[] }, { accessFlags := 8, nameIndex := 73, descriptorIndex := 74, attributes := #[] }, { accessFlags := 9, nameIndex := 50, descriptorIndex := 51, attributes := #[] }, { accessFlags := 9, nameIndex := 121, descriptorIndex := 122, attributes := #[] }, { accessFlags := 8, nameIndex := 261, descriptorIndex := 262, attributes := #[] }, { accessFlags := 9, nameIndex := 117, descriptorIndex := 122, attributes := #[] }, { accessFlags := 9, nameIndex := 117, descriptorIndex := 118, attributes := #[] }, { accessFlags := 9, nameIndex := 392, descriptorIndex := 74, attributes := #[] }, { accessFlags := 9, nameIndex := 69, descriptorIndex := 70, attributes := #[] }] 48 6 #[] #[{ accessFlags := 26, nameIndex := 61, descriptorIndex := 62, attributes := #[] }, { accessFlags := 26, nameIndex := 65, descriptorIndex := 62, attributes := #[] }, { accessFlags := 24, nameIndex := 430, descriptorIndex := 62, attributes := #[] }, { accessFlags := 4120, nameIndex := 46, descriptorIndex := 47, attributes := #[] }])
  fields := #[{ name := "HI_BYTE_SHIFT", type := .int, accessFlags := 26, slot := 0, constantValue := 0 }, { name := "LO_BYTE_SHIFT", type := .int, accessFlags := 26, slot := 1, constantValue := 0 }, { name := "MAX_LENGTH", type := .int, accessFlags := 24, slot := 2, constantValue := 0 }, { name := "$assertionsDisabled", type := .boolean, accessFlags := 4120, slot := 3, constantValue := 0 }]
  methods := #[k10m0, k10m1, k10m2, k10m3, k10m4, k10m5, k10m6, k10m7, k10m8, k10m9, k10m10, k10m11]
  instanceTypes := #[]
  staticTypes := #[.int, .int, .int, .boolean]
  resolved := Array.replicate 635 none
  statics := some 1 }

def pool11 : Array CpInfo := pool [(1, .class_ 2), (0, u "java/lang/String"), (1, .class_ 6), (1, u "java/lang/Object"), (0, u "<init>"), (0, u "()V"), (0, .methodref 1 10), (0, .nameAndType 11 12), (0, u "checkIndex"), (0, u "(II)V"), (1, .class_ 16), (1, u "java/lang/StringLatin1"), (36, u "([BI)C"), (67, u "$assertionsDisabled"), (0, u "Z"), (98, .class_ 223), (1, u "java/lang/StringLatin1$LinesSpliterator"), (28, u "charAt"), (137, .class_ 391), (0, u "java/lang/StringLatin1$CharsSpliterator")] 3

def k11m0 : Method := { name := "<init>", desc := "()V", sig := { parameters := [], returnType := none }, accessFlags := 0, code := none }
def k11c1 : Code := { maxStack := 2, maxLocals := 2, code := jdk_43_method_2_code, exceptionTable := #[], attributes := #[] }
def k11m1 : Method := { name := "charAt", desc := "([BI)C", sig := { parameters := [(.array .byte), .int], returnType := some .char }, accessFlags := 9, code := some k11c1 }
/-- java/lang/StringLatin1 -/
def k11 : Class := { plain "java/lang/StringLatin1" (some 0) with
  accessFlags := 48
  interfaces := #[]
  cf := some (fileOf pool11 14 #[.nestMembers #[390, 221]] #[{ accessFlags := 0, nameIndex := 7, descriptorIndex := 8, attributes := #[] }, { accessFlags := 9, nameIndex := 252, descriptorIndex := 53, attributes := #[] }] 48 4 #[] #[{ accessFlags := 4120, nameIndex := 121, descriptorIndex := 122, attributes := #[] }])
  fields := #[{ name := "$assertionsDisabled", type := .boolean, accessFlags := 4120, slot := 0, constantValue := 0 }]
  methods := #[k11m0, k11m1]
  instanceTypes := #[]
  staticTypes := #[.boolean]
  resolved := Array.replicate 395 none
  statics := none }

def pool12 : Array CpInfo := pool [(2, .class_ 4), (1, u "java/lang/Object"), (0, u "<init>"), (0, u "()V"), (17, .class_ 26), (1, u "jdk/internal/util/Preconditions"), (6, u "checkIndex"), (21, .class_ 56), (0, u "jdk/internal/util/Preconditions$4"), (57, .class_ 115), (0, u "jdk/internal/util/Preconditions$1"), (7, u "SIOOBE_FORMATTER"), (0, u "Ljava/util/function/BiFunction;"), (0, .class_ 126), (0, u "jdk/internal/util/Preconditions$2"), (3, u "AIOOBE_FORMATTER"), (0, .class_ 132), (0, u "jdk/internal/util/Preconditions$3"), (3, u "IOOBE_FORMATTER"), (41, u "(IILjava/util/function/BiFunction;)I")] 15

def k12m0 : Method := { name := "<init>", desc := "()V", sig := { parameters := [], returnType := none }, accessFlags := 1, code := none }
def k12c1 : Code := { maxStack := 3, maxLocals := 3, code := jdk_41_method_11_code, exceptionTable := #[], attributes := #[] }
def k12m1 : Method := { name := "checkIndex", desc := "(IILjava/util/function/BiFunction;)I", sig := { parameters := [.int, .int, (.object "java/util/function/BiFunction")], returnType := some .int }, accessFlags := 9, code := some k12c1 }
/-- jdk/internal/util/Preconditions -/
def k12 : Class := { plain "jdk/internal/util/Preconditions" (some 0) with
  accessFlags := 33
  interfaces := #[]
  cf := some (fileOf pool12 24 #[.nestMembers #[55, 131, 125, 114]] #[{ accessFlags := 1, nameIndex := 5, descriptorIndex := 6, attributes := #[] }, { accessFlags := 9, nameIndex := 33, descriptorIndex := 178, attributes := #[] }] 33 2 #[] #[{ accessFlags := 25, nameIndex := 123, descriptorIndex := 124, attributes := #[] }, { accessFlags := 25, nameIndex := 130, descriptorIndex := 124, attributes := #[] }, { accessFlags := 25, nameIndex := 136, descriptorIndex := 124, attributes := #[] }])
  fields := #[{ name := "SIOOBE_FORMATTER", type := (.object "java/util/function/BiFunction"), accessFlags := 25, slot := 0, constantValue := 0 }, { name := "AIOOBE_FORMATTER", type := (.object "java/util/function/BiFunction"), accessFlags := 25, slot := 1, constantValue := 0 }, { name := "IOOBE_FORMATTER", type := (.object "java/util/function/BiFunction"), accessFlags := 25, slot := 2, constantValue := 0 }]
  methods := #[k12m0, k12m1]
  instanceTypes := #[]
  staticTypes := #[(.object "java/util/function/BiFunction"), (.object "java/util/function/BiFunction"), (.object "java/util/function/BiFunction")]
  resolved := Array.replicate 194 none
  statics := some 2 }

def pool13 : Array CpInfo := pool [(9, u "<init>"), (6, .class_ 18), (1, u "java/lang/Object"), (0, u "()V"), (1, .class_ 23), (1, u "jdk/internal/util/ArraysSupport"), (0, u "LOG2_ARRAY_LONG_INDEX_SCALE"), (0, u "I"), (2, u "U"), (0, u "Ljdk/internal/misc/Unsafe;"), (8, u "BIG_ENDIAN"), (0, u "Z"), (8, u "LOG2_BYTE_BIT_SIZE"), (4, u "LOG2_ARRAY_INT_INDEX_SCALE"), (54, u "JLA"), (0, u "Ljdk/internal/access/JavaLangAccess;"), (11, u "LOG2_ARRAY_BOOLEAN_INDEX_SCALE"), (9, u "LOG2_ARRAY_BYTE_INDEX_SCALE"), (5, u "LOG2_ARRAY_CHAR_INDEX_SCALE"), (5, u "LOG2_ARRAY_SHORT_INDEX_SCALE"), (18, u "LOG2_ARRAY_FLOAT_INDEX_SCALE"), (24, u "LOG2_ARRAY_DOUBLE_INDEX_SCALE"), (89, u "T_BOOLEAN"), (2, u "T_CHAR"), (1, u "T_FLOAT"), (1, u "T_DOUBLE"), (1, u "T_BYTE"), (1, u "T_SHORT"), (1, u "T_INT"), (1, u "T_LONG"), (1, u "SOFT_MAX_ARRAY_LENGTH")] 83

def k13m0 : Method := { name := "<init>", desc := "()V", sig := { parameters := [], returnType := none }, accessFlags := 2, code := none }
/-- jdk/internal/util/ArraysSupport -/
def k13 : Class := { plain "jdk/internal/util/ArraysSupport" (some 0) with
  accessFlags := 33
  interfaces := #[]
  cf := some (fileOf pool13 21 #[] #[{ accessFlags := 2, nameIndex := 9, descriptorIndex := 19, attributes := #[] }] 33 16 #[] #[{ accessFlags := 24, nameIndex := 28, descriptorIndex := 29, attributes := #[] }, { accessFlags := 26, nameIndex := 38, descriptorIndex := 39, attributes := #[] }, { accessFlags := 25, nameIndex := 121, descriptorIndex := 25, attributes := #[] }, { accessFlags := 25, nameIndex := 131, descriptorIndex := 25, attributes := #[] }, { accessFlags := 25, nameIndex := 137, descriptorIndex := 25, attributes := #[] }, { accessFlags := 25, nameIndex := 143, descriptorIndex := 25, attributes := #[] }, { accessFlags := 25, nameIndex := 53, descriptorIndex := 25, attributes := #[] }, { accessFlags := 25, nameIndex := 24, descriptorIndex := 25, attributes := #[] }, { accessFlags := 25, nameIndex := 162, descriptorIndex := 25, attributes := #[] }, { accessFlags := 25, nameIndex := 187, descriptorIndex := 25, attributes := #[] }, { accessFlags := 26, nameIndex := 48, descriptorIndex := 25, attributes := #[] }, { accessFlags := 25, nameIndex := 277, descriptorIndex := 25, attributes := #[] }, { accessFlags := 25, nameIndex := 280, descriptorIndex := 25, attributes := #[] }, { accessFlags := 25, nameIndex := 282, descriptorIndex := 25, attributes := #[] }, { accessFlags := 25, nameIndex := 284, descriptorIndex := 25, attributes := #[] }, { accessFlags := 25, nameIndex := 286, descriptorIndex := 25, attributes := #[] }, { accessFlags := 25, nameIndex := 288, descriptorIndex := 25, attributes := #[] }, { accessFlags := 25, nameIndex := 290, descriptorIndex := 25, attributes := #[] }, { accessFlags := 25, nameIndex := 292, descriptorIndex := 25, attributes := #[] }, { accessFlags := 26, nameIndex := 108, descriptorIndex := 109, attributes := #[] }, { accessFlags := 25, nameIndex := 294, descriptorIndex := 25, attributes := #[] }])
  fields := #[{ name := "U", type := (.object "jdk/internal/misc/Unsafe"), accessFlags := 24, slot := 0, constantValue := 0 }, { name := "BIG_ENDIAN", type := .boolean, accessFlags := 26, slot := 1, constantValue := 0 }, { name := "LOG2_ARRAY_BOOLEAN_INDEX_SCALE", type := .int, accessFlags := 25, slot := 2, constantValue := 0 }, { name := "LOG2_ARRAY_BYTE_INDEX_SCALE", type := .int, accessFlags := 25, slot := 3, constantValue := 0 }, { name := "LOG2_ARRAY_CHAR_INDEX_SCALE", type := .int, accessFlags := 25, slot := 4, constantValue := 0 }, { name := "LOG2_ARRAY_SHORT_INDEX_SCALE", type := .int, accessFlags := 25, slot := 5, constantValue := 0 }, { name := "LOG2_ARRAY_INT_INDEX_SCALE", type := .int, accessFlags := 25, slot := 6, constantValue := 0 }, { name := "LOG2_ARRAY_LONG_INDEX_SCALE", type := .int, accessFlags := 25, slot := 7, constantValue := 0 }, { name := "LOG2_ARRAY_FLOAT_INDEX_SCALE", type := .int, accessFlags := 25, slot := 8, constantValue := 0 }, { name := "LOG2_ARRAY_DOUBLE_INDEX_SCALE", type := .int, accessFlags := 25, slot := 9, constantValue := 0 }, { name := "LOG2_BYTE_BIT_SIZE", type := .int, accessFlags := 26, slot := 10, constantValue := 0 }, { name := "T_BOOLEAN", type := .int, accessFlags := 25, slot := 11, constantValue := 0 }, { name := "T_CHAR", type := .int, accessFlags := 25, slot := 12, constantValue := 0 }, { name := "T_FLOAT", type := .int, accessFlags := 25, slot := 13, constantValue := 0 }, { name := "T_DOUBLE", type := .int, accessFlags := 25, slot := 14, constantValue := 0 }, { name := "T_BYTE", type := .int, accessFlags := 25, slot := 15, constantValue := 0 }, { name := "T_SHORT", type := .int, accessFlags := 25, slot := 16, constantValue := 0 }, { name := "T_INT", type := .int, accessFlags := 25, slot := 17, constantValue := 0 }, { name := "T_LONG", type := .int, accessFlags := 25, slot := 18, constantValue := 0 }, { name := "JLA", type := (.object "jdk/internal/access/JavaLangAccess"), accessFlags := 26, slot := 19, constantValue := 0 }, { name := "SOFT_MAX_ARRAY_LENGTH", type := .int, accessFlags := 25, slot := 20, constantValue := 0 }]
  methods := #[k13m0]
  instanceTypes := #[]
  staticTypes := #[(.object "jdk/internal/misc/Unsafe"), .boolean, .int, .int, .int, .int, .int, .int, .int, .int, .int, .int, .int, .int, .int, .int, .int, .int, .int, (.object "jdk/internal/access/JavaLangAccess"), .int]
  resolved := Array.replicate 378 none
  statics := none }

def pool14 : Array CpInfo := pool [(1, u "java/lang/Cloneable"), (0, .class_ 1), (0, u "java/lang/Object"), (0, .class_ 3)] 3

/-- java/lang/Cloneable -/
def k14 : Class := { plain "java/lang/Cloneable" (some 0) with
  accessFlags := 1537
  interfaces := #[]
  cf := some (fileOf pool14 2 #[] #[] 1537 4 #[] #[])
  fields := #[]
  methods := #[]
  instanceTypes := #[]
  staticTypes := #[]
  resolved := Array.replicate 8 none
  statics := none }

/-- the primitive byte -/
def k15 : Class := { plain "byte" none with kind := .primitive 'B', accessFlags := 0x411 }
/-- [B -/
def k16 : Class := { plain "[B" (some 0) with kind := .array 15 .byte, interfaces := #[14, 2], accessFlags := 1041 }

/-- the primitive char -/
def k17 : Class := { plain "char" none with kind := .primitive 'C', accessFlags := 0x411 }
/-- [C -/
def k18 : Class := { plain "[C" (some 0) with kind := .array 17 .char, interfaces := #[14, 2], accessFlags := 1041 }

/-- the primitive int -/
def k19 : Class := { plain "int" none with kind := .primitive 'I', accessFlags := 0x411 }
/-- [I -/
def k20 : Class := { plain "[I" (some 0) with kind := .array 19 .int, interfaces := #[14, 2], accessFlags := 1041 }

def heap : Heap := #[{ cls := 7, slots := #[.long 0, .int 1, .null, .int 0, .null, .int 0, .int 0], vm := .statics 7 },
  { cls := 10, slots := #[.int 0, .int 8, .int 0, .int 1], vm := .statics 10 },
  { cls := 12, slots := #[.null, .null, .null], vm := .statics 12 }]
def classes : Array Class := #[k0, k1, k2, k3, k4, k5, k6, k7, k8, k9, k10, k11, k12, k13, k14, k15, k16, k17, k18, k19, k20]
def interned : List (Array UInt16 × Addr) := []
def slotsUsed : Nat := 14
def theMethod : MethodId := ⟨1, 2⟩
def args0 : Array Value := #[.int 3, .int 65, .int 300, .int 48, .int 97]
def aboutOver (below : List Frame) : State where
  vm := { classes := classes, interned := interned.toArray }
  heap := heap
  slotsUsed := slotsUsed
  threads := #[{ frames := .invoking theMethod args0 :: below }]
def below0 : List Frame := [.native { method := ⟨0, 0⟩, args := #[] }]
def about1 : State := aboutOver below0
def p0 : Program := .bare "" "" ""
def e0 : Env := launch0.env 0 0 0
theorem w_frames : about1.frames = Frame.invoking theMethod args0 :: below0 := rfl
set_option maxRecDepth 65536 in
theorem w_args : argsFit about1.vm theMethod args0 = true := by decide +kernel
set_option maxRecDepth 65536 in
theorem w_heap : heapFits about1 = true := by decide +kernel
set_option maxRecDepth 65536 in
theorem w_runnable : about1.curStatus? = some .runnable := by decide +kernel
set_option maxRecDepth 65536 in
theorem w_alone : about1.alone = true := by decide +kernel
set_option maxRecDepth 65536 in
theorem w_named : about1.methodNamed? x = some theMethod := by decide +kernel
set_option maxRecDepth 65536 in
theorem w_hears : about1.hears theMethod below0 = true := by decide +kernel
set_option maxRecDepth 65536 in
theorem w_ripe : about1.ripe theMethod args0 below0 = true := by decide +kernel
theorem w_running : about1.status = .running := rfl
set_option maxRecDepth 65536 in
theorem w_room : about1.hasRoom e0.platform room_1 = true :=
  launch0.hasRoom_least _ room_1 (by decide +kernel) (by decide +kernel) (by decide +kernel) (by decide +kernel) (by decide +kernel) (by decide +kernel)
theorem allAtoms_all (ts : List Jvm.Cond) (a : Array Jvm.Value) (st : Jvm.State) : (allAtoms ts).before a st = ts.all (fun c => c.before a st) := by
  induction ts with
  | nil => rfl
  | cons c t ih =>
    show (Jvm.Cond.and c (allAtoms t)).before a st = _
    rw [Jvm.Cond.before_and, ih, List.all_cons]
def words1 : List Jvm.Cond := Jvm.Cond.code x code maxLocals ret :: tables_1
/-- a 'code' word, met by the world's own term for the bytes: nothing is compared byte by byte -/
theorem code_word {y : MethodName} {bytes : ByteArray} {mx : Nat} {rt : Option FieldType} {a : Array Value} {s : State} {m : MethodId} {meth : Method} {c : Code} (h1 : s.methodNamed? y = some m) (h2 : s.vm.method? m = some meth) (h3 : meth.code = some c) (h4 : c.code = bytes)
    (h5 : (c.maxLocals == mx && c.exceptionTable.isEmpty && decide (c.maxStack ≤ mostOperands) && decide (meth.sig.returnType = rt) && !meth.locks && decide (parseMethodDescriptor y.desc = some meth.sig)) = true) : (Jvm.Cond.code y bytes mx rt).before a s = true := by
  simp only [Bool.and_eq_true, beq_iff_eq, Bool.not_eq_true', decide_eq_true_eq] at h5
  obtain ⟨⟨⟨⟨⟨g1, g2⟩, g3⟩, g4⟩, g5⟩, g6⟩ := h5
  simp [Cond.before, Cond.holds, Cond.value, h1, h2, h3, h4, g1, g2, g3, g4, g5, g6]
def isCode : Jvm.Cond → Bool
  | .code _ _ _ _ => true
  | _ => false
theorem all_split {L : List Jvm.Cond} {P : Jvm.Cond → Bool} (h1 : L.all (fun c => isCode c || P c) = true) (h2 : ∀ c ∈ L.filter isCode, P c = true) : L.all P = true := by
  refine List.all_eq_true.mpr fun c hc => ?_
  have h := List.all_eq_true.mp h1 c hc
  rcases Bool.eq_false_or_eq_true (isCode c) with hi | hi
  · exact h2 c (List.mem_filter.mpr ⟨hc, hi⟩)
  · simpa [hi] using h
set_option maxRecDepth 65536 in
theorem w_c0 : (Jvm.Cond.code x code maxLocals ret).before args0 about1 = true := code_word (m := ⟨1, 2⟩) (meth := k1m2) (c := k1c2) (by decide +kernel) rfl rfl rfl (by decide +kernel)
set_option maxRecDepth 65536 in
theorem w_c1 : (Jvm.Cond.code ({ cls := "java/lang/String", name := "<init>", desc := "([C)V" } : Jvm.MethodName) jdk_42_method_3_code (2 : Nat) (Option.none : Option Jvm.ClassFile.FieldType)).before args0 about1 = true := code_word (m := ⟨7, 1⟩) (meth := k7m1) (c := k7c1) (by decide +kernel) rfl rfl rfl (by decide +kernel)
set_option maxRecDepth 65536 in
theorem w_c2 : (Jvm.Cond.code ({ cls := "java/lang/String", name := "<init>", desc := "([CIILjava/lang/Void;)V" } : Jvm.MethodName) jdk_42_method_149_code (6 : Nat) (Option.none : Option Jvm.ClassFile.FieldType)).before args0 about1 = true := code_word (m := ⟨7, 5⟩) (meth := k7m5) (c := k7c5) (by decide +kernel) rfl rfl rfl (by decide +kernel)
set_option maxRecDepth 65536 in
theorem w_c3 : (Jvm.Cond.code ({ cls := "java/lang/Object", name := "<init>", desc := "()V" } : Jvm.MethodName) object_method_1_code (1 : Nat) (Option.none : Option Jvm.ClassFile.FieldType)).before args0 about1 = true := code_word (m := ⟨0, 0⟩) (meth := k0m0) (c := k0c0) (by decide +kernel) rfl rfl rfl (by decide +kernel)
set_option maxRecDepth 65536 in
theorem w_c4 : (Jvm.Cond.code ({ cls := "com/example/lead_line/leadline/Terms", name := "isTerm", desc := "(Ljava/lang/String;)Z" } : Jvm.MethodName) prog_10_method_5_code (4 : Nat) (Option.some Jvm.ClassFile.FieldType.boolean)).before args0 about1 = true := code_word (m := ⟨8, 1⟩) (meth := k8m1) (c := k8c1) (by decide +kernel) rfl rfl rfl (by decide +kernel)
set_option maxRecDepth 65536 in
theorem w_c5 : (Jvm.Cond.code ({ cls := "java/util/Objects", name := "requireNonNull", desc := "(Ljava/lang/Object;Ljava/lang/String;)Ljava/lang/Object;" } : Jvm.MethodName) jdk_31_method_11_code (2 : Nat) (Option.some (Jvm.ClassFile.FieldType.object "java/lang/Object"))).before args0 about1 = true := code_word (m := ⟨9, 1⟩) (meth := k9m1) (c := k9c1) (by decide +kernel) rfl rfl rfl (by decide +kernel)
set_option maxRecDepth 65536 in
theorem w_c6 : (Jvm.Cond.code ({ cls := "java/lang/String", name := "isEmpty", desc := "()Z" } : Jvm.MethodName) jdk_42_method_55_code (1 : Nat) (Option.some Jvm.ClassFile.FieldType.boolean)).before args0 about1 = true := code_word (m := ⟨7, 3⟩) (meth := k7m3) (c := k7c3) (by decide +kernel) rfl rfl rfl (by decide +kernel)
set_option maxRecDepth 65536 in
theorem w_c7 : (Jvm.Cond.code ({ cls := "java/lang/StringUTF16", name := "compress", desc := "([CII)[B" } : Jvm.MethodName) jdk_52_method_16_code (6 : Nat) (Option.some (Jvm.ClassFile.FieldType.array Jvm.ClassFile.FieldType.byte))).before args0 about1 = true := code_word (m := ⟨10, 8⟩) (meth := k10m8) (c := k10c8) (by decide +kernel) rfl rfl rfl (by decide +kernel)
set_option maxRecDepth 65536 in
theorem w_c8 : (Jvm.Cond.code ({ cls := "java/lang/StringUTF16", name := "compress", desc := "([CI[BII)I" } : Jvm.MethodName) jdk_52_method_21_code (7 : Nat) (Option.some Jvm.ClassFile.FieldType.int)).before args0 about1 = true := code_word (m := ⟨10, 9⟩) (meth := k10m9) (c := k10c9) (by decide +kernel) rfl rfl rfl (by decide +kernel)
set_option maxRecDepth 65536 in
theorem w_c9 : (Jvm.Cond.code ({ cls := "java/lang/StringUTF16", name := "coderFromArrayLen", desc := "([BI)B" } : Jvm.MethodName) jdk_52_method_15_code (2 : Nat) (Option.some Jvm.ClassFile.FieldType.byte)).before args0 about1 = true := code_word (m := ⟨10, 7⟩) (meth := k10m7) (c := k10c7) (by decide +kernel) rfl rfl rfl (by decide +kernel)
set_option maxRecDepth 65536 in
theorem w_c10 : (Jvm.Cond.code ({ cls := "com/example/lead_line/leadline/TermsIsTermPinLaw", name := "alnum", desc := "(C)Z" } : Jvm.MethodName) method_2_code (1 : Nat) (Option.some Jvm.ClassFile.FieldType.boolean)).before args0 about1 = true := code_word (m := ⟨1, 1⟩) (meth := k1m1) (c := k1c1) (by decide +kernel) rfl rfl rfl (by decide +kernel)
set_option maxRecDepth 65536 in
theorem w_c11 : (Jvm.Cond.code ({ cls := "java/lang/String", name := "length", desc := "()I" } : Jvm.MethodName) jdk_42_method_54_code (1 : Nat) (Option.some Jvm.ClassFile.FieldType.int)).before args0 about1 = true := code_word (m := ⟨7, 2⟩) (meth := k7m2) (c := k7c2) (by decide +kernel) rfl rfl rfl (by decide +kernel)
set_option maxRecDepth 65536 in
theorem w_c12 : (Jvm.Cond.code ({ cls := "java/lang/String", name := "coder", desc := "()B" } : Jvm.MethodName) jdk_42_method_152_code (1 : Nat) (Option.some Jvm.ClassFile.FieldType.byte)).before args0 about1 = true := code_word (m := ⟨7, 6⟩) (meth := k7m6) (c := k7c6) (by decide +kernel) rfl rfl rfl (by decide +kernel)
set_option maxRecDepth 65536 in
theorem w_c13 : (Jvm.Cond.code ({ cls := "java/lang/String", name := "charAt", desc := "(I)C" } : Jvm.MethodName) jdk_42_method_56_code (2 : Nat) (Option.some Jvm.ClassFile.FieldType.char)).before args0 about1 = true := code_word (m := ⟨7, 4⟩) (meth := k7m4) (c := k7c4) (by decide +kernel) rfl rfl rfl (by decide +kernel)
set_option maxRecDepth 65536 in
theorem w_c14 : (Jvm.Cond.code ({ cls := "java/lang/String", name := "isLatin1", desc := "()Z" } : Jvm.MethodName) jdk_42_method_154_code (1 : Nat) (Option.some Jvm.ClassFile.FieldType.boolean)).before args0 about1 = true := code_word (m := ⟨7, 7⟩) (meth := k7m7) (c := k7c7) (by decide +kernel) rfl rfl rfl (by decide +kernel)
set_option maxRecDepth 65536 in
theorem w_c15 : (Jvm.Cond.code ({ cls := "java/lang/StringLatin1", name := "charAt", desc := "([BI)C" } : Jvm.MethodName) jdk_43_method_2_code (2 : Nat) (Option.some Jvm.ClassFile.FieldType.char)).before args0 about1 = true := code_word (m := ⟨11, 1⟩) (meth := k11m1) (c := k11c1) (by decide +kernel) rfl rfl rfl (by decide +kernel)
set_option maxRecDepth 65536 in
theorem w_c16 : (Jvm.Cond.code ({ cls := "java/lang/String", name := "checkIndex", desc := "(II)V" } : Jvm.MethodName) jdk_42_method_155_code (2 : Nat) (Option.none : Option Jvm.ClassFile.FieldType)).before args0 about1 = true := code_word (m := ⟨7, 8⟩) (meth := k7m8) (c := k7c8) (by decide +kernel) rfl rfl rfl (by decide +kernel)
set_option maxRecDepth 65536 in
theorem w_c17 : (Jvm.Cond.code ({ cls := "jdk/internal/util/Preconditions", name := "checkIndex", desc := "(IILjava/util/function/BiFunction;)I" } : Jvm.MethodName) jdk_41_method_11_code (3 : Nat) (Option.some Jvm.ClassFile.FieldType.int)).before args0 about1 = true := code_word (m := ⟨12, 1⟩) (meth := k12m1) (c := k12c1) (by decide +kernel) rfl rfl rfl (by decide +kernel)
set_option maxRecDepth 65536 in
theorem w_c18 : (Jvm.Cond.code ({ cls := "com/example/lead_line/leadline/Terms", name := "isTermByte", desc := "(B)Z" } : Jvm.MethodName) prog_10_method_6_code (1 : Nat) (Option.some Jvm.ClassFile.FieldType.boolean)).before args0 about1 = true := code_word (m := ⟨8, 2⟩) (meth := k8m2) (c := k8c2) (by decide +kernel) rfl rfl rfl (by decide +kernel)
set_option maxRecDepth 65536 in
theorem w_c19 : (Jvm.Cond.code ({ cls := "java/lang/StringUTF16", name := "toBytes", desc := "([CII)[B" } : Jvm.MethodName) jdk_52_method_14_code (5 : Nat) (Option.some (Jvm.ClassFile.FieldType.array Jvm.ClassFile.FieldType.byte))).before args0 about1 = true := code_word (m := ⟨10, 6⟩) (meth := k10m6) (c := k10c6) (by decide +kernel) rfl rfl rfl (by decide +kernel)
set_option maxRecDepth 65536 in
theorem w_c20 : (Jvm.Cond.code ({ cls := "java/lang/StringUTF16", name := "newBytesFor", desc := "(I)[B" } : Jvm.MethodName) jdk_52_method_2_code (1 : Nat) (Option.some (Jvm.ClassFile.FieldType.array Jvm.ClassFile.FieldType.byte))).before args0 about1 = true := code_word (m := ⟨10, 1⟩) (meth := k10m1) (c := k10c1) (by decide +kernel) rfl rfl rfl (by decide +kernel)
set_option maxRecDepth 65536 in
theorem w_c21 : (Jvm.Cond.code ({ cls := "java/lang/StringUTF16", name := "newBytesLength", desc := "(I)I" } : Jvm.MethodName) jdk_52_method_3_code (1 : Nat) (Option.some Jvm.ClassFile.FieldType.int)).before args0 about1 = true := code_word (m := ⟨10, 2⟩) (meth := k10m2) (c := k10c2) (by decide +kernel) rfl rfl rfl (by decide +kernel)
set_option maxRecDepth 65536 in
theorem w_c22 : (Jvm.Cond.code ({ cls := "java/lang/StringUTF16", name := "putChar", desc := "([BII)V" } : Jvm.MethodName) jdk_52_method_4_code (3 : Nat) (Option.none : Option Jvm.ClassFile.FieldType)).before args0 about1 = true := code_word (m := ⟨10, 3⟩) (meth := k10m3) (c := k10c3) (by decide +kernel) rfl rfl rfl (by decide +kernel)
set_option maxRecDepth 65536 in
theorem w_c23 : (Jvm.Cond.code ({ cls := "java/lang/StringUTF16", name := "getChar", desc := "([BI)C" } : Jvm.MethodName) jdk_52_method_5_code (2 : Nat) (Option.some Jvm.ClassFile.FieldType.char)).before args0 about1 = true := code_word (m := ⟨10, 4⟩) (meth := k10m4) (c := k10c4) (by decide +kernel) rfl rfl rfl (by decide +kernel)
set_option maxRecDepth 65536 in
theorem w_c24 : (Jvm.Cond.code ({ cls := "java/lang/StringUTF16", name := "charAt", desc := "([BI)C" } : Jvm.MethodName) jdk_52_method_83_code (2 : Nat) (Option.some Jvm.ClassFile.FieldType.char)).before args0 about1 = true := code_word (m := ⟨10, 10⟩) (meth := k10m10) (c := k10c10) (by decide +kernel) rfl rfl rfl (by decide +kernel)
set_option maxRecDepth 65536 in
theorem w_c25 : (Jvm.Cond.code ({ cls := "java/lang/StringUTF16", name := "checkIndex", desc := "(I[B)V" } : Jvm.MethodName) jdk_52_method_91_code (2 : Nat) (Option.none : Option Jvm.ClassFile.FieldType)).before args0 about1 = true := code_word (m := ⟨10, 11⟩) (meth := k10m11) (c := k10c11) (by decide +kernel) rfl rfl rfl (by decide +kernel)
set_option maxRecDepth 65536 in
theorem w_c26 : (Jvm.Cond.code ({ cls := "java/lang/StringUTF16", name := "length", desc := "([B)I" } : Jvm.MethodName) jdk_52_method_6_code (1 : Nat) (Option.some Jvm.ClassFile.FieldType.int)).before args0 about1 = true := code_word (m := ⟨10, 5⟩) (meth := k10m5) (c := k10c5) (by decide +kernel) rfl rfl rfl (by decide +kernel)
def codes1 : List Jvm.Cond := [Jvm.Cond.code x code maxLocals ret, Jvm.Cond.code ({ cls := "java/lang/String", name := "<init>", desc := "([C)V" } : Jvm.MethodName) jdk_42_method_3_code (2 : Nat) (Option.none : Option Jvm.ClassFile.FieldType), Jvm.Cond.code ({ cls := "java/lang/String", name := "<init>", desc := "([CIILjava/lang/Void;)V" } : Jvm.MethodName) jdk_42_method_149_code (6 : Nat) (Option.none : Option Jvm.ClassFile.FieldType), Jvm.Cond.code ({ cls := "java/lang/Object", name := "<init>", desc := "()V" } : Jvm.MethodName) object_method_1_code (1 : Nat) (Option.none : Option Jvm.ClassFile.FieldType), Jvm.Cond.code ({ cls := "com/example/lead_line/leadline/Terms", name := "isTerm", desc := "(Ljava/lang/String;)Z" } : Jvm.MethodName) prog_10_method_5_code (4 : Nat) (Option.some Jvm.ClassFile.FieldType.boolean), Jvm.Cond.code ({ cls := "java/util/Objects", name := "requireNonNull", desc := "(Ljava/lang/Object;Ljava/lang/String;)Ljava/lang/Object;" } : Jvm.MethodName) jdk_31_method_11_code (2 : Nat) (Option.some (Jvm.ClassFile.FieldType.object "java/lang/Object")), Jvm.Cond.code ({ cls := "java/lang/String", name := "isEmpty", desc := "()Z" } : Jvm.MethodName) jdk_42_method_55_code (1 : Nat) (Option.some Jvm.ClassFile.FieldType.boolean), Jvm.Cond.code ({ cls := "java/lang/StringUTF16", name := "compress", desc := "([CII)[B" } : Jvm.MethodName) jdk_52_method_16_code (6 : Nat) (Option.some (Jvm.ClassFile.FieldType.array Jvm.ClassFile.FieldType.byte)), Jvm.Cond.code ({ cls := "java/lang/StringUTF16", name := "compress", desc := "([CI[BII)I" } : Jvm.MethodName) jdk_52_method_21_code (7 : Nat) (Option.some Jvm.ClassFile.FieldType.int), Jvm.Cond.code ({ cls := "java/lang/StringUTF16", name := "coderFromArrayLen", desc := "([BI)B" } : Jvm.MethodName) jdk_52_method_15_code (2 : Nat) (Option.some Jvm.ClassFile.FieldType.byte), Jvm.Cond.code ({ cls := "com/example/lead_line/leadline/TermsIsTermPinLaw", name := "alnum", desc := "(C)Z" } : Jvm.MethodName) method_2_code (1 : Nat) (Option.some Jvm.ClassFile.FieldType.boolean), Jvm.Cond.code ({ cls := "java/lang/String", name := "length", desc := "()I" } : Jvm.MethodName) jdk_42_method_54_code (1 : Nat) (Option.some Jvm.ClassFile.FieldType.int), Jvm.Cond.code ({ cls := "java/lang/String", name := "coder", desc := "()B" } : Jvm.MethodName) jdk_42_method_152_code (1 : Nat) (Option.some Jvm.ClassFile.FieldType.byte), Jvm.Cond.code ({ cls := "java/lang/String", name := "charAt", desc := "(I)C" } : Jvm.MethodName) jdk_42_method_56_code (2 : Nat) (Option.some Jvm.ClassFile.FieldType.char), Jvm.Cond.code ({ cls := "java/lang/String", name := "isLatin1", desc := "()Z" } : Jvm.MethodName) jdk_42_method_154_code (1 : Nat) (Option.some Jvm.ClassFile.FieldType.boolean), Jvm.Cond.code ({ cls := "java/lang/StringLatin1", name := "charAt", desc := "([BI)C" } : Jvm.MethodName) jdk_43_method_2_code (2 : Nat) (Option.some Jvm.ClassFile.FieldType.char), Jvm.Cond.code ({ cls := "java/lang/String", name := "checkIndex", desc := "(II)V" } : Jvm.MethodName) jdk_42_method_155_code (2 : Nat) (Option.none : Option Jvm.ClassFile.FieldType), Jvm.Cond.code ({ cls := "jdk/internal/util/Preconditions", name := "checkIndex", desc := "(IILjava/util/function/BiFunction;)I" } : Jvm.MethodName) jdk_41_method_11_code (3 : Nat) (Option.some Jvm.ClassFile.FieldType.int), Jvm.Cond.code ({ cls := "com/example/lead_line/leadline/Terms", name := "isTermByte", desc := "(B)Z" } : Jvm.MethodName) prog_10_method_6_code (1 : Nat) (Option.some Jvm.ClassFile.FieldType.boolean), Jvm.Cond.code ({ cls := "java/lang/StringUTF16", name := "toBytes", desc := "([CII)[B" } : Jvm.MethodName) jdk_52_method_14_code (5 : Nat) (Option.some (Jvm.ClassFile.FieldType.array Jvm.ClassFile.FieldType.byte)), Jvm.Cond.code ({ cls := "java/lang/StringUTF16", name := "newBytesFor", desc := "(I)[B" } : Jvm.MethodName) jdk_52_method_2_code (1 : Nat) (Option.some (Jvm.ClassFile.FieldType.array Jvm.ClassFile.FieldType.byte)), Jvm.Cond.code ({ cls := "java/lang/StringUTF16", name := "newBytesLength", desc := "(I)I" } : Jvm.MethodName) jdk_52_method_3_code (1 : Nat) (Option.some Jvm.ClassFile.FieldType.int), Jvm.Cond.code ({ cls := "java/lang/StringUTF16", name := "putChar", desc := "([BII)V" } : Jvm.MethodName) jdk_52_method_4_code (3 : Nat) (Option.none : Option Jvm.ClassFile.FieldType), Jvm.Cond.code ({ cls := "java/lang/StringUTF16", name := "getChar", desc := "([BI)C" } : Jvm.MethodName) jdk_52_method_5_code (2 : Nat) (Option.some Jvm.ClassFile.FieldType.char), Jvm.Cond.code ({ cls := "java/lang/StringUTF16", name := "charAt", desc := "([BI)C" } : Jvm.MethodName) jdk_52_method_83_code (2 : Nat) (Option.some Jvm.ClassFile.FieldType.char), Jvm.Cond.code ({ cls := "java/lang/StringUTF16", name := "checkIndex", desc := "(I[B)V" } : Jvm.MethodName) jdk_52_method_91_code (2 : Nat) (Option.none : Option Jvm.ClassFile.FieldType), Jvm.Cond.code ({ cls := "java/lang/StringUTF16", name := "length", desc := "([B)I" } : Jvm.MethodName) jdk_52_method_6_code (1 : Nat) (Option.some Jvm.ClassFile.FieldType.int)]
set_option maxRecDepth 65536 in
theorem codes_eq : words1.filter isCode = codes1 := rfl
theorem w_codes : ∀ c ∈ words1.filter isCode, c.before args0 about1 = true := by
  rw [codes_eq]
  intro c hc
  simp only [codes1, List.mem_cons, List.not_mem_nil, or_false] at hc
  rcases hc with rfl | rfl | rfl | rfl | rfl | rfl | rfl | rfl | rfl | rfl | rfl | rfl | rfl | rfl | rfl | rfl | rfl | rfl | rfl | rfl | rfl | rfl | rfl | rfl | rfl | rfl | rfl
  · exact w_c0
  · exact w_c1
  · exact w_c2
  · exact w_c3
  · exact w_c4
  · exact w_c5
  · exact w_c6
  · exact w_c7
  · exact w_c8
  · exact w_c9
  · exact w_c10
  · exact w_c11
  · exact w_c12
  · exact w_c13
  · exact w_c14
  · exact w_c15
  · exact w_c16
  · exact w_c17
  · exact w_c18
  · exact w_c19
  · exact w_c20
  · exact w_c21
  · exact w_c22
  · exact w_c23
  · exact w_c24
  · exact w_c25
  · exact w_c26
set_option maxRecDepth 65536 in
theorem w_t1 : (words1.take 24).all (fun c => isCode c || c.before args0 about1) = true := by decide +kernel
set_option maxRecDepth 65536 in
theorem w_t2 : ((words1.drop 24).take 24).all (fun c => isCode c || c.before args0 about1) = true := by decide +kernel
set_option maxRecDepth 65536 in
theorem w_t3 : (((words1.drop 24).drop 24).take 24).all (fun c => isCode c || c.before args0 about1) = true := by decide +kernel
set_option maxRecDepth 65536 in
theorem w_t4 : ((((words1.drop 24).drop 24).drop 24).take 24).all (fun c => isCode c || c.before args0 about1) = true := by decide +kernel
set_option maxRecDepth 65536 in
theorem w_t5 : ((((words1.drop 24).drop 24).drop 24).drop 24).all (fun c => isCode c || c.before args0 about1) = true := by decide +kernel
theorem w_tables : (allAtoms (Jvm.Cond.code x code maxLocals ret :: tables_1)).before args0 about1 = true := by
  rw [allAtoms_all]
  show words1.all (fun c => c.before args0 about1) = true
  refine all_split ?_ w_codes
  rw [← List.take_append_drop 24 words1, List.all_append, w_t1, ← List.take_append_drop 24 (words1.drop 24), List.all_append, w_t2, ← List.take_append_drop 24 ((words1.drop 24).drop 24), List.all_append, w_t3, ← List.take_append_drop 24 (((words1.drop 24).drop 24).drop 24), List.all_append, w_t4, w_t5]
  rfl
set_option maxRecDepth 65536 in
theorem w_rest : rest_1_c.before args0 about1 = true := by decide +kernel
set_option maxRecDepth 65536 in
theorem w_case : (Jvm.Cond.and given_1 narrow_1).before args0 about1 = true := by decide +kernel
set_option maxRecDepth 65536 in
theorem w_consts : constsHeld consts_1 about1 := Jvm.Lit.constsHeldB_iff.mp (by decide +kernel)
theorem w_applies : (headSpec (Jvm.Cond.code x code maxLocals ret :: tables_1) room_1).applies x e0.platform about1 = true :=
  (Spec.applies_iff w_frames).mpr ⟨w_running, w_runnable, w_alone, w_named, w_hears, w_ripe, w_room, w_tables⟩
theorem atStart : AtStart classFile x code maxLocals ret World_1 tables_1 room_1 Calls_1 rest_1 Pre_1 launch0 p0 e0 about1 theMethod args0 below0 :=
  ⟨lists_1, trivial, launch0.admits_env _ _ _, launch0.least_env, fairChoices_fair.cas, fairChoices_fair.clock, w_frames, w_args, w_heap, w_applies, ⟨w_consts, trivial⟩, w_rest, w_case⟩
end start1
theorem witness_1 : WitnessClaimed_1 := ⟨start1.p0, start1.e0, start1.about1, start1.theMethod, start1.args0, start1.below0, start1.atStart⟩
end Jvm.Pilot.@@N@@
