import JvmDerived
import JvmDerived.Pilot.@@N@@Statement
import JvmDerived.Pilot.@@N@@Code
set_option linter.unusedVariables false
set_option linter.unusedSimpArgs false
@@BLOCK:NumsL.lean.txt@@
namespace Jvm.Pilot.@@N@@
open Jvm Jvm.ClassFile Sem Op Lib Jvm.Free Jvm.Stand Jvm.LawKit Jvm.RoadKit Bundle Jvm.Pilot.@@N@@.Jvm.D
theorem own_retI {p : Program} {l : Launch} {e : Env} {R : Room} {s : State} {m : MethodId} {args : Array Value} {below : List Frame} {meth : Method} {c : Code} {T : State} {locs : List Loc} {cells slots : Nat} (X : Stand p l e R s m args below meth c T locs cells slots) (hx : p.tables.exec = Jvm.exec) {pc : Nat} {Ls : Array Slot} {z : Int32} {rest : List Value} (hret : meth.sig.returnType = some .int) (hd : decode c.code pc = .ok (.ireturn, 1)) {fs : List Frame}
    (hl : ∀ (f : JFrame) (acts : List Action), f.method = m → f.locked = none → f.entered = [] → (doReturn e (T.setTop f) acts (some (.int z))).1 = T.setFrames fs) : Steps p.tables e below (T.setTop (mkF m pc Ls (.int z :: rest))) (T.setFrames fs) :=
  retOut X hx hret rfl (Or.inl ⟨rfl, Or.inl rfl, z, rfl⟩) hd hl
theorem own_retA {p : Program} {l : Launch} {e : Env} {R : Room} {s : State} {m : MethodId} {args : Array Value} {below : List Frame} {meth : Method} {c : Code} {T : State} {locs : List Loc} {cells slots : Nat} (X : Stand p l e R s m args below meth c T locs cells slots) (hx : p.tables.exec = Jvm.exec) {pc : Nat} {Ls : Array Slot} {w : Value} {t : FieldType} {rest : List Value} (hret : meth.sig.returnType = some t) (ht : t.isReference = true) (hw : w.isRef = true) (hn : narrow t w = w) (hd : decode c.code pc = .ok (.areturn, 1)) {fs : List Frame}
    (hl : ∀ (f : JFrame) (acts : List Action), f.method = m → f.locked = none → f.entered = [] → (doReturn e (T.setTop f) acts (some w)).1 = T.setFrames fs) : Steps p.tables e below (T.setTop (mkF m pc Ls (w :: rest))) (T.setFrames fs) :=
  retOut X hx hret hn (Or.inr (Or.inr (Or.inr (Or.inr ⟨rfl, ht, hw⟩)))) hd hl
theorem own_retJ {p : Program} {l : Launch} {e : Env} {R : Room} {s : State} {m : MethodId} {args : Array Value} {below : List Frame} {meth : Method} {c : Code} {T : State} {locs : List Loc} {cells slots : Nat} (X : Stand p l e R s m args below meth c T locs cells slots) (hx : p.tables.exec = Jvm.exec) {pc : Nat} {Ls : Array Slot} {z : Int64} {rest : List Value} (hret : meth.sig.returnType = some .long) (hd : decode c.code pc = .ok (.lreturn, 1)) {fs : List Frame}
    (hl : ∀ (f : JFrame) (acts : List Action), f.method = m → f.locked = none → f.entered = [] → (doReturn e (T.setTop f) acts (some (.long z))).1 = T.setFrames fs) : Steps p.tables e below (T.setTop (mkF m pc Ls (.long z :: rest))) (T.setFrames fs) :=
  retOut X hx hret rfl (Or.inr (Or.inl ⟨rfl, rfl, z, rfl⟩)) hd hl
theorem own_exttr {h0 h h' : Heap} (E : Ext h0 h) (E' : Ext h h') : Ext h0 h' := ⟨Nat.le_trans E.1 E'.1, fun a c q => E'.2 _ _ (E.2 _ _ q)⟩
theorem own_extwr {h0 h h' : Heap} {a : Addr} {sl : Nat} {v : Value} (E : Ext h0 h) (W : Wr h h' a sl v) (q : h0.size ≤ a) : Ext h0 h' := by
  refine ⟨Nat.le_trans E.1 (Nat.le_of_eq W.size.symm), fun x c hc => ?_⟩
  obtain ⟨c', e1, -, -, -, e5, -⟩ := wr_at W (E.2 x c hc)
  have hx : x < h0.size := (Array.getElem?_eq_some_iff.mp hc).1
  rw [e5 (Nat.ne_of_lt (Nat.lt_of_lt_of_le hx q))] at e1
  exact e1
theorem own_wmono {s t : State} {o : Outcome} {L : List Loc} {k n k' n' : Nat} (h : ReturnedEndW s o t L k n) (hk : k ≤ k') (hn : n ≤ n') : ReturnedEndW s o t L k' n' := ⟨h.1, h.2.1, h.2.2.1, h.2.2.2.mono hk hn⟩
theorem own_strAtoms {Z : State} {a0 : Array Value} (w1 : (Jvm.Cond.initialized "java/lang/String").before a0 Z = true) (w2 : (Jvm.Cond.instantiable "java/lang/String" 4).before a0 Z = true) (w3 : (Jvm.Cond.arrayClass .byte).before a0 Z = true) (w4 : (Jvm.Cond.laysFinal "java/lang/String" "java/lang/String" "value" "[B").before a0 Z = true) (w5 : (Jvm.Cond.laysFinal "java/lang/String" "java/lang/String" "coder" "B").before a0 Z = true) (w6 : (Jvm.Cond.soleField "java/lang/String" "value").before a0 Z = true) (w7 : (Jvm.Cond.soleField "java/lang/String" "coder").before a0 Z = true) : ∀ a ∈ Bundle.stringAtoms, a.before a0 Z = true := by
  intro a ha
  simp only [Bundle.stringAtoms, List.mem_cons, List.not_mem_nil, or_false] at ha
  rcases ha with rfl | rfl | rfl | rfl | rfl | rfl | rfl <;> assumption
theorem own_extkeep {h0 h h' : Heap} {a : Addr} (E : Ext h0 h) (K : Keep h h' [a]) (q : h0.size ≤ a) : Ext h0 h' := ⟨Nat.le_trans E.1 K.1, fun x c hc => K.2.1 x c (E.2 x c hc) (fun hm => absurd (List.mem_singleton.mp hm) (Nat.ne_of_lt (Nat.lt_of_lt_of_le (Array.getElem?_eq_some_iff.mp hc).1 q)))⟩
theorem own_fld2 {Z : State} {h : Heap} {a : Addr} {C O n d O1 n1 d1 : String} {v1 : Value} {a0 : Array Value} {k : Nat} (E : Exa Z h a C) (F : Fld Z h a O1 n1 d1 v1) (L : Laid Z a0 C O n d) (wi : (Jvm.Cond.instantiable C k).before a0 Z = true) : ∃ v, Fld Z h a O n d v := by
  obtain ⟨cell, kc, h1, h2, h3, h4, h5⟩ := E
  obtain ⟨cell', cf', k', i', f', g1, -, -, g4, g5, -, -⟩ := F
  cases h1.symm.trans g1
  obtain ⟨c, k2, cf, kf, i, f, a1, a2, a3, a4, a5, a6, -⟩ := L.spec
  cases h2.symm.trans a1
  cases h3.symm.trans a2
  obtain ⟨c2, k3, i1, i2, i3, -⟩ := Cond.instantiable_spec wi
  cases h2.symm.trans i1
  cases h3.symm.trans i2
  have hs := h5 i3
  have hlt : f.slot < cell.slots.size := by rw [hs]; exact (Array.getElem?_eq_some_iff.mp a6).1
  exact ⟨cell.slots[f.slot], cell, cf, kf, i, f, h1, a3, a4, g4, g5, a5, Array.getElem?_eq_getElem hlt⟩
theorem own_retD {p : Program} {l : Launch} {e : Env} {R : Room} {s : State} {m : MethodId} {args : Array Value} {below : List Frame} {meth : Method} {c : Code} {T : State} {locs : List Loc} {cells slots : Nat} (X : Stand p l e R s m args below meth c T locs cells slots) (hx : p.tables.exec = Jvm.exec) {pc : Nat} {Ls : Array Slot} {z : UInt64} {rest : List Value} (hret : meth.sig.returnType = some .double) (hd : decode c.code pc = .ok (.dreturn, 1)) {fs : List Frame}
    (hl : ∀ (f : JFrame) (acts : List Action), f.method = m → f.locked = none → f.entered = [] → (doReturn e (T.setTop f) acts (some (.double z))).1 = T.setFrames fs) : Steps p.tables e below (T.setTop (mkF m pc Ls (.double z :: rest))) (T.setFrames fs) :=
  retOut X hx hret rfl (Or.inr (Or.inr (Or.inl ⟨rfl, rfl, z, rfl⟩))) hd hl
theorem own_eqk {args : Array Value} {first s : State} {o : Option Outcome} {idx : List Nat} {t : Term} {k : Int32} (h : (Jvm.Cond.eq t (.int k)).value args first o s idx = some true) : t.eval args first o idx s = some (.int k) := by
  have hk : (Term.int k).eval args first o idx s = some (.int k) := Term.int_eval k
  cases ht : t.eval args first o idx s with
  | none => simp [Cond.value, ht] at h
  | some x => cases x <;> simp [Cond.value, ht, hk] at h ⊢ <;> exact h
theorem own_pn0 : plainName "com/example/starquarry/starquarry/adql/KindHasLengthPinLaw" = true := by first | (simp [plainName, overriddenIn]; done) | decide +kernel
theorem own_d_pick_0 : decode method_2_code 0 = .ok (.iload_n 0, 1) := by decide +kernel
theorem own_d_pick_1 : decode method_2_code 1 = .ok (.ifCond .ne 7, 3) := by decide +kernel
theorem own_d_pick_4 : decode method_2_code 4 = .ok (.getstatic 7, 3) := by decide +kernel
theorem own_d_pick_7 : decode method_2_code 7 = .ok (.areturn, 1) := by decide +kernel
theorem own_d_pick_8 : decode method_2_code 8 = .ok (.iload_n 0, 1) := by decide +kernel
theorem own_d_pick_9 : decode method_2_code 9 = .ok (.iconst 1, 1) := by decide +kernel
theorem own_d_pick_10 : decode method_2_code 10 = .ok (.if_icmp .ne 7, 3) := by decide +kernel
theorem own_d_pick_13 : decode method_2_code 13 = .ok (.getstatic 13, 3) := by decide +kernel
theorem own_d_pick_16 : decode method_2_code 16 = .ok (.areturn, 1) := by decide +kernel
theorem own_d_pick_17 : decode method_2_code 17 = .ok (.iload_n 0, 1) := by decide +kernel
theorem own_d_pick_18 : decode method_2_code 18 = .ok (.iconst 2, 1) := by decide +kernel
theorem own_d_pick_19 : decode method_2_code 19 = .ok (.if_icmp .ne 7, 3) := by decide +kernel
theorem own_d_pick_22 : decode method_2_code 22 = .ok (.getstatic 16, 3) := by decide +kernel
theorem own_d_pick_25 : decode method_2_code 25 = .ok (.areturn, 1) := by decide +kernel
theorem own_d_pick_26 : decode method_2_code 26 = .ok (.iload_n 0, 1) := by decide +kernel
theorem own_d_pick_27 : decode method_2_code 27 = .ok (.iconst 3, 1) := by decide +kernel
theorem own_d_pick_28 : decode method_2_code 28 = .ok (.if_icmp .ne 7, 3) := by decide +kernel
theorem own_d_pick_31 : decode method_2_code 31 = .ok (.getstatic 19, 3) := by decide +kernel
theorem own_d_pick_34 : decode method_2_code 34 = .ok (.areturn, 1) := by decide +kernel
theorem own_d_pick_35 : decode method_2_code 35 = .ok (.iload_n 0, 1) := by decide +kernel
theorem own_d_pick_36 : decode method_2_code 36 = .ok (.iconst 4, 1) := by decide +kernel
theorem own_d_pick_37 : decode method_2_code 37 = .ok (.if_icmp .ne 7, 3) := by decide +kernel
theorem own_d_pick_40 : decode method_2_code 40 = .ok (.getstatic 22, 3) := by decide +kernel
theorem own_d_pick_43 : decode method_2_code 43 = .ok (.areturn, 1) := by decide +kernel
theorem own_d_pick_44 : decode method_2_code 44 = .ok (.iload_n 0, 1) := by decide +kernel
theorem own_d_pick_45 : decode method_2_code 45 = .ok (.iconst 5, 1) := by decide +kernel
theorem own_d_pick_46 : decode method_2_code 46 = .ok (.if_icmp .ne 7, 3) := by decide +kernel
theorem own_d_pick_49 : decode method_2_code 49 = .ok (.getstatic 25, 3) := by decide +kernel
theorem own_d_pick_52 : decode method_2_code 52 = .ok (.areturn, 1) := by decide +kernel
theorem own_d_pick_53 : decode method_2_code 53 = .ok (.iload_n 0, 1) := by decide +kernel
theorem own_d_pick_54 : decode method_2_code 54 = .ok (.bipush 6, 2) := by decide +kernel
theorem own_d_pick_56 : decode method_2_code 56 = .ok (.if_icmp .ne 7, 3) := by decide +kernel
theorem own_d_pick_59 : decode method_2_code 59 = .ok (.getstatic 28, 3) := by decide +kernel
theorem own_d_pick_62 : decode method_2_code 62 = .ok (.areturn, 1) := by decide +kernel
theorem own_d_pick_63 : decode method_2_code 63 = .ok (.iload_n 0, 1) := by decide +kernel
theorem own_d_pick_64 : decode method_2_code 64 = .ok (.bipush 7, 2) := by decide +kernel
theorem own_d_pick_66 : decode method_2_code 66 = .ok (.if_icmp .ne 7, 3) := by decide +kernel
theorem own_d_pick_69 : decode method_2_code 69 = .ok (.getstatic 31, 3) := by decide +kernel
theorem own_d_pick_72 : decode method_2_code 72 = .ok (.areturn, 1) := by decide +kernel
theorem own_d_pick_73 : decode method_2_code 73 = .ok (.iload_n 0, 1) := by decide +kernel
theorem own_d_pick_74 : decode method_2_code 74 = .ok (.bipush 8, 2) := by decide +kernel
theorem own_d_pick_76 : decode method_2_code 76 = .ok (.if_icmp .ne 7, 3) := by decide +kernel
theorem own_d_pick_79 : decode method_2_code 79 = .ok (.getstatic 34, 3) := by decide +kernel
theorem own_d_pick_82 : decode method_2_code 82 = .ok (.areturn, 1) := by decide +kernel
theorem own_d_pick_83 : decode method_2_code 83 = .ok (.iload_n 0, 1) := by decide +kernel
theorem own_d_pick_84 : decode method_2_code 84 = .ok (.bipush 9, 2) := by decide +kernel
theorem own_d_pick_86 : decode method_2_code 86 = .ok (.if_icmp .ne 7, 3) := by decide +kernel
theorem own_d_pick_89 : decode method_2_code 89 = .ok (.getstatic 37, 3) := by decide +kernel
theorem own_d_pick_92 : decode method_2_code 92 = .ok (.areturn, 1) := by decide +kernel
theorem own_d_pick_93 : decode method_2_code 93 = .ok (.getstatic 40, 3) := by decide +kernel
theorem own_d_pick_96 : decode method_2_code 96 = .ok (.areturn, 1) := by decide +kernel
def F_pick (p0 : Int32) (w_SMALLINT : Addr) (w_INTEGER : Addr) (w_BIGINT : Addr) (w_REAL : Addr) (w_DOUBLE_PRECISION : Addr) (w_CHAR : Addr) (w_VARCHAR : Addr) (w_TIMESTAMP : Addr) (w_POINT : Addr) (w_CIRCLE : Addr) (w_POLYGON : Addr) : Addr := (if p0 = (0 : Int32) then w_SMALLINT else (if p0 = (1 : Int32) then w_INTEGER else (if p0 = (2 : Int32) then w_BIGINT else (if p0 = (3 : Int32) then w_REAL else (if p0 = (4 : Int32) then w_DOUBLE_PRECISION else (if p0 = (5 : Int32) then w_CHAR else (if p0 = (6 : Int32) then w_VARCHAR else (if p0 = (7 : Int32) then w_TIMESTAMP else (if p0 = (8 : Int32) then w_POINT else (if p0 = (9 : Int32) then w_CIRCLE else w_POLYGON))))))))))
theorem own_ef_pick (m : MethodId) (p0 : Int32) : entryFrame m #[(.int p0)] 1 = mkF m 0 #[.val (.int p0)] [] := by first | (simp [entryFrame, mkF, argsToLocals, Value.category]; done) | rfl
def Q_pick (Z : State) (p0 : Int32) (w_SMALLINT : Addr) (w_INTEGER : Addr) (w_BIGINT : Addr) (w_REAL : Addr) (w_DOUBLE_PRECISION : Addr) (w_CHAR : Addr) (w_VARCHAR : Addr) (w_TIMESTAMP : Addr) (w_POINT : Addr) (w_CIRCLE : Addr) (w_POLYGON : Addr) (h0 : Heap) (n0 : Nat) (v : Option Value) (h : Heap) (L : List Loc) : Prop := v = some (.ref (F_pick p0 w_SMALLINT w_INTEGER w_BIGINT w_REAL w_DOUBLE_PRECISION w_CHAR w_VARCHAR w_TIMESTAMP w_POINT w_CIRCLE w_POLYGON)) ∧ Fr n0 L ∧ h = h0
set_option maxRecDepth 65536 in
set_option maxHeartbeats 40000000 in
theorem rm_pick (l : Launch) (Z : State) (a0' : Array Value) (hw : ∀ d ∈ tables_1, d.before a0' Z = true) (ws : List Jvm.Cond) (p0 : Int32) (w_SMALLINT : Addr) (w_INTEGER : Addr) (w_BIGINT : Addr) (w_REAL : Addr) (w_DOUBLE_PRECISION : Addr) (w_CHAR : Addr) (w_VARCHAR : Addr) (w_TIMESTAMP : Addr) (w_POINT : Addr) (w_CIRCLE : Addr) (w_POLYGON : Addr) (h0 : Heap) (n0 : Nat) (Z0 : n0 ≤ h0.size) (S_SMALLINT : Sta Z h0 "com/example/starquarry/starquarry/adql/CastType$Kind" "SMALLINT" "Lcom/example/starquarry/starquarry/adql/CastType$Kind;" (.ref w_SMALLINT)) (S_INTEGER : Sta Z h0 "com/example/starquarry/starquarry/adql/CastType$Kind" "INTEGER" "Lcom/example/starquarry/starquarry/adql/CastType$Kind;" (.ref w_INTEGER)) (S_BIGINT : Sta Z h0 "com/example/starquarry/starquarry/adql/CastType$Kind" "BIGINT" "Lcom/example/starquarry/starquarry/adql/CastType$Kind;" (.ref w_BIGINT)) (S_REAL : Sta Z h0 "com/example/starquarry/starquarry/adql/CastType$Kind" "REAL" "Lcom/example/starquarry/starquarry/adql/CastType$Kind;" (.ref w_REAL)) (S_DOUBLE_PRECISION : Sta Z h0 "com/example/starquarry/starquarry/adql/CastType$Kind" "DOUBLE_PRECISION" "Lcom/example/starquarry/starquarry/adql/CastType$Kind;" (.ref w_DOUBLE_PRECISION)) (S_CHAR : Sta Z h0 "com/example/starquarry/starquarry/adql/CastType$Kind" "CHAR" "Lcom/example/starquarry/starquarry/adql/CastType$Kind;" (.ref w_CHAR)) (S_VARCHAR : Sta Z h0 "com/example/starquarry/starquarry/adql/CastType$Kind" "VARCHAR" "Lcom/example/starquarry/starquarry/adql/CastType$Kind;" (.ref w_VARCHAR)) (S_TIMESTAMP : Sta Z h0 "com/example/starquarry/starquarry/adql/CastType$Kind" "TIMESTAMP" "Lcom/example/starquarry/starquarry/adql/CastType$Kind;" (.ref w_TIMESTAMP)) (S_POINT : Sta Z h0 "com/example/starquarry/starquarry/adql/CastType$Kind" "POINT" "Lcom/example/starquarry/starquarry/adql/CastType$Kind;" (.ref w_POINT)) (S_CIRCLE : Sta Z h0 "com/example/starquarry/starquarry/adql/CastType$Kind" "CIRCLE" "Lcom/example/starquarry/starquarry/adql/CastType$Kind;" (.ref w_CIRCLE)) (S_POLYGON : Sta Z h0 "com/example/starquarry/starquarry/adql/CastType$Kind" "POLYGON" "Lcom/example/starquarry/starquarry/adql/CastType$Kind;" (.ref w_POLYGON)) :
    MetFree l (⟨"com/example/starquarry/starquarry/adql/KindHasLengthPinLaw", "pick", "(I)Lcom/example/starquarry/starquarry/adql/CastType$Kind;"⟩ : MethodName) (head1 (Jvm.Cond.code (⟨"com/example/starquarry/starquarry/adql/KindHasLengthPinLaw", "pick", "(I)Lcom/example/starquarry/starquarry/adql/CastType$Kind;"⟩ : MethodName) method_2_code 1 (some (.object "com/example/starquarry/starquarry/adql/CastType$Kind")) :: ws) ({ frames := 0, cells := 0, slots := 0, locals := 0 } : Room)) (fun a U => a = #[(.int p0)] ∧ Z.Warmed39 U.vm ∧ U.heap = h0) (fun _ _ _ _ _ => True) (fun _ U o U' => ∃ v L, o = .returned v ∧ Q_pick Z p0 w_SMALLINT w_INTEGER w_BIGINT w_REAL w_DOUBLE_PRECISION w_CHAR w_VARCHAR w_TIMESTAMP w_POINT w_CIRCLE w_POLYGON h0 n0 v U'.heap L ∧ FrameEnd U o U' L ({ frames := 0, cells := 0, slots := 0, locals := 0 } : Room).cells ({ frames := 0, cells := 0, slots := 0, locals := 0 } : Room).slots) := by
  refine MetFree.of_bodySF (plainFor_of_name own_pn0) hisR ?_
  intro p e s m args below meth c s₁ Bd hml0 hP hK
  obtain ⟨rfl, hZ, hh⟩ := hP
  have hx := Bd.exec
  have hby := Bd.bytes
  have hml : c.maxLocals = 1 := hml0
  have hown : s.vm.findClass "com/example/starquarry/starquarry/adql/KindHasLengthPinLaw" = some m.cls := findClass_of_methodNamed Bd.named
  have hnm := (name_of_methodNamed Bd.named Bd.method).1
  have X0 : Stand p l e ({ frames := 0, cells := 0, slots := 0, locals := 0 } : Room) s m #[(.int p0)] below meth c s₁ [] 0 0 := Stand.of_body Bd
  have e0 : s₁.heap = h0 := by rw [← hh, Bd.state]; rfl
  have N0 := Fr.nil n0
  have pre0 : ∀ t, Steps p.tables e below (s₁.setTop (mkF m 0 #[.val (.int p0)] [])) t → Steps p.tables e below (s₁.setTop (entryFrame m #[(.int p0)] 1)) t := fun t k => castTop (own_ef_pick m p0) k
  have pre2 : ∀ t, Steps p.tables e below (s₁.setTop (mkF m 1 #[.val (.int p0)] [(.int p0)])) t → Steps p.tables e below (s₁.setTop (entryFrame m #[(.int p0)] 1)) t := fun t k => pre0 t (by
    show Steps p.tables e below (s₁.setTop (mkF m 0 #[.val (.int p0)] [])) _
    refine XS.iloadN X0.here hx rfl (hb hby own_d_pick_0) rfl ?_
    exact k)
  by_cases hc1_1 : p0 = (0 : Int32)
  · obtain ⟨T3, X3, e3, st3⟩ := getS2 X0 hx hZ hown (host := "") (Or.inl (hw _ (List.mem_of_getElem? (i := 5) rfl))) Via.refl e0 S_SMALLINT (g := (mkF m 4 #[.val (.int p0)] [])) rfl (hb hby own_d_pick_4)
    obtain ⟨fs, hr, hrun, hended, hW, hsame⟩ := X3.leave (v := some (.ref w_SMALLINT)) (fun h => by rw [Bd.returns] at h; cases h)
    refine ⟨_, _, pre2 _ ?_, hrun, hended, _, _, rfl, ?_, ⟨_, rfl⟩, hW, hsame.mono (by decide) (by decide)⟩
    · show Steps p.tables e below (s₁.setTop (mkF m 1 #[.val (.int p0)] [(.int p0)])) _
      refine XS.ifNo X0.here hx rfl (hb hby own_d_pick_1) rfl ((if0 _ _).trans (teq hc1_1).2) ?_
      show Steps p.tables e below (s₁.setTop (mkF m 4 #[.val (.int p0)] [])) _
      refine st3 _ ?_
      show Steps p.tables e below (T3.setTop (mkF m 7 #[.val (.int p0)] [(.ref w_SMALLINT)])) _
      exact own_retA X3 hx Bd.returns rfl rfl rfl (hb hby own_d_pick_7) hr
    · show Q_pick Z p0 w_SMALLINT w_INTEGER w_BIGINT w_REAL w_DOUBLE_PRECISION w_CHAR w_VARCHAR w_TIMESTAMP w_POINT w_CIRCLE w_POLYGON h0 n0 _ T3.heap _
      refine ⟨?_, N0, e3⟩
      rw [F_pick, if_pos hc1_1]
  · have pre5 : ∀ t, Steps p.tables e below (s₁.setTop (mkF m 10 #[.val (.int p0)] [(.int (1 : Int32)), (.int p0)])) t → Steps p.tables e below (s₁.setTop (entryFrame m #[(.int p0)] 1)) t := fun t k => pre2 t (by
      show Steps p.tables e below (s₁.setTop (mkF m 1 #[.val (.int p0)] [(.int p0)])) _
      refine XS.ifYes X0.here hx rfl (pc0 := 1) (pc' := 8) rfl (hb hby own_d_pick_1) rfl ((if0 _ _).trans (feq hc1_1).2) (by decide) (by decide) ?_
      show Steps p.tables e below (s₁.setTop (mkF m 8 #[.val (.int p0)] [])) _
      refine XS.iloadN X0.here hx rfl (hb hby own_d_pick_8) rfl ?_
      show Steps p.tables e below (s₁.setTop (mkF m 9 #[.val (.int p0)] [(.int p0)])) _
      refine XS.iconst X0.here hx rfl (hb hby own_d_pick_9) ?_
      exact k)
    by_cases hc10_4 : p0 = (1 : Int32)
    · obtain ⟨T6, X6, e6, st6⟩ := getS2 X0 hx hZ hown (host := "") (Or.inl (hw _ (List.mem_of_getElem? (i := 27) rfl))) Via.refl e0 S_INTEGER (g := (mkF m 13 #[.val (.int p0)] [])) rfl (hb hby own_d_pick_13)
      obtain ⟨fs, hr, hrun, hended, hW, hsame⟩ := X6.leave (v := some (.ref w_INTEGER)) (fun h => by rw [Bd.returns] at h; cases h)
      refine ⟨_, _, pre5 _ ?_, hrun, hended, _, _, rfl, ?_, ⟨_, rfl⟩, hW, hsame.mono (by decide) (by decide)⟩
      · show Steps p.tables e below (s₁.setTop (mkF m 10 #[.val (.int p0)] [(.int (1 : Int32)), (.int p0)])) _
        refine XS.icmpNo X0.here hx rfl (hb hby own_d_pick_10) rfl (teq hc10_4).2 ?_
        show Steps p.tables e below (s₁.setTop (mkF m 13 #[.val (.int p0)] [])) _
        refine st6 _ ?_
        show Steps p.tables e below (T6.setTop (mkF m 16 #[.val (.int p0)] [(.ref w_INTEGER)])) _
        exact own_retA X6 hx Bd.returns rfl rfl rfl (hb hby own_d_pick_16) hr
      · show Q_pick Z p0 w_SMALLINT w_INTEGER w_BIGINT w_REAL w_DOUBLE_PRECISION w_CHAR w_VARCHAR w_TIMESTAMP w_POINT w_CIRCLE w_POLYGON h0 n0 _ T6.heap _
        refine ⟨?_, N0, e6⟩
        rw [F_pick, if_neg hc1_1, if_pos hc10_4]
    · have pre8 : ∀ t, Steps p.tables e below (s₁.setTop (mkF m 19 #[.val (.int p0)] [(.int (2 : Int32)), (.int p0)])) t → Steps p.tables e below (s₁.setTop (entryFrame m #[(.int p0)] 1)) t := fun t k => pre5 t (by
        show Steps p.tables e below (s₁.setTop (mkF m 10 #[.val (.int p0)] [(.int (1 : Int32)), (.int p0)])) _
        refine XS.icmpYes X0.here hx rfl (pc0 := 10) (pc' := 17) rfl (hb hby own_d_pick_10) rfl (feq hc10_4).2 (by decide) (by decide) ?_
        show Steps p.tables e below (s₁.setTop (mkF m 17 #[.val (.int p0)] [])) _
        refine XS.iloadN X0.here hx rfl (hb hby own_d_pick_17) rfl ?_
        show Steps p.tables e below (s₁.setTop (mkF m 18 #[.val (.int p0)] [(.int p0)])) _
        refine XS.iconst X0.here hx rfl (hb hby own_d_pick_18) ?_
        exact k)
      by_cases hc19_7 : p0 = (2 : Int32)
      · obtain ⟨T9, X9, e9, st9⟩ := getS2 X0 hx hZ hown (host := "") (Or.inl (hw _ (List.mem_of_getElem? (i := 23) rfl))) Via.refl e0 S_BIGINT (g := (mkF m 22 #[.val (.int p0)] [])) rfl (hb hby own_d_pick_22)
        obtain ⟨fs, hr, hrun, hended, hW, hsame⟩ := X9.leave (v := some (.ref w_BIGINT)) (fun h => by rw [Bd.returns] at h; cases h)
        refine ⟨_, _, pre8 _ ?_, hrun, hended, _, _, rfl, ?_, ⟨_, rfl⟩, hW, hsame.mono (by decide) (by decide)⟩
        · show Steps p.tables e below (s₁.setTop (mkF m 19 #[.val (.int p0)] [(.int (2 : Int32)), (.int p0)])) _
          refine XS.icmpNo X0.here hx rfl (hb hby own_d_pick_19) rfl (teq hc19_7).2 ?_
          show Steps p.tables e below (s₁.setTop (mkF m 22 #[.val (.int p0)] [])) _
          refine st9 _ ?_
          show Steps p.tables e below (T9.setTop (mkF m 25 #[.val (.int p0)] [(.ref w_BIGINT)])) _
          exact own_retA X9 hx Bd.returns rfl rfl rfl (hb hby own_d_pick_25) hr
        · show Q_pick Z p0 w_SMALLINT w_INTEGER w_BIGINT w_REAL w_DOUBLE_PRECISION w_CHAR w_VARCHAR w_TIMESTAMP w_POINT w_CIRCLE w_POLYGON h0 n0 _ T9.heap _
          refine ⟨?_, N0, e9⟩
          rw [F_pick, if_neg hc1_1, if_neg hc10_4, if_pos hc19_7]
      · have pre11 : ∀ t, Steps p.tables e below (s₁.setTop (mkF m 28 #[.val (.int p0)] [(.int (3 : Int32)), (.int p0)])) t → Steps p.tables e below (s₁.setTop (entryFrame m #[(.int p0)] 1)) t := fun t k => pre8 t (by
          show Steps p.tables e below (s₁.setTop (mkF m 19 #[.val (.int p0)] [(.int (2 : Int32)), (.int p0)])) _
          refine XS.icmpYes X0.here hx rfl (pc0 := 19) (pc' := 26) rfl (hb hby own_d_pick_19) rfl (feq hc19_7).2 (by decide) (by decide) ?_
          show Steps p.tables e below (s₁.setTop (mkF m 26 #[.val (.int p0)] [])) _
          refine XS.iloadN X0.here hx rfl (hb hby own_d_pick_26) rfl ?_
          show Steps p.tables e below (s₁.setTop (mkF m 27 #[.val (.int p0)] [(.int p0)])) _
          refine XS.iconst X0.here hx rfl (hb hby own_d_pick_27) ?_
          exact k)
        by_cases hc28_10 : p0 = (3 : Int32)
        · obtain ⟨T12, X12, e12, st12⟩ := getS2 X0 hx hZ hown (host := "") (Or.inl (hw _ (List.mem_of_getElem? (i := 17) rfl))) Via.refl e0 S_REAL (g := (mkF m 31 #[.val (.int p0)] [])) rfl (hb hby own_d_pick_31)
          obtain ⟨fs, hr, hrun, hended, hW, hsame⟩ := X12.leave (v := some (.ref w_REAL)) (fun h => by rw [Bd.returns] at h; cases h)
          refine ⟨_, _, pre11 _ ?_, hrun, hended, _, _, rfl, ?_, ⟨_, rfl⟩, hW, hsame.mono (by decide) (by decide)⟩
          · show Steps p.tables e below (s₁.setTop (mkF m 28 #[.val (.int p0)] [(.int (3 : Int32)), (.int p0)])) _
            refine XS.icmpNo X0.here hx rfl (hb hby own_d_pick_28) rfl (teq hc28_10).2 ?_
            show Steps p.tables e below (s₁.setTop (mkF m 31 #[.val (.int p0)] [])) _
            refine st12 _ ?_
            show Steps p.tables e below (T12.setTop (mkF m 34 #[.val (.int p0)] [(.ref w_REAL)])) _
            exact own_retA X12 hx Bd.returns rfl rfl rfl (hb hby own_d_pick_34) hr
          · show Q_pick Z p0 w_SMALLINT w_INTEGER w_BIGINT w_REAL w_DOUBLE_PRECISION w_CHAR w_VARCHAR w_TIMESTAMP w_POINT w_CIRCLE w_POLYGON h0 n0 _ T12.heap _
            refine ⟨?_, N0, e12⟩
            rw [F_pick, if_neg hc1_1, if_neg hc10_4, if_neg hc19_7, if_pos hc28_10]
        · have pre14 : ∀ t, Steps p.tables e below (s₁.setTop (mkF m 37 #[.val (.int p0)] [(.int (4 : Int32)), (.int p0)])) t → Steps p.tables e below (s₁.setTop (entryFrame m #[(.int p0)] 1)) t := fun t k => pre11 t (by
            show Steps p.tables e below (s₁.setTop (mkF m 28 #[.val (.int p0)] [(.int (3 : Int32)), (.int p0)])) _
            refine XS.icmpYes X0.here hx rfl (pc0 := 28) (pc' := 35) rfl (hb hby own_d_pick_28) rfl (feq hc28_10).2 (by decide) (by decide) ?_
            show Steps p.tables e below (s₁.setTop (mkF m 35 #[.val (.int p0)] [])) _
            refine XS.iloadN X0.here hx rfl (hb hby own_d_pick_35) rfl ?_
            show Steps p.tables e below (s₁.setTop (mkF m 36 #[.val (.int p0)] [(.int p0)])) _
            refine XS.iconst X0.here hx rfl (hb hby own_d_pick_36) ?_
            exact k)
          by_cases hc37_13 : p0 = (4 : Int32)
          · obtain ⟨T15, X15, e15, st15⟩ := getS2 X0 hx hZ hown (host := "") (Or.inl (hw _ (List.mem_of_getElem? (i := 33) rfl))) Via.refl e0 S_DOUBLE_PRECISION (g := (mkF m 40 #[.val (.int p0)] [])) rfl (hb hby own_d_pick_40)
            obtain ⟨fs, hr, hrun, hended, hW, hsame⟩ := X15.leave (v := some (.ref w_DOUBLE_PRECISION)) (fun h => by rw [Bd.returns] at h; cases h)
            refine ⟨_, _, pre14 _ ?_, hrun, hended, _, _, rfl, ?_, ⟨_, rfl⟩, hW, hsame.mono (by decide) (by decide)⟩
            · show Steps p.tables e below (s₁.setTop (mkF m 37 #[.val (.int p0)] [(.int (4 : Int32)), (.int p0)])) _
              refine XS.icmpNo X0.here hx rfl (hb hby own_d_pick_37) rfl (teq hc37_13).2 ?_
              show Steps p.tables e below (s₁.setTop (mkF m 40 #[.val (.int p0)] [])) _
              refine st15 _ ?_
              show Steps p.tables e below (T15.setTop (mkF m 43 #[.val (.int p0)] [(.ref w_DOUBLE_PRECISION)])) _
              exact own_retA X15 hx Bd.returns rfl rfl rfl (hb hby own_d_pick_43) hr
            · show Q_pick Z p0 w_SMALLINT w_INTEGER w_BIGINT w_REAL w_DOUBLE_PRECISION w_CHAR w_VARCHAR w_TIMESTAMP w_POINT w_CIRCLE w_POLYGON h0 n0 _ T15.heap _
              refine ⟨?_, N0, e15⟩
              rw [F_pick, if_neg hc1_1, if_neg hc10_4, if_neg hc19_7, if_neg hc28_10, if_pos hc37_13]
          · have pre17 : ∀ t, Steps p.tables e below (s₁.setTop (mkF m 46 #[.val (.int p0)] [(.int (5 : Int32)), (.int p0)])) t → Steps p.tables e below (s₁.setTop (entryFrame m #[(.int p0)] 1)) t := fun t k => pre14 t (by
              show Steps p.tables e below (s₁.setTop (mkF m 37 #[.val (.int p0)] [(.int (4 : Int32)), (.int p0)])) _
              refine XS.icmpYes X0.here hx rfl (pc0 := 37) (pc' := 44) rfl (hb hby own_d_pick_37) rfl (feq hc37_13).2 (by decide) (by decide) ?_
              show Steps p.tables e below (s₁.setTop (mkF m 44 #[.val (.int p0)] [])) _
              refine XS.iloadN X0.here hx rfl (hb hby own_d_pick_44) rfl ?_
              show Steps p.tables e below (s₁.setTop (mkF m 45 #[.val (.int p0)] [(.int p0)])) _
              refine XS.iconst X0.here hx rfl (hb hby own_d_pick_45) ?_
              exact k)
            by_cases hc46_16 : p0 = (5 : Int32)
            · obtain ⟨T18, X18, e18, st18⟩ := getS2 X0 hx hZ hown (host := "") (Or.inl (hw _ (List.mem_of_getElem? (i := 31) rfl))) Via.refl e0 S_CHAR (g := (mkF m 49 #[.val (.int p0)] [])) rfl (hb hby own_d_pick_49)
              obtain ⟨fs, hr, hrun, hended, hW, hsame⟩ := X18.leave (v := some (.ref w_CHAR)) (fun h => by rw [Bd.returns] at h; cases h)
              refine ⟨_, _, pre17 _ ?_, hrun, hended, _, _, rfl, ?_, ⟨_, rfl⟩, hW, hsame.mono (by decide) (by decide)⟩
              · show Steps p.tables e below (s₁.setTop (mkF m 46 #[.val (.int p0)] [(.int (5 : Int32)), (.int p0)])) _
                refine XS.icmpNo X0.here hx rfl (hb hby own_d_pick_46) rfl (teq hc46_16).2 ?_
                show Steps p.tables e below (s₁.setTop (mkF m 49 #[.val (.int p0)] [])) _
                refine st18 _ ?_
                show Steps p.tables e below (T18.setTop (mkF m 52 #[.val (.int p0)] [(.ref w_CHAR)])) _
                exact own_retA X18 hx Bd.returns rfl rfl rfl (hb hby own_d_pick_52) hr
              · show Q_pick Z p0 w_SMALLINT w_INTEGER w_BIGINT w_REAL w_DOUBLE_PRECISION w_CHAR w_VARCHAR w_TIMESTAMP w_POINT w_CIRCLE w_POLYGON h0 n0 _ T18.heap _
                refine ⟨?_, N0, e18⟩
                rw [F_pick, if_neg hc1_1, if_neg hc10_4, if_neg hc19_7, if_neg hc28_10, if_neg hc37_13, if_pos hc46_16]
            · have pre20 : ∀ t, Steps p.tables e below (s₁.setTop (mkF m 56 #[.val (.int p0)] [(.int (6 : Int32)), (.int p0)])) t → Steps p.tables e below (s₁.setTop (entryFrame m #[(.int p0)] 1)) t := fun t k => pre17 t (by
                show Steps p.tables e below (s₁.setTop (mkF m 46 #[.val (.int p0)] [(.int (5 : Int32)), (.int p0)])) _
                refine XS.icmpYes X0.here hx rfl (pc0 := 46) (pc' := 53) rfl (hb hby own_d_pick_46) rfl (feq hc46_16).2 (by decide) (by decide) ?_
                show Steps p.tables e below (s₁.setTop (mkF m 53 #[.val (.int p0)] [])) _
                refine XS.iloadN X0.here hx rfl (hb hby own_d_pick_53) rfl ?_
                show Steps p.tables e below (s₁.setTop (mkF m 54 #[.val (.int p0)] [(.int p0)])) _
                refine XS.bipush X0.here hx rfl (hb hby own_d_pick_54) ?_
                exact k)
              by_cases hc56_19 : p0 = (6 : Int32)
              · obtain ⟨T21, X21, e21, st21⟩ := getS2 X0 hx hZ hown (host := "") (Or.inl (hw _ (List.mem_of_getElem? (i := 32) rfl))) Via.refl e0 S_VARCHAR (g := (mkF m 59 #[.val (.int p0)] [])) rfl (hb hby own_d_pick_59)
                obtain ⟨fs, hr, hrun, hended, hW, hsame⟩ := X21.leave (v := some (.ref w_VARCHAR)) (fun h => by rw [Bd.returns] at h; cases h)
                refine ⟨_, _, pre20 _ ?_, hrun, hended, _, _, rfl, ?_, ⟨_, rfl⟩, hW, hsame.mono (by decide) (by decide)⟩
                · show Steps p.tables e below (s₁.setTop (mkF m 56 #[.val (.int p0)] [(.int (6 : Int32)), (.int p0)])) _
                  refine XS.icmpNo X0.here hx rfl (hb hby own_d_pick_56) rfl (teq hc56_19).2 ?_
                  show Steps p.tables e below (s₁.setTop (mkF m 59 #[.val (.int p0)] [])) _
                  refine st21 _ ?_
                  show Steps p.tables e below (T21.setTop (mkF m 62 #[.val (.int p0)] [(.ref w_VARCHAR)])) _
                  exact own_retA X21 hx Bd.returns rfl rfl rfl (hb hby own_d_pick_62) hr
                · show Q_pick Z p0 w_SMALLINT w_INTEGER w_BIGINT w_REAL w_DOUBLE_PRECISION w_CHAR w_VARCHAR w_TIMESTAMP w_POINT w_CIRCLE w_POLYGON h0 n0 _ T21.heap _
                  refine ⟨?_, N0, e21⟩
                  rw [F_pick, if_neg hc1_1, if_neg hc10_4, if_neg hc19_7, if_neg hc28_10, if_neg hc37_13, if_neg hc46_16, if_pos hc56_19]
              · have pre23 : ∀ t, Steps p.tables e below (s₁.setTop (mkF m 66 #[.val (.int p0)] [(.int (7 : Int32)), (.int p0)])) t → Steps p.tables e below (s₁.setTop (entryFrame m #[(.int p0)] 1)) t := fun t k => pre20 t (by
                  show Steps p.tables e below (s₁.setTop (mkF m 56 #[.val (.int p0)] [(.int (6 : Int32)), (.int p0)])) _
                  refine XS.icmpYes X0.here hx rfl (pc0 := 56) (pc' := 63) rfl (hb hby own_d_pick_56) rfl (feq hc56_19).2 (by decide) (by decide) ?_
                  show Steps p.tables e below (s₁.setTop (mkF m 63 #[.val (.int p0)] [])) _
                  refine XS.iloadN X0.here hx rfl (hb hby own_d_pick_63) rfl ?_
                  show Steps p.tables e below (s₁.setTop (mkF m 64 #[.val (.int p0)] [(.int p0)])) _
                  refine XS.bipush X0.here hx rfl (hb hby own_d_pick_64) ?_
                  exact k)
                by_cases hc66_22 : p0 = (7 : Int32)
                · obtain ⟨T24, X24, e24, st24⟩ := getS2 X0 hx hZ hown (host := "") (Or.inl (hw _ (List.mem_of_getElem? (i := 19) rfl))) Via.refl e0 S_TIMESTAMP (g := (mkF m 69 #[.val (.int p0)] [])) rfl (hb hby own_d_pick_69)
                  obtain ⟨fs, hr, hrun, hended, hW, hsame⟩ := X24.leave (v := some (.ref w_TIMESTAMP)) (fun h => by rw [Bd.returns] at h; cases h)
                  refine ⟨_, _, pre23 _ ?_, hrun, hended, _, _, rfl, ?_, ⟨_, rfl⟩, hW, hsame.mono (by decide) (by decide)⟩
                  · show Steps p.tables e below (s₁.setTop (mkF m 66 #[.val (.int p0)] [(.int (7 : Int32)), (.int p0)])) _
                    refine XS.icmpNo X0.here hx rfl (hb hby own_d_pick_66) rfl (teq hc66_22).2 ?_
                    show Steps p.tables e below (s₁.setTop (mkF m 69 #[.val (.int p0)] [])) _
                    refine st24 _ ?_
                    show Steps p.tables e below (T24.setTop (mkF m 72 #[.val (.int p0)] [(.ref w_TIMESTAMP)])) _
                    exact own_retA X24 hx Bd.returns rfl rfl rfl (hb hby own_d_pick_72) hr
                  · show Q_pick Z p0 w_SMALLINT w_INTEGER w_BIGINT w_REAL w_DOUBLE_PRECISION w_CHAR w_VARCHAR w_TIMESTAMP w_POINT w_CIRCLE w_POLYGON h0 n0 _ T24.heap _
                    refine ⟨?_, N0, e24⟩
                    rw [F_pick, if_neg hc1_1, if_neg hc10_4, if_neg hc19_7, if_neg hc28_10, if_neg hc37_13, if_neg hc46_16, if_neg hc56_19, if_pos hc66_22]
                · have pre26 : ∀ t, Steps p.tables e below (s₁.setTop (mkF m 76 #[.val (.int p0)] [(.int (8 : Int32)), (.int p0)])) t → Steps p.tables e below (s₁.setTop (entryFrame m #[(.int p0)] 1)) t := fun t k => pre23 t (by
                    show Steps p.tables e below (s₁.setTop (mkF m 66 #[.val (.int p0)] [(.int (7 : Int32)), (.int p0)])) _
                    refine XS.icmpYes X0.here hx rfl (pc0 := 66) (pc' := 73) rfl (hb hby own_d_pick_66) rfl (feq hc66_22).2 (by decide) (by decide) ?_
                    show Steps p.tables e below (s₁.setTop (mkF m 73 #[.val (.int p0)] [])) _
                    refine XS.iloadN X0.here hx rfl (hb hby own_d_pick_73) rfl ?_
                    show Steps p.tables e below (s₁.setTop (mkF m 74 #[.val (.int p0)] [(.int p0)])) _
                    refine XS.bipush X0.here hx rfl (hb hby own_d_pick_74) ?_
                    exact k)
                  by_cases hc76_25 : p0 = (8 : Int32)
                  · obtain ⟨T27, X27, e27, st27⟩ := getS2 X0 hx hZ hown (host := "") (Or.inl (hw _ (List.mem_of_getElem? (i := 21) rfl))) Via.refl e0 S_POINT (g := (mkF m 79 #[.val (.int p0)] [])) rfl (hb hby own_d_pick_79)
                    obtain ⟨fs, hr, hrun, hended, hW, hsame⟩ := X27.leave (v := some (.ref w_POINT)) (fun h => by rw [Bd.returns] at h; cases h)
                    refine ⟨_, _, pre26 _ ?_, hrun, hended, _, _, rfl, ?_, ⟨_, rfl⟩, hW, hsame.mono (by decide) (by decide)⟩
                    · show Steps p.tables e below (s₁.setTop (mkF m 76 #[.val (.int p0)] [(.int (8 : Int32)), (.int p0)])) _
                      refine XS.icmpNo X0.here hx rfl (hb hby own_d_pick_76) rfl (teq hc76_25).2 ?_
                      show Steps p.tables e below (s₁.setTop (mkF m 79 #[.val (.int p0)] [])) _
                      refine st27 _ ?_
                      show Steps p.tables e below (T27.setTop (mkF m 82 #[.val (.int p0)] [(.ref w_POINT)])) _
                      exact own_retA X27 hx Bd.returns rfl rfl rfl (hb hby own_d_pick_82) hr
                    · show Q_pick Z p0 w_SMALLINT w_INTEGER w_BIGINT w_REAL w_DOUBLE_PRECISION w_CHAR w_VARCHAR w_TIMESTAMP w_POINT w_CIRCLE w_POLYGON h0 n0 _ T27.heap _
                      refine ⟨?_, N0, e27⟩
                      rw [F_pick, if_neg hc1_1, if_neg hc10_4, if_neg hc19_7, if_neg hc28_10, if_neg hc37_13, if_neg hc46_16, if_neg hc56_19, if_neg hc66_22, if_pos hc76_25]
                  · have pre29 : ∀ t, Steps p.tables e below (s₁.setTop (mkF m 86 #[.val (.int p0)] [(.int (9 : Int32)), (.int p0)])) t → Steps p.tables e below (s₁.setTop (entryFrame m #[(.int p0)] 1)) t := fun t k => pre26 t (by
                      show Steps p.tables e below (s₁.setTop (mkF m 76 #[.val (.int p0)] [(.int (8 : Int32)), (.int p0)])) _
                      refine XS.icmpYes X0.here hx rfl (pc0 := 76) (pc' := 83) rfl (hb hby own_d_pick_76) rfl (feq hc76_25).2 (by decide) (by decide) ?_
                      show Steps p.tables e below (s₁.setTop (mkF m 83 #[.val (.int p0)] [])) _
                      refine XS.iloadN X0.here hx rfl (hb hby own_d_pick_83) rfl ?_
                      show Steps p.tables e below (s₁.setTop (mkF m 84 #[.val (.int p0)] [(.int p0)])) _
                      refine XS.bipush X0.here hx rfl (hb hby own_d_pick_84) ?_
                      exact k)
                    by_cases hc86_28 : p0 = (9 : Int32)
                    · obtain ⟨T30, X30, e30, st30⟩ := getS2 X0 hx hZ hown (host := "") (Or.inl (hw _ (List.mem_of_getElem? (i := 29) rfl))) Via.refl e0 S_CIRCLE (g := (mkF m 89 #[.val (.int p0)] [])) rfl (hb hby own_d_pick_89)
                      obtain ⟨fs, hr, hrun, hended, hW, hsame⟩ := X30.leave (v := some (.ref w_CIRCLE)) (fun h => by rw [Bd.returns] at h; cases h)
                      refine ⟨_, _, pre29 _ ?_, hrun, hended, _, _, rfl, ?_, ⟨_, rfl⟩, hW, hsame.mono (by decide) (by decide)⟩
                      · show Steps p.tables e below (s₁.setTop (mkF m 86 #[.val (.int p0)] [(.int (9 : Int32)), (.int p0)])) _
                        refine XS.icmpNo X0.here hx rfl (hb hby own_d_pick_86) rfl (teq hc86_28).2 ?_
                        show Steps p.tables e below (s₁.setTop (mkF m 89 #[.val (.int p0)] [])) _
                        refine st30 _ ?_
                        show Steps p.tables e below (T30.setTop (mkF m 92 #[.val (.int p0)] [(.ref w_CIRCLE)])) _
                        exact own_retA X30 hx Bd.returns rfl rfl rfl (hb hby own_d_pick_92) hr
                      · show Q_pick Z p0 w_SMALLINT w_INTEGER w_BIGINT w_REAL w_DOUBLE_PRECISION w_CHAR w_VARCHAR w_TIMESTAMP w_POINT w_CIRCLE w_POLYGON h0 n0 _ T30.heap _
                        refine ⟨?_, N0, e30⟩
                        rw [F_pick, if_neg hc1_1, if_neg hc10_4, if_neg hc19_7, if_neg hc28_10, if_neg hc37_13, if_neg hc46_16, if_neg hc56_19, if_neg hc66_22, if_neg hc76_25, if_pos hc86_28]
                    · obtain ⟨T31, X31, e31, st31⟩ := getS2 X0 hx hZ hown (host := "") (Or.inl (hw _ (List.mem_of_getElem? (i := 25) rfl))) Via.refl e0 S_POLYGON (g := (mkF m 93 #[.val (.int p0)] [])) rfl (hb hby own_d_pick_93)
                      obtain ⟨fs, hr, hrun, hended, hW, hsame⟩ := X31.leave (v := some (.ref w_POLYGON)) (fun h => by rw [Bd.returns] at h; cases h)
                      refine ⟨_, _, pre29 _ ?_, hrun, hended, _, _, rfl, ?_, ⟨_, rfl⟩, hW, hsame.mono (by decide) (by decide)⟩
                      · show Steps p.tables e below (s₁.setTop (mkF m 86 #[.val (.int p0)] [(.int (9 : Int32)), (.int p0)])) _
                        refine XS.icmpYes X0.here hx rfl (pc0 := 86) (pc' := 93) rfl (hb hby own_d_pick_86) rfl (feq hc86_28).2 (by decide) (by decide) ?_
                        show Steps p.tables e below (s₁.setTop (mkF m 93 #[.val (.int p0)] [])) _
                        refine st31 _ ?_
                        show Steps p.tables e below (T31.setTop (mkF m 96 #[.val (.int p0)] [(.ref w_POLYGON)])) _
                        exact own_retA X31 hx Bd.returns rfl rfl rfl (hb hby own_d_pick_96) hr
                      · show Q_pick Z p0 w_SMALLINT w_INTEGER w_BIGINT w_REAL w_DOUBLE_PRECISION w_CHAR w_VARCHAR w_TIMESTAMP w_POINT w_CIRCLE w_POLYGON h0 n0 _ T31.heap _
                        refine ⟨?_, N0, e31⟩
                        rw [F_pick, if_neg hc1_1, if_neg hc10_4, if_neg hc19_7, if_neg hc28_10, if_neg hc37_13, if_neg hc46_16, if_neg hc56_19, if_neg hc66_22, if_neg hc76_25, if_neg hc86_28]
theorem own_pn1 : plainName "com/example/starquarry/starquarry/adql/CastType$Kind" = true := by first | (simp [plainName, overriddenIn]; done) | decide +kernel
theorem own_d_has_0 : decode prog_17_method_7_code 0 = .ok (.aload_n 0, 1) := by decide +kernel
theorem own_d_has_1 : decode prog_17_method_7_code 1 = .ok (.getstatic 19, 3) := by decide +kernel
theorem own_d_has_4 : decode prog_17_method_7_code 4 = .ok (.if_acmp .eq 10, 3) := by decide +kernel
theorem own_d_has_14 : decode prog_17_method_7_code 14 = .ok (.iconst 1, 1) := by decide +kernel
theorem own_d_has_15 : decode prog_17_method_7_code 15 = .ok (.goto 4, 3) := by decide +kernel
theorem own_d_has_19 : decode prog_17_method_7_code 19 = .ok (.ireturn, 1) := by decide +kernel
theorem own_d_has_7 : decode prog_17_method_7_code 7 = .ok (.aload_n 0, 1) := by decide +kernel
theorem own_d_has_8 : decode prog_17_method_7_code 8 = .ok (.getstatic 22, 3) := by decide +kernel
theorem own_d_has_11 : decode prog_17_method_7_code 11 = .ok (.if_acmp .ne 7, 3) := by decide +kernel
theorem own_d_has_18 : decode prog_17_method_7_code 18 = .ok (.iconst 0, 1) := by decide +kernel
def F_has (a0 : Addr) (w_CHAR : Addr) (w_VARCHAR : Addr) : Int32 := (if a0 = w_CHAR then (1 : Int32) else (if a0 = w_VARCHAR then (1 : Int32) else (0 : Int32)))
theorem own_ef_has (m : MethodId) (a0 : Addr) : entryFrame m #[(.ref a0)] 1 = mkF m 0 #[.val (.ref a0)] [] := by first | (simp [entryFrame, mkF, argsToLocals, Value.category]; done) | rfl
def Q_has (Z : State) (a0 : Addr) (w_CHAR : Addr) (w_VARCHAR : Addr) (h0 : Heap) (n0 : Nat) (v : Option Value) (h : Heap) (L : List Loc) : Prop := v = some (.int (F_has a0 w_CHAR w_VARCHAR)) ∧ Fr n0 L ∧ h = h0
set_option maxRecDepth 65536 in
set_option maxHeartbeats 40000000 in
theorem rm_has (l : Launch) (Z : State) (a0' : Array Value) (hw : ∀ d ∈ tables_1, d.before a0' Z = true) (ws : List Jvm.Cond) (a0 : Addr) (w_CHAR : Addr) (w_VARCHAR : Addr) (h0 : Heap) (n0 : Nat) (Z0 : n0 ≤ h0.size) (S_CHAR : Sta Z h0 "com/example/starquarry/starquarry/adql/CastType$Kind" "CHAR" "Lcom/example/starquarry/starquarry/adql/CastType$Kind;" (.ref w_CHAR)) (S_VARCHAR : Sta Z h0 "com/example/starquarry/starquarry/adql/CastType$Kind" "VARCHAR" "Lcom/example/starquarry/starquarry/adql/CastType$Kind;" (.ref w_VARCHAR)) :
    MetFree l (⟨"com/example/starquarry/starquarry/adql/CastType$Kind", "hasLength", "()Z"⟩ : MethodName) (head1 (Jvm.Cond.code (⟨"com/example/starquarry/starquarry/adql/CastType$Kind", "hasLength", "()Z"⟩ : MethodName) prog_17_method_7_code 1 (some .boolean) :: ws) ({ frames := 0, cells := 0, slots := 0, locals := 0 } : Room)) (fun a U => a = #[(.ref a0)] ∧ Z.Warmed39 U.vm ∧ U.heap = h0) (fun _ _ _ _ _ => True) (fun _ U o U' => ∃ v L, o = .returned v ∧ Q_has Z a0 w_CHAR w_VARCHAR h0 n0 v U'.heap L ∧ FrameEnd U o U' L ({ frames := 0, cells := 0, slots := 0, locals := 0 } : Room).cells ({ frames := 0, cells := 0, slots := 0, locals := 0 } : Room).slots) := by
  refine MetFree.of_bodySF (plainFor_of_name own_pn1) hisR ?_
  intro p e s m args below meth c s₁ Bd hml0 hP hK
  obtain ⟨rfl, hZ, hh⟩ := hP
  have hx := Bd.exec
  have hby := Bd.bytes
  have hml : c.maxLocals = 1 := hml0
  have hown : s.vm.findClass "com/example/starquarry/starquarry/adql/CastType$Kind" = some m.cls := findClass_of_methodNamed Bd.named
  have hnm := (name_of_methodNamed Bd.named Bd.method).1
  have X0 : Stand p l e ({ frames := 0, cells := 0, slots := 0, locals := 0 } : Room) s m #[(.ref a0)] below meth c s₁ [] 0 0 := Stand.of_body Bd
  have e0 : s₁.heap = h0 := by rw [← hh, Bd.state]; rfl
  have N0 := Fr.nil n0
  have pre0 : ∀ t, Steps p.tables e below (s₁.setTop (mkF m 0 #[.val (.ref a0)] [])) t → Steps p.tables e below (s₁.setTop (entryFrame m #[(.ref a0)] 1)) t := fun t k => castTop (own_ef_has m a0) k
  obtain ⟨T32, X32, e32, st32⟩ := getS2 X0 hx hZ hown (host := "") (Or.inl (hw _ (List.mem_of_getElem? (i := 13) rfl))) Via.refl e0 S_CHAR (g := (mkF m 1 #[.val (.ref a0)] [(.ref a0)])) rfl (hb hby own_d_has_1)
  have pre34 : ∀ t, Steps p.tables e below (T32.setTop (mkF m 4 #[.val (.ref a0)] [(.ref w_CHAR), (.ref a0)])) t → Steps p.tables e below (s₁.setTop (entryFrame m #[(.ref a0)] 1)) t := fun t k => pre0 t (by
    show Steps p.tables e below (s₁.setTop (mkF m 0 #[.val (.ref a0)] [])) _
    refine XS.aloadN X0.here hx rfl (hb hby own_d_has_0) rfl rfl ?_
    show Steps p.tables e below (s₁.setTop (mkF m 1 #[.val (.ref a0)] [(.ref a0)])) _
    refine st32 _ ?_
    exact k)
  by_cases hc4_33 : a0 = w_CHAR
  · obtain ⟨fs, hr, hrun, hended, hW, hsame⟩ := X32.leave (v := some (.int (1 : Int32))) (fun h => by rw [Bd.returns] at h; cases h)
    refine ⟨_, _, pre34 _ ?_, hrun, hended, _, _, rfl, ?_, ⟨_, rfl⟩, hW, hsame.mono (by decide) (by decide)⟩
    · show Steps p.tables e below (T32.setTop (mkF m 4 #[.val (.ref a0)] [(.ref w_CHAR), (.ref a0)])) _
      refine Jvm.RoadKit.acmp (g := (mkF m 4 #[.val (.ref a0)] [(.ref w_CHAR), (.ref a0)])) X32 hx rfl rfl rfl (pc0 := 4) (pc' := 14) (same := true) rfl (hb hby own_d_has_4) rfl (decide_eq_true (congrArg Value.ref hc4_33)) (by decide) (by decide) ?_
      show Steps p.tables e below (T32.setTop (mkF m 14 #[.val (.ref a0)] [])) _
      refine XS.iconst X32.here hx rfl (hb hby own_d_has_14) ?_
      show Steps p.tables e below (T32.setTop (mkF m 15 #[.val (.ref a0)] [(.int (1 : Int32))])) _
      refine XS.goto X32.here hx rfl (pc0 := 15) (pc' := 19) rfl (hb hby own_d_has_15) (by decide) (by decide) ?_
      show Steps p.tables e below (T32.setTop (mkF m 19 #[.val (.ref a0)] [(.int (1 : Int32))])) _
      exact retN X32 hx (t := .boolean) Bd.returns (by simp) (hb hby own_d_has_19) hr
    · show Q_has Z a0 w_CHAR w_VARCHAR h0 n0 _ T32.heap _
      refine ⟨?_, N0, e32⟩
      rw [F_has, if_pos hc4_33]
  · obtain ⟨T35, X35, e35, st35⟩ := getS2 X32 hx hZ hown (host := "") (Or.inl (hw _ (List.mem_of_getElem? (i := 15) rfl))) Via.refl e32 S_VARCHAR (g := (mkF m 8 #[.val (.ref a0)] [(.ref a0)])) rfl (hb hby own_d_has_8)
    have pre37 : ∀ t, Steps p.tables e below (T35.setTop (mkF m 11 #[.val (.ref a0)] [(.ref w_VARCHAR), (.ref a0)])) t → Steps p.tables e below (s₁.setTop (entryFrame m #[(.ref a0)] 1)) t := fun t k => pre34 t (by
      show Steps p.tables e below (T32.setTop (mkF m 4 #[.val (.ref a0)] [(.ref w_CHAR), (.ref a0)])) _
      refine Jvm.RoadKit.acmp (g := (mkF m 4 #[.val (.ref a0)] [(.ref w_CHAR), (.ref a0)])) X32 hx rfl rfl rfl (pc0 := 4) (pc' := 7) (same := false) rfl (hb hby own_d_has_4) rfl (decide_eq_false fun q => hc4_33 (Value.ref.inj q)) (by decide) (by decide) ?_
      show Steps p.tables e below (T32.setTop (mkF m 7 #[.val (.ref a0)] [])) _
      refine XS.aloadN X32.here hx rfl (hb hby own_d_has_7) rfl rfl ?_
      show Steps p.tables e below (T32.setTop (mkF m 8 #[.val (.ref a0)] [(.ref a0)])) _
      refine st35 _ ?_
      exact k)
    by_cases hc11_36 : a0 = w_VARCHAR
    · obtain ⟨fs, hr, hrun, hended, hW, hsame⟩ := X35.leave (v := some (.int (1 : Int32))) (fun h => by rw [Bd.returns] at h; cases h)
      refine ⟨_, _, pre37 _ ?_, hrun, hended, _, _, rfl, ?_, ⟨_, rfl⟩, hW, hsame.mono (by decide) (by decide)⟩
      · show Steps p.tables e below (T35.setTop (mkF m 11 #[.val (.ref a0)] [(.ref w_VARCHAR), (.ref a0)])) _
        refine Jvm.RoadKit.acmp (g := (mkF m 11 #[.val (.ref a0)] [(.ref w_VARCHAR), (.ref a0)])) X35 hx rfl rfl rfl (pc0 := 11) (pc' := 14) (same := true) rfl (hb hby own_d_has_11) rfl (decide_eq_true (congrArg Value.ref hc11_36)) (by decide) (by decide) ?_
        show Steps p.tables e below (T35.setTop (mkF m 14 #[.val (.ref a0)] [])) _
        refine XS.iconst X35.here hx rfl (hb hby own_d_has_14) ?_
        show Steps p.tables e below (T35.setTop (mkF m 15 #[.val (.ref a0)] [(.int (1 : Int32))])) _
        refine XS.goto X35.here hx rfl (pc0 := 15) (pc' := 19) rfl (hb hby own_d_has_15) (by decide) (by decide) ?_
        show Steps p.tables e below (T35.setTop (mkF m 19 #[.val (.ref a0)] [(.int (1 : Int32))])) _
        exact retN X35 hx (t := .boolean) Bd.returns (by simp) (hb hby own_d_has_19) hr
      · show Q_has Z a0 w_CHAR w_VARCHAR h0 n0 _ T35.heap _
        refine ⟨?_, N0, e35⟩
        rw [F_has, if_neg hc4_33, if_pos hc11_36]
    · obtain ⟨fs, hr, hrun, hended, hW, hsame⟩ := X35.leave (v := some (.int (0 : Int32))) (fun h => by rw [Bd.returns] at h; cases h)
      refine ⟨_, _, pre37 _ ?_, hrun, hended, _, _, rfl, ?_, ⟨_, rfl⟩, hW, hsame.mono (by decide) (by decide)⟩
      · show Steps p.tables e below (T35.setTop (mkF m 11 #[.val (.ref a0)] [(.ref w_VARCHAR), (.ref a0)])) _
        refine Jvm.RoadKit.acmp (g := (mkF m 11 #[.val (.ref a0)] [(.ref w_VARCHAR), (.ref a0)])) X35 hx rfl rfl rfl (pc0 := 11) (pc' := 18) (same := false) rfl (hb hby own_d_has_11) rfl (decide_eq_false fun q => hc11_36 (Value.ref.inj q)) (by decide) (by decide) ?_
        show Steps p.tables e below (T35.setTop (mkF m 18 #[.val (.ref a0)] [])) _
        refine XS.iconst X35.here hx rfl (hb hby own_d_has_18) ?_
        show Steps p.tables e below (T35.setTop (mkF m 19 #[.val (.ref a0)] [(.int (0 : Int32))])) _
        exact retN X35 hx (t := .boolean) Bd.returns (by simp) (hb hby own_d_has_19) hr
      · show Q_has Z a0 w_CHAR w_VARCHAR h0 n0 _ T35.heap _
        refine ⟨?_, N0, e35⟩
        rw [F_has, if_neg hc4_33, if_neg hc11_36]
theorem own_pd0 : parseMethodDescriptor "(I)Lcom/example/starquarry/starquarry/adql/CastType$Kind;" = some ⟨[.int], some (.object "com/example/starquarry/starquarry/adql/CastType$Kind")⟩ := by decide +kernel
theorem own_pd1 : parseMethodDescriptor "()Z" = some ⟨[], some .boolean⟩ := by decide +kernel
def F_law (p0 : Int32) : Int32 := (if ((p0 &&& (2147483647 : Int32)) % (11 : Int32)) = (0 : Int32) then (1 : Int32) else (if ((p0 &&& (2147483647 : Int32)) % (11 : Int32)) = (1 : Int32) then (1 : Int32) else (if ((p0 &&& (2147483647 : Int32)) % (11 : Int32)) = (2 : Int32) then (1 : Int32) else (if ((p0 &&& (2147483647 : Int32)) % (11 : Int32)) = (3 : Int32) then (1 : Int32) else (if ((p0 &&& (2147483647 : Int32)) % (11 : Int32)) = (4 : Int32) then (1 : Int32) else (if ((p0 &&& (2147483647 : Int32)) % (11 : Int32)) = (5 : Int32) then (1 : Int32) else (if ((p0 &&& (2147483647 : Int32)) % (11 : Int32)) = (6 : Int32) then (1 : Int32) else (if ((p0 &&& (2147483647 : Int32)) % (11 : Int32)) = (7 : Int32) then (1 : Int32) else (if ((p0 &&& (2147483647 : Int32)) % (11 : Int32)) = (8 : Int32) then (1 : Int32) else (if ((p0 &&& (2147483647 : Int32)) % (11 : Int32)) = (9 : Int32) then (1 : Int32) else (1 : Int32)))))))))))
theorem own_ef_law (m : MethodId) (p0 : Int32) : entryFrame m #[(.int p0)] maxLocals = mkF m 0 #[.val (.int p0), .unset, .unset, .unset] [] := by first | (simp [entryFrame, mkF, argsToLocals, Value.category, maxLocals]; done) | rfl
def Q_law (Z : State) (p0 : Int32) (w_SMALLINT : Addr) (w_INTEGER : Addr) (w_BIGINT : Addr) (w_REAL : Addr) (w_DOUBLE_PRECISION : Addr) (w_CHAR : Addr) (w_VARCHAR : Addr) (w_TIMESTAMP : Addr) (w_POINT : Addr) (w_CIRCLE : Addr) (w_POLYGON : Addr) (h0 : Heap) (n0 : Nat) (v : Option Value) (h : Heap) (L : List Loc) : Prop := v = some (.int (F_law p0)) ∧ Fr n0 L ∧ True
set_option maxRecDepth 65536 in
set_option maxHeartbeats 40000000 in
theorem rm_law (l : Launch) (Z : State) (a0' : Array Value) (hw : ∀ d ∈ tables_1, d.before a0' Z = true) (ws : List Jvm.Cond) (p0 : Int32) (w_SMALLINT : Addr) (w_INTEGER : Addr) (w_BIGINT : Addr) (w_REAL : Addr) (w_DOUBLE_PRECISION : Addr) (w_CHAR : Addr) (w_VARCHAR : Addr) (w_TIMESTAMP : Addr) (w_POINT : Addr) (w_CIRCLE : Addr) (w_POLYGON : Addr) (h0 : Heap) (n0 : Nat) (Z0 : n0 ≤ h0.size) (S_SMALLINT : Sta Z h0 "com/example/starquarry/starquarry/adql/CastType$Kind" "SMALLINT" "Lcom/example/starquarry/starquarry/adql/CastType$Kind;" (.ref w_SMALLINT)) (E_SMALLINT : Exa Z h0 w_SMALLINT "com/example/starquarry/starquarry/adql/CastType$Kind") (S_INTEGER : Sta Z h0 "com/example/starquarry/starquarry/adql/CastType$Kind" "INTEGER" "Lcom/example/starquarry/starquarry/adql/CastType$Kind;" (.ref w_INTEGER)) (E_INTEGER : Exa Z h0 w_INTEGER "com/example/starquarry/starquarry/adql/CastType$Kind") (S_BIGINT : Sta Z h0 "com/example/starquarry/starquarry/adql/CastType$Kind" "BIGINT" "Lcom/example/starquarry/starquarry/adql/CastType$Kind;" (.ref w_BIGINT)) (E_BIGINT : Exa Z h0 w_BIGINT "com/example/starquarry/starquarry/adql/CastType$Kind") (S_REAL : Sta Z h0 "com/example/starquarry/starquarry/adql/CastType$Kind" "REAL" "Lcom/example/starquarry/starquarry/adql/CastType$Kind;" (.ref w_REAL)) (E_REAL : Exa Z h0 w_REAL "com/example/starquarry/starquarry/adql/CastType$Kind") (S_DOUBLE_PRECISION : Sta Z h0 "com/example/starquarry/starquarry/adql/CastType$Kind" "DOUBLE_PRECISION" "Lcom/example/starquarry/starquarry/adql/CastType$Kind;" (.ref w_DOUBLE_PRECISION)) (E_DOUBLE_PRECISION : Exa Z h0 w_DOUBLE_PRECISION "com/example/starquarry/starquarry/adql/CastType$Kind") (S_CHAR : Sta Z h0 "com/example/starquarry/starquarry/adql/CastType$Kind" "CHAR" "Lcom/example/starquarry/starquarry/adql/CastType$Kind;" (.ref w_CHAR)) (E_CHAR : Exa Z h0 w_CHAR "com/example/starquarry/starquarry/adql/CastType$Kind") (S_VARCHAR : Sta Z h0 "com/example/starquarry/starquarry/adql/CastType$Kind" "VARCHAR" "Lcom/example/starquarry/starquarry/adql/CastType$Kind;" (.ref w_VARCHAR)) (E_VARCHAR : Exa Z h0 w_VARCHAR "com/example/starquarry/starquarry/adql/CastType$Kind") (S_TIMESTAMP : Sta Z h0 "com/example/starquarry/starquarry/adql/CastType$Kind" "TIMESTAMP" "Lcom/example/starquarry/starquarry/adql/CastType$Kind;" (.ref w_TIMESTAMP)) (E_TIMESTAMP : Exa Z h0 w_TIMESTAMP "com/example/starquarry/starquarry/adql/CastType$Kind") (S_POINT : Sta Z h0 "com/example/starquarry/starquarry/adql/CastType$Kind" "POINT" "Lcom/example/starquarry/starquarry/adql/CastType$Kind;" (.ref w_POINT)) (E_POINT : Exa Z h0 w_POINT "com/example/starquarry/starquarry/adql/CastType$Kind") (S_CIRCLE : Sta Z h0 "com/example/starquarry/starquarry/adql/CastType$Kind" "CIRCLE" "Lcom/example/starquarry/starquarry/adql/CastType$Kind;" (.ref w_CIRCLE)) (E_CIRCLE : Exa Z h0 w_CIRCLE "com/example/starquarry/starquarry/adql/CastType$Kind") (S_POLYGON : Sta Z h0 "com/example/starquarry/starquarry/adql/CastType$Kind" "POLYGON" "Lcom/example/starquarry/starquarry/adql/CastType$Kind;" (.ref w_POLYGON)) (E_POLYGON : Exa Z h0 w_POLYGON "com/example/starquarry/starquarry/adql/CastType$Kind") (ne_SMALLINT_CHAR : ¬ (w_SMALLINT = w_CHAR)) (ne_SMALLINT_VARCHAR : ¬ (w_SMALLINT = w_VARCHAR)) (ne_INTEGER_CHAR : ¬ (w_INTEGER = w_CHAR)) (ne_INTEGER_VARCHAR : ¬ (w_INTEGER = w_VARCHAR)) (ne_BIGINT_CHAR : ¬ (w_BIGINT = w_CHAR)) (ne_BIGINT_VARCHAR : ¬ (w_BIGINT = w_VARCHAR)) (ne_REAL_CHAR : ¬ (w_REAL = w_CHAR)) (ne_REAL_VARCHAR : ¬ (w_REAL = w_VARCHAR)) (ne_DOUBLE_PRECISION_CHAR : ¬ (w_DOUBLE_PRECISION = w_CHAR)) (ne_DOUBLE_PRECISION_VARCHAR : ¬ (w_DOUBLE_PRECISION = w_VARCHAR)) (ne_VARCHAR_CHAR : ¬ (w_VARCHAR = w_CHAR)) (ne_TIMESTAMP_CHAR : ¬ (w_TIMESTAMP = w_CHAR)) (ne_TIMESTAMP_VARCHAR : ¬ (w_TIMESTAMP = w_VARCHAR)) (ne_POINT_CHAR : ¬ (w_POINT = w_CHAR)) (ne_POINT_VARCHAR : ¬ (w_POINT = w_VARCHAR)) (ne_CIRCLE_CHAR : ¬ (w_CIRCLE = w_CHAR)) (ne_CIRCLE_VARCHAR : ¬ (w_CIRCLE = w_VARCHAR)) (ne_POLYGON_CHAR : ¬ (w_POLYGON = w_CHAR)) (ne_POLYGON_VARCHAR : ¬ (w_POLYGON = w_VARCHAR)) :
    MetFree l x (head1 (Jvm.Cond.code x code maxLocals ret :: ws) room_1) (fun a U => a = #[(.int p0)] ∧ Z.Warmed39 U.vm ∧ U.heap = h0) (fun _ _ _ _ _ => True) (fun _ U o U' => ∃ v L, o = .returned v ∧ Q_law Z p0 w_SMALLINT w_INTEGER w_BIGINT w_REAL w_DOUBLE_PRECISION w_CHAR w_VARCHAR w_TIMESTAMP w_POINT w_CIRCLE w_POLYGON h0 n0 v U'.heap L ∧ FrameEnd U o U' L room_1.cells room_1.slots) := by
  refine MetFree.of_bodySF (plainFor_of_name own_pn0) hisR ?_
  intro p e s m args below meth c s₁ Bd hml0 hP hK
  obtain ⟨rfl, hZ, hh⟩ := hP
  have hx := Bd.exec
  have hby := Bd.bytes
  have hml : c.maxLocals = 4 := hml0
  have hown : s.vm.findClass "com/example/starquarry/starquarry/adql/KindHasLengthPinLaw" = some m.cls := findClass_of_methodNamed Bd.named
  have hnm := (name_of_methodNamed Bd.named Bd.method).1
  have X0 : Stand p l e room_1 s m #[(.int p0)] below meth c s₁ [] 0 0 := Stand.of_body Bd
  have e0 : s₁.heap = h0 := by rw [← hh, Bd.state]; rfl
  have N0 := Fr.nil n0
  have pre0 : ∀ t, Steps p.tables e below (s₁.setTop (mkF m 0 #[.val (.int p0), .unset, .unset, .unset] [])) t → Steps p.tables e below (s₁.setTop (entryFrame m #[(.int p0)] maxLocals)) t := fun t k => castTop (own_ef_law m p0) k
  obtain ⟨_, _, ⟨T38, L38, k38, n38⟩, -, X38, ⟨Lc38, hQ38, l38, y38, z38⟩, st38⟩ := Jvm.LawKit.callS X0 hx (y := (⟨"com/example/starquarry/starquarry/adql/KindHasLengthPinLaw", "pick", "(I)Lcom/example/starquarry/starquarry/adql/CastType$Kind;"⟩ : MethodName)) hown (mvT hZ (hw _ (List.mem_of_getElem? (i := 1) rfl))) (mvT hZ (hw _ (List.mem_of_getElem? (i := 2) rfl))) (mvT hZ (hw _ (List.mem_of_getElem? (i := 3) rfl))) (mvT hZ (hw _ (List.mem_of_getElem? (i := 4) rfl))) (by decide) (backOf (W := 0) (rm_pick l Z a0' hw [] ((p0 &&& (2147483647 : Int32)) % (11 : Int32)) w_SMALLINT w_INTEGER w_BIGINT w_REAL w_DOUBLE_PRECISION w_CHAR w_VARCHAR w_TIMESTAMP w_POINT w_CIRCLE w_POLYGON h0 n0 Z0 S_SMALLINT S_INTEGER S_BIGINT S_REAL S_DOUBLE_PRECISION S_CHAR S_VARCHAR S_TIMESTAMP S_POINT S_CIRCLE S_POLYGON) hZ (hw _ (List.mem_of_getElem? (i := 4) rfl)) (hw _ (List.mem_of_getElem? (i := 3) rfl)) (by decide) (by decide)) (g := (mkF m 9 #[.val (.int p0), .val (.int ((p0 &&& (2147483647 : Int32)) % (11 : Int32))), .unset, .unset] [(.int ((p0 &&& (2147483647 : Int32)) % (11 : Int32)))])) rfl (by rw [hml]; rfl) (argsL := [(.int ((p0 &&& (2147483647 : Int32)) % (11 : Int32)))]) (rest := []) (lenOf own_pd0 rfl) rfl (by show 2 * 0 + _ ≤ _; exact Nat.le_of_eq rfl) (hb hby at_9) (fun _ _ => ⟨rfl, e0, (by decide : 0 + 0 ≤ _), (by decide : 0 + 0 ≤ _)⟩)
  dsimp only [Pt.U, Pt.locs, Pt.cells, Pt.slots] at X38 l38 y38 z38 st38 hQ38
  subst l38 y38 z38
  obtain ⟨rfl, N38q, e38⟩ := hQ38
  have N38 := Fr.app N0 N38q
  have pre39 : ∀ t, Steps p.tables e below (s₁.setTop (mkF m 9 #[.val (.int p0), .val (.int ((p0 &&& (2147483647 : Int32)) % (11 : Int32))), .unset, .unset] [(.int ((p0 &&& (2147483647 : Int32)) % (11 : Int32)))])) t → Steps p.tables e below (s₁.setTop (entryFrame m #[(.int p0)] maxLocals)) t := fun t k => pre0 t (by
    show Steps p.tables e below (s₁.setTop (mkF m 0 #[.val (.int p0), .unset, .unset, .unset] [])) _
    refine XS.iloadN X0.here hx rfl (hb hby at_0) rfl ?_
    show Steps p.tables e below (s₁.setTop (mkF m 1 #[.val (.int p0), .unset, .unset, .unset] [(.int p0)])) _
    refine X0.ldcInt hx hown (mvT hZ (hw _ (List.mem_of_getElem? (i := 0) rfl))) (g := (mkF m 1 #[.val (.int p0), .unset, .unset, .unset] [(.int p0)])) rfl (hb hby at_1) _ ?_
    show Steps p.tables e below (s₁.setTop (mkF m 3 #[.val (.int p0), .unset, .unset, .unset] [(.int (2147483647 : Int32)), (.int p0)])) _
    refine XS.iand X0.here hx rfl (hb hby at_3) rfl ?_
    show Steps p.tables e below (s₁.setTop (mkF m 4 #[.val (.int p0), .unset, .unset, .unset] [(.int (p0 &&& (2147483647 : Int32)))])) _
    refine XS.bipush X0.here hx rfl (hb hby at_4) ?_
    show Steps p.tables e below (s₁.setTop (mkF m 6 #[.val (.int p0), .unset, .unset, .unset] [(.int (11 : Int32)), (.int (p0 &&& (2147483647 : Int32)))])) _
    refine iremM X0 hx rfl (hb hby at_6) rfl (by decide) ?_
    show Steps p.tables e below (s₁.setTop (mkF m 7 #[.val (.int p0), .unset, .unset, .unset] [(.int ((p0 &&& (2147483647 : Int32)) % (11 : Int32)))])) _
    refine XS.istoreN X0.here hx rfl (hb hby at_7) rfl (l' := #[.val (.int p0), .val (.int ((p0 &&& (2147483647 : Int32)) % (11 : Int32))), .unset, .unset]) rfl ?_
    show Steps p.tables e below (s₁.setTop (mkF m 8 #[.val (.int p0), .val (.int ((p0 &&& (2147483647 : Int32)) % (11 : Int32))), .unset, .unset] [])) _
    refine XS.iloadN X0.here hx rfl (hb hby at_8) rfl ?_
    exact k)
  by_cases hs_40 : ((p0 &&& (2147483647 : Int32)) % (11 : Int32)) = (0 : Int32)
  · have q38 : (F_pick ((p0 &&& (2147483647 : Int32)) % (11 : Int32)) w_SMALLINT w_INTEGER w_BIGINT w_REAL w_DOUBLE_PRECISION w_CHAR w_VARCHAR w_TIMESTAMP w_POINT w_CIRCLE w_POLYGON) = w_SMALLINT := by rw [F_pick, if_pos hs_40]
    rw [q38] at st38
    obtain ⟨cq41, kq41, q41a, q41b, q41c⟩ := isOf hZ e38 E_SMALLINT
    obtain ⟨_, _, ⟨T41, L41, k41, n41⟩, -, X41, ⟨Lc41, hQ41, l41, y41, z41⟩, st41⟩ := X38.virtualBack hx (y := (⟨"com/example/starquarry/starquarry/adql/CastType$Kind", "hasLength", "()Z"⟩ : MethodName)) (z := (⟨"com/example/starquarry/starquarry/adql/CastType$Kind", "hasLength", "()Z"⟩ : MethodName)) hown (mvT hZ (hw _ (List.mem_of_getElem? (i := 8) rfl))) (mvT hZ (hw _ (List.mem_of_getElem? (i := 9) rfl))) (notFace_of_selects (args := #[]) (mvT hZ (hw _ (List.mem_of_getElem? (i := 11) rfl)))) (mvT hZ (hw _ (List.mem_of_getElem? (i := 11) rfl))) (mvT hZ (hw _ (List.mem_of_getElem? (i := 10) rfl))) (by decide) (backOf (W := 0) (rm_has l Z a0' hw [] w_SMALLINT w_CHAR w_VARCHAR h0 n0 Z0 S_CHAR S_VARCHAR) hZ (hw _ (List.mem_of_getElem? (i := 12) rfl)) (hw _ (List.mem_of_getElem? (i := 6) rfl)) (by decide) (by decide)) q41a q41c (g := (mkF m 31 #[.val (.int p0), .val (.int ((p0 &&& (2147483647 : Int32)) % (11 : Int32))), .val (.ref w_SMALLINT), .val (.int (0 : Int32))] [(.ref w_SMALLINT)])) rfl (by rw [hml]; rfl) (Steps.refl _) (argsL := []) (rest := []) (lenOf own_pd1 rfl) rfl (by show 2 * 0 + _ ≤ _; exact Nat.le_of_eq rfl) (hb hby at_31) (fun _ _ => ⟨rfl, e38, (by decide : 0 + 0 ≤ _), (by decide : 0 + 0 ≤ _)⟩)
    dsimp only [Pt.U, Pt.locs, Pt.cells, Pt.slots] at X41 l41 y41 z41 st41 hQ41
    subst l41 y41 z41
    obtain ⟨rfl, N41q, e41⟩ := hQ41
    have N41 := Fr.app N38 N41q
    have q41 : (F_has w_SMALLINT w_CHAR w_VARCHAR) = (0 : Int32) := by rw [F_has, if_neg ne_SMALLINT_CHAR, if_neg ne_SMALLINT_VARCHAR]
    rw [q41] at st41
    obtain ⟨fs, hr, hrun, hended, hW, hsame⟩ := X41.leave (v := some (.int (1 : Int32))) (fun h => by rw [Bd.returns] at h; cases h)
    refine ⟨_, _, pre39 _ ?_, hrun, hended, _, _, rfl, ?_, ⟨_, rfl⟩, hW, hsame.mono (by decide) (by decide)⟩
    · show Steps p.tables e below (s₁.setTop (mkF m 9 #[.val (.int p0), .val (.int ((p0 &&& (2147483647 : Int32)) % (11 : Int32))), .unset, .unset] [(.int ((p0 &&& (2147483647 : Int32)) % (11 : Int32)))])) _
      refine st38 _ ?_
      show Steps p.tables e below (T38.setTop (mkF m 12 #[.val (.int p0), .val (.int ((p0 &&& (2147483647 : Int32)) % (11 : Int32))), .unset, .unset] [(.ref w_SMALLINT)])) _
      refine XS.astoreN X38.here hx rfl (hb hby at_12) rfl rfl (l' := #[.val (.int p0), .val (.int ((p0 &&& (2147483647 : Int32)) % (11 : Int32))), .val (.ref w_SMALLINT), .unset]) rfl ?_
      show Steps p.tables e below (T38.setTop (mkF m 13 #[.val (.int p0), .val (.int ((p0 &&& (2147483647 : Int32)) % (11 : Int32))), .val (.ref w_SMALLINT), .unset] [])) _
      refine XS.iloadN X38.here hx rfl (hb hby at_13) rfl ?_
      show Steps p.tables e below (T38.setTop (mkF m 14 #[.val (.int p0), .val (.int ((p0 &&& (2147483647 : Int32)) % (11 : Int32))), .val (.ref w_SMALLINT), .unset] [(.int ((p0 &&& (2147483647 : Int32)) % (11 : Int32)))])) _
      refine XS.iconst X38.here hx rfl (hb hby at_14) ?_
      show Steps p.tables e below (T38.setTop (mkF m 15 #[.val (.int p0), .val (.int ((p0 &&& (2147483647 : Int32)) % (11 : Int32))), .val (.ref w_SMALLINT), .unset] [(.int (5 : Int32)), (.int ((p0 &&& (2147483647 : Int32)) % (11 : Int32)))])) _
      refine XS.icmpNo X38.here hx rfl (hb hby at_15) rfl (feq (fun q => absurd (hs_40.symm.trans q) (by decide))).1 ?_
      show Steps p.tables e below (T38.setTop (mkF m 18 #[.val (.int p0), .val (.int ((p0 &&& (2147483647 : Int32)) % (11 : Int32))), .val (.ref w_SMALLINT), .unset] [])) _
      refine XS.iloadN X38.here hx rfl (hb hby at_18) rfl ?_
      show Steps p.tables e below (T38.setTop (mkF m 19 #[.val (.int p0), .val (.int ((p0 &&& (2147483647 : Int32)) % (11 : Int32))), .val (.ref w_SMALLINT), .unset] [(.int ((p0 &&& (2147483647 : Int32)) % (11 : Int32)))])) _
      refine XS.bipush X38.here hx rfl (hb hby at_19) ?_
      show Steps p.tables e below (T38.setTop (mkF m 21 #[.val (.int p0), .val (.int ((p0 &&& (2147483647 : Int32)) % (11 : Int32))), .val (.ref w_SMALLINT), .unset] [(.int (6 : Int32)), (.int ((p0 &&& (2147483647 : Int32)) % (11 : Int32)))])) _
      refine XS.icmpYes X38.here hx rfl (pc0 := 21) (pc' := 28) rfl (hb hby at_21) rfl (feq (fun q => absurd (hs_40.symm.trans q) (by decide))).2 (by decide) (by decide) ?_
      show Steps p.tables e below (T38.setTop (mkF m 28 #[.val (.int p0), .val (.int ((p0 &&& (2147483647 : Int32)) % (11 : Int32))), .val (.ref w_SMALLINT), .unset] [])) _
      refine XS.iconst X38.here hx rfl (hb hby at_28) ?_
      show Steps p.tables e below (T38.setTop (mkF m 29 #[.val (.int p0), .val (.int ((p0 &&& (2147483647 : Int32)) % (11 : Int32))), .val (.ref w_SMALLINT), .unset] [(.int (0 : Int32))])) _
      refine XS.istoreN X38.here hx rfl (hb hby at_29) rfl (l' := #[.val (.int p0), .val (.int ((p0 &&& (2147483647 : Int32)) % (11 : Int32))), .val (.ref w_SMALLINT), .val (.int (0 : Int32))]) rfl ?_
      show Steps p.tables e below (T38.setTop (mkF m 30 #[.val (.int p0), .val (.int ((p0 &&& (2147483647 : Int32)) % (11 : Int32))), .val (.ref w_SMALLINT), .val (.int (0 : Int32))] [])) _
      refine XS.aloadN X38.here hx rfl (hb hby at_30) rfl rfl ?_
      show Steps p.tables e below (T38.setTop (mkF m 31 #[.val (.int p0), .val (.int ((p0 &&& (2147483647 : Int32)) % (11 : Int32))), .val (.ref w_SMALLINT), .val (.int (0 : Int32))] [(.ref w_SMALLINT)])) _
      refine st41.trans ?_
      show Steps p.tables e below (T41.setTop (mkF m 34 #[.val (.int p0), .val (.int ((p0 &&& (2147483647 : Int32)) % (11 : Int32))), .val (.ref w_SMALLINT), .val (.int (0 : Int32))] [(.int (0 : Int32))])) _
      refine XS.iloadN X41.here hx rfl (hb hby at_34) rfl ?_
      show Steps p.tables e below (T41.setTop (mkF m 35 #[.val (.int p0), .val (.int ((p0 &&& (2147483647 : Int32)) % (11 : Int32))), .val (.ref w_SMALLINT), .val (.int (0 : Int32))] [(.int (0 : Int32)), (.int (0 : Int32))])) _
      refine XS.icmpNo X41.here hx rfl (hb hby at_35) rfl (teq (by decide : (0 : Int32) = (0 : Int32))).2 ?_
      show Steps p.tables e below (T41.setTop (mkF m 38 #[.val (.int p0), .val (.int ((p0 &&& (2147483647 : Int32)) % (11 : Int32))), .val (.ref w_SMALLINT), .val (.int (0 : Int32))] [])) _
      refine XS.iconst X41.here hx rfl (hb hby at_38) ?_
      show Steps p.tables e below (T41.setTop (mkF m 39 #[.val (.int p0), .val (.int ((p0 &&& (2147483647 : Int32)) % (11 : Int32))), .val (.ref w_SMALLINT), .val (.int (0 : Int32))] [(.int (1 : Int32))])) _
      refine XS.goto X41.here hx rfl (pc0 := 39) (pc' := 43) rfl (hb hby at_39) (by decide) (by decide) ?_
      show Steps p.tables e below (T41.setTop (mkF m 43 #[.val (.int p0), .val (.int ((p0 &&& (2147483647 : Int32)) % (11 : Int32))), .val (.ref w_SMALLINT), .val (.int (0 : Int32))] [(.int (1 : Int32))])) _
      exact retN X41 hx (t := .boolean) Bd.returns (by simp) (hb hby at_43) hr
    · show Q_law Z p0 w_SMALLINT w_INTEGER w_BIGINT w_REAL w_DOUBLE_PRECISION w_CHAR w_VARCHAR w_TIMESTAMP w_POINT w_CIRCLE w_POLYGON h0 n0 _ T41.heap _
      refine ⟨?_, N41, trivial⟩
      rw [F_law, if_pos hs_40]
  · by_cases hs_42 : ((p0 &&& (2147483647 : Int32)) % (11 : Int32)) = (1 : Int32)
    · have q38 : (F_pick ((p0 &&& (2147483647 : Int32)) % (11 : Int32)) w_SMALLINT w_INTEGER w_BIGINT w_REAL w_DOUBLE_PRECISION w_CHAR w_VARCHAR w_TIMESTAMP w_POINT w_CIRCLE w_POLYGON) = w_INTEGER := by rw [F_pick, if_neg hs_40, if_pos hs_42]
      rw [q38] at st38
      obtain ⟨cq43, kq43, q43a, q43b, q43c⟩ := isOf hZ e38 E_INTEGER
      obtain ⟨_, _, ⟨T43, L43, k43, n43⟩, -, X43, ⟨Lc43, hQ43, l43, y43, z43⟩, st43⟩ := X38.virtualBack hx (y := (⟨"com/example/starquarry/starquarry/adql/CastType$Kind", "hasLength", "()Z"⟩ : MethodName)) (z := (⟨"com/example/starquarry/starquarry/adql/CastType$Kind", "hasLength", "()Z"⟩ : MethodName)) hown (mvT hZ (hw _ (List.mem_of_getElem? (i := 8) rfl))) (mvT hZ (hw _ (List.mem_of_getElem? (i := 9) rfl))) (notFace_of_selects (args := #[]) (mvT hZ (hw _ (List.mem_of_getElem? (i := 11) rfl)))) (mvT hZ (hw _ (List.mem_of_getElem? (i := 11) rfl))) (mvT hZ (hw _ (List.mem_of_getElem? (i := 10) rfl))) (by decide) (backOf (W := 0) (rm_has l Z a0' hw [] w_INTEGER w_CHAR w_VARCHAR h0 n0 Z0 S_CHAR S_VARCHAR) hZ (hw _ (List.mem_of_getElem? (i := 12) rfl)) (hw _ (List.mem_of_getElem? (i := 6) rfl)) (by decide) (by decide)) q43a q43c (g := (mkF m 31 #[.val (.int p0), .val (.int ((p0 &&& (2147483647 : Int32)) % (11 : Int32))), .val (.ref w_INTEGER), .val (.int (0 : Int32))] [(.ref w_INTEGER)])) rfl (by rw [hml]; rfl) (Steps.refl _) (argsL := []) (rest := []) (lenOf own_pd1 rfl) rfl (by show 2 * 0 + _ ≤ _; exact Nat.le_of_eq rfl) (hb hby at_31) (fun _ _ => ⟨rfl, e38, (by decide : 0 + 0 ≤ _), (by decide : 0 + 0 ≤ _)⟩)
      dsimp only [Pt.U, Pt.locs, Pt.cells, Pt.slots] at X43 l43 y43 z43 st43 hQ43
      subst l43 y43 z43
      obtain ⟨rfl, N43q, e43⟩ := hQ43
      have N43 := Fr.app N38 N43q
      have q43 : (F_has w_INTEGER w_CHAR w_VARCHAR) = (0 : Int32) := by rw [F_has, if_neg ne_INTEGER_CHAR, if_neg ne_INTEGER_VARCHAR]
      rw [q43] at st43
      obtain ⟨fs, hr, hrun, hended, hW, hsame⟩ := X43.leave (v := some (.int (1 : Int32))) (fun h => by rw [Bd.returns] at h; cases h)
      refine ⟨_, _, pre39 _ ?_, hrun, hended, _, _, rfl, ?_, ⟨_, rfl⟩, hW, hsame.mono (by decide) (by decide)⟩
      · show Steps p.tables e below (s₁.setTop (mkF m 9 #[.val (.int p0), .val (.int ((p0 &&& (2147483647 : Int32)) % (11 : Int32))), .unset, .unset] [(.int ((p0 &&& (2147483647 : Int32)) % (11 : Int32)))])) _
        refine st38 _ ?_
        show Steps p.tables e below (T38.setTop (mkF m 12 #[.val (.int p0), .val (.int ((p0 &&& (2147483647 : Int32)) % (11 : Int32))), .unset, .unset] [(.ref w_INTEGER)])) _
        refine XS.astoreN X38.here hx rfl (hb hby at_12) rfl rfl (l' := #[.val (.int p0), .val (.int ((p0 &&& (2147483647 : Int32)) % (11 : Int32))), .val (.ref w_INTEGER), .unset]) rfl ?_
        show Steps p.tables e below (T38.setTop (mkF m 13 #[.val (.int p0), .val (.int ((p0 &&& (2147483647 : Int32)) % (11 : Int32))), .val (.ref w_INTEGER), .unset] [])) _
        refine XS.iloadN X38.here hx rfl (hb hby at_13) rfl ?_
        show Steps p.tables e below (T38.setTop (mkF m 14 #[.val (.int p0), .val (.int ((p0 &&& (2147483647 : Int32)) % (11 : Int32))), .val (.ref w_INTEGER), .unset] [(.int ((p0 &&& (2147483647 : Int32)) % (11 : Int32)))])) _
        refine XS.iconst X38.here hx rfl (hb hby at_14) ?_
        show Steps p.tables e below (T38.setTop (mkF m 15 #[.val (.int p0), .val (.int ((p0 &&& (2147483647 : Int32)) % (11 : Int32))), .val (.ref w_INTEGER), .unset] [(.int (5 : Int32)), (.int ((p0 &&& (2147483647 : Int32)) % (11 : Int32)))])) _
        refine XS.icmpNo X38.here hx rfl (hb hby at_15) rfl (feq (fun q => absurd (hs_42.symm.trans q) (by decide))).1 ?_
        show Steps p.tables e below (T38.setTop (mkF m 18 #[.val (.int p0), .val (.int ((p0 &&& (2147483647 : Int32)) % (11 : Int32))), .val (.ref w_INTEGER), .unset] [])) _
        refine XS.iloadN X38.here hx rfl (hb hby at_18) rfl ?_
        show Steps p.tables e below (T38.setTop (mkF m 19 #[.val (.int p0), .val (.int ((p0 &&& (2147483647 : Int32)) % (11 : Int32))), .val (.ref w_INTEGER), .unset] [(.int ((p0 &&& (2147483647 : Int32)) % (11 : Int32)))])) _
        refine XS.bipush X38.here hx rfl (hb hby at_19) ?_
        show Steps p.tables e below (T38.setTop (mkF m 21 #[.val (.int p0), .val (.int ((p0 &&& (2147483647 : Int32)) % (11 : Int32))), .val (.ref w_INTEGER), .unset] [(.int (6 : Int32)), (.int ((p0 &&& (2147483647 : Int32)) % (11 : Int32)))])) _
        refine XS.icmpYes X38.here hx rfl (pc0 := 21) (pc' := 28) rfl (hb hby at_21) rfl (feq (fun q => absurd (hs_42.symm.trans q) (by decide))).2 (by decide) (by decide) ?_
        show Steps p.tables e below (T38.setTop (mkF m 28 #[.val (.int p0), .val (.int ((p0 &&& (2147483647 : Int32)) % (11 : Int32))), .val (.ref w_INTEGER), .unset] [])) _
        refine XS.iconst X38.here hx rfl (hb hby at_28) ?_
        show Steps p.tables e below (T38.setTop (mkF m 29 #[.val (.int p0), .val (.int ((p0 &&& (2147483647 : Int32)) % (11 : Int32))), .val (.ref w_INTEGER), .unset] [(.int (0 : Int32))])) _
        refine XS.istoreN X38.here hx rfl (hb hby at_29) rfl (l' := #[.val (.int p0), .val (.int ((p0 &&& (2147483647 : Int32)) % (11 : Int32))), .val (.ref w_INTEGER), .val (.int (0 : Int32))]) rfl ?_
        show Steps p.tables e below (T38.setTop (mkF m 30 #[.val (.int p0), .val (.int ((p0 &&& (2147483647 : Int32)) % (11 : Int32))), .val (.ref w_INTEGER), .val (.int (0 : Int32))] [])) _
        refine XS.aloadN X38.here hx rfl (hb hby at_30) rfl rfl ?_
        show Steps p.tables e below (T38.setTop (mkF m 31 #[.val (.int p0), .val (.int ((p0 &&& (2147483647 : Int32)) % (11 : Int32))), .val (.ref w_INTEGER), .val (.int (0 : Int32))] [(.ref w_INTEGER)])) _
        refine st43.trans ?_
        show Steps p.tables e below (T43.setTop (mkF m 34 #[.val (.int p0), .val (.int ((p0 &&& (2147483647 : Int32)) % (11 : Int32))), .val (.ref w_INTEGER), .val (.int (0 : Int32))] [(.int (0 : Int32))])) _
        refine XS.iloadN X43.here hx rfl (hb hby at_34) rfl ?_
        show Steps p.tables e below (T43.setTop (mkF m 35 #[.val (.int p0), .val (.int ((p0 &&& (2147483647 : Int32)) % (11 : Int32))), .val (.ref w_INTEGER), .val (.int (0 : Int32))] [(.int (0 : Int32)), (.int (0 : Int32))])) _
        refine XS.icmpNo X43.here hx rfl (hb hby at_35) rfl (teq (by decide : (0 : Int32) = (0 : Int32))).2 ?_
        show Steps p.tables e below (T43.setTop (mkF m 38 #[.val (.int p0), .val (.int ((p0 &&& (2147483647 : Int32)) % (11 : Int32))), .val (.ref w_INTEGER), .val (.int (0 : Int32))] [])) _
        refine XS.iconst X43.here hx rfl (hb hby at_38) ?_
        show Steps p.tables e below (T43.setTop (mkF m 39 #[.val (.int p0), .val (.int ((p0 &&& (2147483647 : Int32)) % (11 : Int32))), .val (.ref w_INTEGER), .val (.int (0 : Int32))] [(.int (1 : Int32))])) _
        refine XS.goto X43.here hx rfl (pc0 := 39) (pc' := 43) rfl (hb hby at_39) (by decide) (by decide) ?_
        show Steps p.tables e below (T43.setTop (mkF m 43 #[.val (.int p0), .val (.int ((p0 &&& (2147483647 : Int32)) % (11 : Int32))), .val (.ref w_INTEGER), .val (.int (0 : Int32))] [(.int (1 : Int32))])) _
        exact retN X43 hx (t := .boolean) Bd.returns (by simp) (hb hby at_43) hr
      · show Q_law Z p0 w_SMALLINT w_INTEGER w_BIGINT w_REAL w_DOUBLE_PRECISION w_CHAR w_VARCHAR w_TIMESTAMP w_POINT w_CIRCLE w_POLYGON h0 n0 _ T43.heap _
        refine ⟨?_, N43, trivial⟩
        rw [F_law, if_neg hs_40, if_pos hs_42]
    · by_cases hs_44 : ((p0 &&& (2147483647 : Int32)) % (11 : Int32)) = (2 : Int32)
      · have q38 : (F_pick ((p0 &&& (2147483647 : Int32)) % (11 : Int32)) w_SMALLINT w_INTEGER w_BIGINT w_REAL w_DOUBLE_PRECISION w_CHAR w_VARCHAR w_TIMESTAMP w_POINT w_CIRCLE w_POLYGON) = w_BIGINT := by rw [F_pick, if_neg hs_40, if_neg hs_42, if_pos hs_44]
        rw [q38] at st38
        obtain ⟨cq45, kq45, q45a, q45b, q45c⟩ := isOf hZ e38 E_BIGINT
        obtain ⟨_, _, ⟨T45, L45, k45, n45⟩, -, X45, ⟨Lc45, hQ45, l45, y45, z45⟩, st45⟩ := X38.virtualBack hx (y := (⟨"com/example/starquarry/starquarry/adql/CastType$Kind", "hasLength", "()Z"⟩ : MethodName)) (z := (⟨"com/example/starquarry/starquarry/adql/CastType$Kind", "hasLength", "()Z"⟩ : MethodName)) hown (mvT hZ (hw _ (List.mem_of_getElem? (i := 8) rfl))) (mvT hZ (hw _ (List.mem_of_getElem? (i := 9) rfl))) (notFace_of_selects (args := #[]) (mvT hZ (hw _ (List.mem_of_getElem? (i := 11) rfl)))) (mvT hZ (hw _ (List.mem_of_getElem? (i := 11) rfl))) (mvT hZ (hw _ (List.mem_of_getElem? (i := 10) rfl))) (by decide) (backOf (W := 0) (rm_has l Z a0' hw [] w_BIGINT w_CHAR w_VARCHAR h0 n0 Z0 S_CHAR S_VARCHAR) hZ (hw _ (List.mem_of_getElem? (i := 12) rfl)) (hw _ (List.mem_of_getElem? (i := 6) rfl)) (by decide) (by decide)) q45a q45c (g := (mkF m 31 #[.val (.int p0), .val (.int ((p0 &&& (2147483647 : Int32)) % (11 : Int32))), .val (.ref w_BIGINT), .val (.int (0 : Int32))] [(.ref w_BIGINT)])) rfl (by rw [hml]; rfl) (Steps.refl _) (argsL := []) (rest := []) (lenOf own_pd1 rfl) rfl (by show 2 * 0 + _ ≤ _; exact Nat.le_of_eq rfl) (hb hby at_31) (fun _ _ => ⟨rfl, e38, (by decide : 0 + 0 ≤ _), (by decide : 0 + 0 ≤ _)⟩)
        dsimp only [Pt.U, Pt.locs, Pt.cells, Pt.slots] at X45 l45 y45 z45 st45 hQ45
        subst l45 y45 z45
        obtain ⟨rfl, N45q, e45⟩ := hQ45
        have N45 := Fr.app N38 N45q
        have q45 : (F_has w_BIGINT w_CHAR w_VARCHAR) = (0 : Int32) := by rw [F_has, if_neg ne_BIGINT_CHAR, if_neg ne_BIGINT_VARCHAR]
        rw [q45] at st45
        obtain ⟨fs, hr, hrun, hended, hW, hsame⟩ := X45.leave (v := some (.int (1 : Int32))) (fun h => by rw [Bd.returns] at h; cases h)
        refine ⟨_, _, pre39 _ ?_, hrun, hended, _, _, rfl, ?_, ⟨_, rfl⟩, hW, hsame.mono (by decide) (by decide)⟩
        · show Steps p.tables e below (s₁.setTop (mkF m 9 #[.val (.int p0), .val (.int ((p0 &&& (2147483647 : Int32)) % (11 : Int32))), .unset, .unset] [(.int ((p0 &&& (2147483647 : Int32)) % (11 : Int32)))])) _
          refine st38 _ ?_
          show Steps p.tables e below (T38.setTop (mkF m 12 #[.val (.int p0), .val (.int ((p0 &&& (2147483647 : Int32)) % (11 : Int32))), .unset, .unset] [(.ref w_BIGINT)])) _
          refine XS.astoreN X38.here hx rfl (hb hby at_12) rfl rfl (l' := #[.val (.int p0), .val (.int ((p0 &&& (2147483647 : Int32)) % (11 : Int32))), .val (.ref w_BIGINT), .unset]) rfl ?_
          show Steps p.tables e below (T38.setTop (mkF m 13 #[.val (.int p0), .val (.int ((p0 &&& (2147483647 : Int32)) % (11 : Int32))), .val (.ref w_BIGINT), .unset] [])) _
          refine XS.iloadN X38.here hx rfl (hb hby at_13) rfl ?_
          show Steps p.tables e below (T38.setTop (mkF m 14 #[.val (.int p0), .val (.int ((p0 &&& (2147483647 : Int32)) % (11 : Int32))), .val (.ref w_BIGINT), .unset] [(.int ((p0 &&& (2147483647 : Int32)) % (11 : Int32)))])) _
          refine XS.iconst X38.here hx rfl (hb hby at_14) ?_
          show Steps p.tables e below (T38.setTop (mkF m 15 #[.val (.int p0), .val (.int ((p0 &&& (2147483647 : Int32)) % (11 : Int32))), .val (.ref w_BIGINT), .unset] [(.int (5 : Int32)), (.int ((p0 &&& (2147483647 : Int32)) % (11 : Int32)))])) _
          refine XS.icmpNo X38.here hx rfl (hb hby at_15) rfl (feq (fun q => absurd (hs_44.symm.trans q) (by decide))).1 ?_
          show Steps p.tables e below (T38.setTop (mkF m 18 #[.val (.int p0), .val (.int ((p0 &&& (2147483647 : Int32)) % (11 : Int32))), .val (.ref w_BIGINT), .unset] [])) _
          refine XS.iloadN X38.here hx rfl (hb hby at_18) rfl ?_
          show Steps p.tables e below (T38.setTop (mkF m 19 #[.val (.int p0), .val (.int ((p0 &&& (2147483647 : Int32)) % (11 : Int32))), .val (.ref w_BIGINT), .unset] [(.int ((p0 &&& (2147483647 : Int32)) % (11 : Int32)))])) _
          refine XS.bipush X38.here hx rfl (hb hby at_19) ?_
          show Steps p.tables e below (T38.setTop (mkF m 21 #[.val (.int p0), .val (.int ((p0 &&& (2147483647 : Int32)) % (11 : Int32))), .val (.ref w_BIGINT), .unset] [(.int (6 : Int32)), (.int ((p0 &&& (2147483647 : Int32)) % (11 : Int32)))])) _
          refine XS.icmpYes X38.here hx rfl (pc0 := 21) (pc' := 28) rfl (hb hby at_21) rfl (feq (fun q => absurd (hs_44.symm.trans q) (by decide))).2 (by decide) (by decide) ?_
          show Steps p.tables e below (T38.setTop (mkF m 28 #[.val (.int p0), .val (.int ((p0 &&& (2147483647 : Int32)) % (11 : Int32))), .val (.ref w_BIGINT), .unset] [])) _
          refine XS.iconst X38.here hx rfl (hb hby at_28) ?_
          show Steps p.tables e below (T38.setTop (mkF m 29 #[.val (.int p0), .val (.int ((p0 &&& (2147483647 : Int32)) % (11 : Int32))), .val (.ref w_BIGINT), .unset] [(.int (0 : Int32))])) _
          refine XS.istoreN X38.here hx rfl (hb hby at_29) rfl (l' := #[.val (.int p0), .val (.int ((p0 &&& (2147483647 : Int32)) % (11 : Int32))), .val (.ref w_BIGINT), .val (.int (0 : Int32))]) rfl ?_
          show Steps p.tables e below (T38.setTop (mkF m 30 #[.val (.int p0), .val (.int ((p0 &&& (2147483647 : Int32)) % (11 : Int32))), .val (.ref w_BIGINT), .val (.int (0 : Int32))] [])) _
          refine XS.aloadN X38.here hx rfl (hb hby at_30) rfl rfl ?_
          show Steps p.tables e below (T38.setTop (mkF m 31 #[.val (.int p0), .val (.int ((p0 &&& (2147483647 : Int32)) % (11 : Int32))), .val (.ref w_BIGINT), .val (.int (0 : Int32))] [(.ref w_BIGINT)])) _
          refine st45.trans ?_
          show Steps p.tables e below (T45.setTop (mkF m 34 #[.val (.int p0), .val (.int ((p0 &&& (2147483647 : Int32)) % (11 : Int32))), .val (.ref w_BIGINT), .val (.int (0 : Int32))] [(.int (0 : Int32))])) _
          refine XS.iloadN X45.here hx rfl (hb hby at_34) rfl ?_
          show Steps p.tables e below (T45.setTop (mkF m 35 #[.val (.int p0), .val (.int ((p0 &&& (2147483647 : Int32)) % (11 : Int32))), .val (.ref w_BIGINT), .val (.int (0 : Int32))] [(.int (0 : Int32)), (.int (0 : Int32))])) _
          refine XS.icmpNo X45.here hx rfl (hb hby at_35) rfl (teq (by decide : (0 : Int32) = (0 : Int32))).2 ?_
          show Steps p.tables e below (T45.setTop (mkF m 38 #[.val (.int p0), .val (.int ((p0 &&& (2147483647 : Int32)) % (11 : Int32))), .val (.ref w_BIGINT), .val (.int (0 : Int32))] [])) _
          refine XS.iconst X45.here hx rfl (hb hby at_38) ?_
          show Steps p.tables e below (T45.setTop (mkF m 39 #[.val (.int p0), .val (.int ((p0 &&& (2147483647 : Int32)) % (11 : Int32))), .val (.ref w_BIGINT), .val (.int (0 : Int32))] [(.int (1 : Int32))])) _
          refine XS.goto X45.here hx rfl (pc0 := 39) (pc' := 43) rfl (hb hby at_39) (by decide) (by decide) ?_
          show Steps p.tables e below (T45.setTop (mkF m 43 #[.val (.int p0), .val (.int ((p0 &&& (2147483647 : Int32)) % (11 : Int32))), .val (.ref w_BIGINT), .val (.int (0 : Int32))] [(.int (1 : Int32))])) _
          exact retN X45 hx (t := .boolean) Bd.returns (by simp) (hb hby at_43) hr
        · show Q_law Z p0 w_SMALLINT w_INTEGER w_BIGINT w_REAL w_DOUBLE_PRECISION w_CHAR w_VARCHAR w_TIMESTAMP w_POINT w_CIRCLE w_POLYGON h0 n0 _ T45.heap _
          refine ⟨?_, N45, trivial⟩
          rw [F_law, if_neg hs_40, if_neg hs_42, if_pos hs_44]
      · by_cases hs_46 : ((p0 &&& (2147483647 : Int32)) % (11 : Int32)) = (3 : Int32)
        · have q38 : (F_pick ((p0 &&& (2147483647 : Int32)) % (11 : Int32)) w_SMALLINT w_INTEGER w_BIGINT w_REAL w_DOUBLE_PRECISION w_CHAR w_VARCHAR w_TIMESTAMP w_POINT w_CIRCLE w_POLYGON) = w_REAL := by rw [F_pick, if_neg hs_40, if_neg hs_42, if_neg hs_44, if_pos hs_46]
          rw [q38] at st38
          obtain ⟨cq47, kq47, q47a, q47b, q47c⟩ := isOf hZ e38 E_REAL
          obtain ⟨_, _, ⟨T47, L47, k47, n47⟩, -, X47, ⟨Lc47, hQ47, l47, y47, z47⟩, st47⟩ := X38.virtualBack hx (y := (⟨"com/example/starquarry/starquarry/adql/CastType$Kind", "hasLength", "()Z"⟩ : MethodName)) (z := (⟨"com/example/starquarry/starquarry/adql/CastType$Kind", "hasLength", "()Z"⟩ : MethodName)) hown (mvT hZ (hw _ (List.mem_of_getElem? (i := 8) rfl))) (mvT hZ (hw _ (List.mem_of_getElem? (i := 9) rfl))) (notFace_of_selects (args := #[]) (mvT hZ (hw _ (List.mem_of_getElem? (i := 11) rfl)))) (mvT hZ (hw _ (List.mem_of_getElem? (i := 11) rfl))) (mvT hZ (hw _ (List.mem_of_getElem? (i := 10) rfl))) (by decide) (backOf (W := 0) (rm_has l Z a0' hw [] w_REAL w_CHAR w_VARCHAR h0 n0 Z0 S_CHAR S_VARCHAR) hZ (hw _ (List.mem_of_getElem? (i := 12) rfl)) (hw _ (List.mem_of_getElem? (i := 6) rfl)) (by decide) (by decide)) q47a q47c (g := (mkF m 31 #[.val (.int p0), .val (.int ((p0 &&& (2147483647 : Int32)) % (11 : Int32))), .val (.ref w_REAL), .val (.int (0 : Int32))] [(.ref w_REAL)])) rfl (by rw [hml]; rfl) (Steps.refl _) (argsL := []) (rest := []) (lenOf own_pd1 rfl) rfl (by show 2 * 0 + _ ≤ _; exact Nat.le_of_eq rfl) (hb hby at_31) (fun _ _ => ⟨rfl, e38, (by decide : 0 + 0 ≤ _), (by decide : 0 + 0 ≤ _)⟩)
          dsimp only [Pt.U, Pt.locs, Pt.cells, Pt.slots] at X47 l47 y47 z47 st47 hQ47
          subst l47 y47 z47
          obtain ⟨rfl, N47q, e47⟩ := hQ47
          have N47 := Fr.app N38 N47q
          have q47 : (F_has w_REAL w_CHAR w_VARCHAR) = (0 : Int32) := by rw [F_has, if_neg ne_REAL_CHAR, if_neg ne_REAL_VARCHAR]
          rw [q47] at st47
          obtain ⟨fs, hr, hrun, hended, hW, hsame⟩ := X47.leave (v := some (.int (1 : Int32))) (fun h => by rw [Bd.returns] at h; cases h)
          refine ⟨_, _, pre39 _ ?_, hrun, hended, _, _, rfl, ?_, ⟨_, rfl⟩, hW, hsame.mono (by decide) (by decide)⟩
          · show Steps p.tables e below (s₁.setTop (mkF m 9 #[.val (.int p0), .val (.int ((p0 &&& (2147483647 : Int32)) % (11 : Int32))), .unset, .unset] [(.int ((p0 &&& (2147483647 : Int32)) % (11 : Int32)))])) _
            refine st38 _ ?_
            show Steps p.tables e below (T38.setTop (mkF m 12 #[.val (.int p0), .val (.int ((p0 &&& (2147483647 : Int32)) % (11 : Int32))), .unset, .unset] [(.ref w_REAL)])) _
            refine XS.astoreN X38.here hx rfl (hb hby at_12) rfl rfl (l' := #[.val (.int p0), .val (.int ((p0 &&& (2147483647 : Int32)) % (11 : Int32))), .val (.ref w_REAL), .unset]) rfl ?_
            show Steps p.tables e below (T38.setTop (mkF m 13 #[.val (.int p0), .val (.int ((p0 &&& (2147483647 : Int32)) % (11 : Int32))), .val (.ref w_REAL), .unset] [])) _
            refine XS.iloadN X38.here hx rfl (hb hby at_13) rfl ?_
            show Steps p.tables e below (T38.setTop (mkF m 14 #[.val (.int p0), .val (.int ((p0 &&& (2147483647 : Int32)) % (11 : Int32))), .val (.ref w_REAL), .unset] [(.int ((p0 &&& (2147483647 : Int32)) % (11 : Int32)))])) _
            refine XS.iconst X38.here hx rfl (hb hby at_14) ?_
            show Steps p.tables e below (T38.setTop (mkF m 15 #[.val (.int p0), .val (.int ((p0 &&& (2147483647 : Int32)) % (11 : Int32))), .val (.ref w_REAL), .unset] [(.int (5 : Int32)), (.int ((p0 &&& (2147483647 : Int32)) % (11 : Int32)))])) _
            refine XS.icmpNo X38.here hx rfl (hb hby at_15) rfl (feq (fun q => absurd (hs_46.symm.trans q) (by decide))).1 ?_
            show Steps p.tables e below (T38.setTop (mkF m 18 #[.val (.int p0), .val (.int ((p0 &&& (2147483647 : Int32)) % (11 : Int32))), .val (.ref w_REAL), .unset] [])) _
            refine XS.iloadN X38.here hx rfl (hb hby at_18) rfl ?_
            show Steps p.tables e below (T38.setTop (mkF m 19 #[.val (.int p0), .val (.int ((p0 &&& (2147483647 : Int32)) % (11 : Int32))), .val (.ref w_REAL), .unset] [(.int ((p0 &&& (2147483647 : Int32)) % (11 : Int32)))])) _
            refine XS.bipush X38.here hx rfl (hb hby at_19) ?_
            show Steps p.tables e below (T38.setTop (mkF m 21 #[.val (.int p0), .val (.int ((p0 &&& (2147483647 : Int32)) % (11 : Int32))), .val (.ref w_REAL), .unset] [(.int (6 : Int32)), (.int ((p0 &&& (2147483647 : Int32)) % (11 : Int32)))])) _
            refine XS.icmpYes X38.here hx rfl (pc0 := 21) (pc' := 28) rfl (hb hby at_21) rfl (feq (fun q => absurd (hs_46.symm.trans q) (by decide))).2 (by decide) (by decide) ?_
            show Steps p.tables e below (T38.setTop (mkF m 28 #[.val (.int p0), .val (.int ((p0 &&& (2147483647 : Int32)) % (11 : Int32))), .val (.ref w_REAL), .unset] [])) _
            refine XS.iconst X38.here hx rfl (hb hby at_28) ?_
            show Steps p.tables e below (T38.setTop (mkF m 29 #[.val (.int p0), .val (.int ((p0 &&& (2147483647 : Int32)) % (11 : Int32))), .val (.ref w_REAL), .unset] [(.int (0 : Int32))])) _
            refine XS.istoreN X38.here hx rfl (hb hby at_29) rfl (l' := #[.val (.int p0), .val (.int ((p0 &&& (2147483647 : Int32)) % (11 : Int32))), .val (.ref w_REAL), .val (.int (0 : Int32))]) rfl ?_
            show Steps p.tables e below (T38.setTop (mkF m 30 #[.val (.int p0), .val (.int ((p0 &&& (2147483647 : Int32)) % (11 : Int32))), .val (.ref w_REAL), .val (.int (0 : Int32))] [])) _
            refine XS.aloadN X38.here hx rfl (hb hby at_30) rfl rfl ?_
            show Steps p.tables e below (T38.setTop (mkF m 31 #[.val (.int p0), .val (.int ((p0 &&& (2147483647 : Int32)) % (11 : Int32))), .val (.ref w_REAL), .val (.int (0 : Int32))] [(.ref w_REAL)])) _
            refine st47.trans ?_
            show Steps p.tables e below (T47.setTop (mkF m 34 #[.val (.int p0), .val (.int ((p0 &&& (2147483647 : Int32)) % (11 : Int32))), .val (.ref w_REAL), .val (.int (0 : Int32))] [(.int (0 : Int32))])) _
            refine XS.iloadN X47.here hx rfl (hb hby at_34) rfl ?_
            show Steps p.tables e below (T47.setTop (mkF m 35 #[.val (.int p0), .val (.int ((p0 &&& (2147483647 : Int32)) % (11 : Int32))), .val (.ref w_REAL), .val (.int (0 : Int32))] [(.int (0 : Int32)), (.int (0 : Int32))])) _
            refine XS.icmpNo X47.here hx rfl (hb hby at_35) rfl (teq (by decide : (0 : Int32) = (0 : Int32))).2 ?_
            show Steps p.tables e below (T47.setTop (mkF m 38 #[.val (.int p0), .val (.int ((p0 &&& (2147483647 : Int32)) % (11 : Int32))), .val (.ref w_REAL), .val (.int (0 : Int32))] [])) _
            refine XS.iconst X47.here hx rfl (hb hby at_38) ?_
            show Steps p.tables e below (T47.setTop (mkF m 39 #[.val (.int p0), .val (.int ((p0 &&& (2147483647 : Int32)) % (11 : Int32))), .val (.ref w_REAL), .val (.int (0 : Int32))] [(.int (1 : Int32))])) _
            refine XS.goto X47.here hx rfl (pc0 := 39) (pc' := 43) rfl (hb hby at_39) (by decide) (by decide) ?_
            show Steps p.tables e below (T47.setTop (mkF m 43 #[.val (.int p0), .val (.int ((p0 &&& (2147483647 : Int32)) % (11 : Int32))), .val (.ref w_REAL), .val (.int (0 : Int32))] [(.int (1 : Int32))])) _
            exact retN X47 hx (t := .boolean) Bd.returns (by simp) (hb hby at_43) hr
          · show Q_law Z p0 w_SMALLINT w_INTEGER w_BIGINT w_REAL w_DOUBLE_PRECISION w_CHAR w_VARCHAR w_TIMESTAMP w_POINT w_CIRCLE w_POLYGON h0 n0 _ T47.heap _
            refine ⟨?_, N47, trivial⟩
            rw [F_law, if_neg hs_40, if_neg hs_42, if_neg hs_44, if_pos hs_46]
        · by_cases hs_48 : ((p0 &&& (2147483647 : Int32)) % (11 : Int32)) = (4 : Int32)
          · have q38 : (F_pick ((p0 &&& (2147483647 : Int32)) % (11 : Int32)) w_SMALLINT w_INTEGER w_BIGINT w_REAL w_DOUBLE_PRECISION w_CHAR w_VARCHAR w_TIMESTAMP w_POINT w_CIRCLE w_POLYGON) = w_DOUBLE_PRECISION := by rw [F_pick, if_neg hs_40, if_neg hs_42, if_neg hs_44, if_neg hs_46, if_pos hs_48]
            rw [q38] at st38
            obtain ⟨cq49, kq49, q49a, q49b, q49c⟩ := isOf hZ e38 E_DOUBLE_PRECISION
            obtain ⟨_, _, ⟨T49, L49, k49, n49⟩, -, X49, ⟨Lc49, hQ49, l49, y49, z49⟩, st49⟩ := X38.virtualBack hx (y := (⟨"com/example/starquarry/starquarry/adql/CastType$Kind", "hasLength", "()Z"⟩ : MethodName)) (z := (⟨"com/example/starquarry/starquarry/adql/CastType$Kind", "hasLength", "()Z"⟩ : MethodName)) hown (mvT hZ (hw _ (List.mem_of_getElem? (i := 8) rfl))) (mvT hZ (hw _ (List.mem_of_getElem? (i := 9) rfl))) (notFace_of_selects (args := #[]) (mvT hZ (hw _ (List.mem_of_getElem? (i := 11) rfl)))) (mvT hZ (hw _ (List.mem_of_getElem? (i := 11) rfl))) (mvT hZ (hw _ (List.mem_of_getElem? (i := 10) rfl))) (by decide) (backOf (W := 0) (rm_has l Z a0' hw [] w_DOUBLE_PRECISION w_CHAR w_VARCHAR h0 n0 Z0 S_CHAR S_VARCHAR) hZ (hw _ (List.mem_of_getElem? (i := 12) rfl)) (hw _ (List.mem_of_getElem? (i := 6) rfl)) (by decide) (by decide)) q49a q49c (g := (mkF m 31 #[.val (.int p0), .val (.int ((p0 &&& (2147483647 : Int32)) % (11 : Int32))), .val (.ref w_DOUBLE_PRECISION), .val (.int (0 : Int32))] [(.ref w_DOUBLE_PRECISION)])) rfl (by rw [hml]; rfl) (Steps.refl _) (argsL := []) (rest := []) (lenOf own_pd1 rfl) rfl (by show 2 * 0 + _ ≤ _; exact Nat.le_of_eq rfl) (hb hby at_31) (fun _ _ => ⟨rfl, e38, (by decide : 0 + 0 ≤ _), (by decide : 0 + 0 ≤ _)⟩)
            dsimp only [Pt.U, Pt.locs, Pt.cells, Pt.slots] at X49 l49 y49 z49 st49 hQ49
            subst l49 y49 z49
            obtain ⟨rfl, N49q, e49⟩ := hQ49
            have N49 := Fr.app N38 N49q
            have q49 : (F_has w_DOUBLE_PRECISION w_CHAR w_VARCHAR) = (0 : Int32) := by rw [F_has, if_neg ne_DOUBLE_PRECISION_CHAR, if_neg ne_DOUBLE_PRECISION_VARCHAR]
            rw [q49] at st49
            obtain ⟨fs, hr, hrun, hended, hW, hsame⟩ := X49.leave (v := some (.int (1 : Int32))) (fun h => by rw [Bd.returns] at h; cases h)
            refine ⟨_, _, pre39 _ ?_, hrun, hended, _, _, rfl, ?_, ⟨_, rfl⟩, hW, hsame.mono (by decide) (by decide)⟩
            · show Steps p.tables e below (s₁.setTop (mkF m 9 #[.val (.int p0), .val (.int ((p0 &&& (2147483647 : Int32)) % (11 : Int32))), .unset, .unset] [(.int ((p0 &&& (2147483647 : Int32)) % (11 : Int32)))])) _
              refine st38 _ ?_
              show Steps p.tables e below (T38.setTop (mkF m 12 #[.val (.int p0), .val (.int ((p0 &&& (2147483647 : Int32)) % (11 : Int32))), .unset, .unset] [(.ref w_DOUBLE_PRECISION)])) _
              refine XS.astoreN X38.here hx rfl (hb hby at_12) rfl rfl (l' := #[.val (.int p0), .val (.int ((p0 &&& (2147483647 : Int32)) % (11 : Int32))), .val (.ref w_DOUBLE_PRECISION), .unset]) rfl ?_
              show Steps p.tables e below (T38.setTop (mkF m 13 #[.val (.int p0), .val (.int ((p0 &&& (2147483647 : Int32)) % (11 : Int32))), .val (.ref w_DOUBLE_PRECISION), .unset] [])) _
              refine XS.iloadN X38.here hx rfl (hb hby at_13) rfl ?_
              show Steps p.tables e below (T38.setTop (mkF m 14 #[.val (.int p0), .val (.int ((p0 &&& (2147483647 : Int32)) % (11 : Int32))), .val (.ref w_DOUBLE_PRECISION), .unset] [(.int ((p0 &&& (2147483647 : Int32)) % (11 : Int32)))])) _
              refine XS.iconst X38.here hx rfl (hb hby at_14) ?_
              show Steps p.tables e below (T38.setTop (mkF m 15 #[.val (.int p0), .val (.int ((p0 &&& (2147483647 : Int32)) % (11 : Int32))), .val (.ref w_DOUBLE_PRECISION), .unset] [(.int (5 : Int32)), (.int ((p0 &&& (2147483647 : Int32)) % (11 : Int32)))])) _
              refine XS.icmpNo X38.here hx rfl (hb hby at_15) rfl (feq (fun q => absurd (hs_48.symm.trans q) (by decide))).1 ?_
              show Steps p.tables e below (T38.setTop (mkF m 18 #[.val (.int p0), .val (.int ((p0 &&& (2147483647 : Int32)) % (11 : Int32))), .val (.ref w_DOUBLE_PRECISION), .unset] [])) _
              refine XS.iloadN X38.here hx rfl (hb hby at_18) rfl ?_
              show Steps p.tables e below (T38.setTop (mkF m 19 #[.val (.int p0), .val (.int ((p0 &&& (2147483647 : Int32)) % (11 : Int32))), .val (.ref w_DOUBLE_PRECISION), .unset] [(.int ((p0 &&& (2147483647 : Int32)) % (11 : Int32)))])) _
              refine XS.bipush X38.here hx rfl (hb hby at_19) ?_
              show Steps p.tables e below (T38.setTop (mkF m 21 #[.val (.int p0), .val (.int ((p0 &&& (2147483647 : Int32)) % (11 : Int32))), .val (.ref w_DOUBLE_PRECISION), .unset] [(.int (6 : Int32)), (.int ((p0 &&& (2147483647 : Int32)) % (11 : Int32)))])) _
              refine XS.icmpYes X38.here hx rfl (pc0 := 21) (pc' := 28) rfl (hb hby at_21) rfl (feq (fun q => absurd (hs_48.symm.trans q) (by decide))).2 (by decide) (by decide) ?_
              show Steps p.tables e below (T38.setTop (mkF m 28 #[.val (.int p0), .val (.int ((p0 &&& (2147483647 : Int32)) % (11 : Int32))), .val (.ref w_DOUBLE_PRECISION), .unset] [])) _
              refine XS.iconst X38.here hx rfl (hb hby at_28) ?_
              show Steps p.tables e below (T38.setTop (mkF m 29 #[.val (.int p0), .val (.int ((p0 &&& (2147483647 : Int32)) % (11 : Int32))), .val (.ref w_DOUBLE_PRECISION), .unset] [(.int (0 : Int32))])) _
              refine XS.istoreN X38.here hx rfl (hb hby at_29) rfl (l' := #[.val (.int p0), .val (.int ((p0 &&& (2147483647 : Int32)) % (11 : Int32))), .val (.ref w_DOUBLE_PRECISION), .val (.int (0 : Int32))]) rfl ?_
              show Steps p.tables e below (T38.setTop (mkF m 30 #[.val (.int p0), .val (.int ((p0 &&& (2147483647 : Int32)) % (11 : Int32))), .val (.ref w_DOUBLE_PRECISION), .val (.int (0 : Int32))] [])) _
              refine XS.aloadN X38.here hx rfl (hb hby at_30) rfl rfl ?_
              show Steps p.tables e below (T38.setTop (mkF m 31 #[.val (.int p0), .val (.int ((p0 &&& (2147483647 : Int32)) % (11 : Int32))), .val (.ref w_DOUBLE_PRECISION), .val (.int (0 : Int32))] [(.ref w_DOUBLE_PRECISION)])) _
              refine st49.trans ?_
              show Steps p.tables e below (T49.setTop (mkF m 34 #[.val (.int p0), .val (.int ((p0 &&& (2147483647 : Int32)) % (11 : Int32))), .val (.ref w_DOUBLE_PRECISION), .val (.int (0 : Int32))] [(.int (0 : Int32))])) _
              refine XS.iloadN X49.here hx rfl (hb hby at_34) rfl ?_
              show Steps p.tables e below (T49.setTop (mkF m 35 #[.val (.int p0), .val (.int ((p0 &&& (2147483647 : Int32)) % (11 : Int32))), .val (.ref w_DOUBLE_PRECISION), .val (.int (0 : Int32))] [(.int (0 : Int32)), (.int (0 : Int32))])) _
              refine XS.icmpNo X49.here hx rfl (hb hby at_35) rfl (teq (by decide : (0 : Int32) = (0 : Int32))).2 ?_
              show Steps p.tables e below (T49.setTop (mkF m 38 #[.val (.int p0), .val (.int ((p0 &&& (2147483647 : Int32)) % (11 : Int32))), .val (.ref w_DOUBLE_PRECISION), .val (.int (0 : Int32))] [])) _
              refine XS.iconst X49.here hx rfl (hb hby at_38) ?_
              show Steps p.tables e below (T49.setTop (mkF m 39 #[.val (.int p0), .val (.int ((p0 &&& (2147483647 : Int32)) % (11 : Int32))), .val (.ref w_DOUBLE_PRECISION), .val (.int (0 : Int32))] [(.int (1 : Int32))])) _
              refine XS.goto X49.here hx rfl (pc0 := 39) (pc' := 43) rfl (hb hby at_39) (by decide) (by decide) ?_
              show Steps p.tables e below (T49.setTop (mkF m 43 #[.val (.int p0), .val (.int ((p0 &&& (2147483647 : Int32)) % (11 : Int32))), .val (.ref w_DOUBLE_PRECISION), .val (.int (0 : Int32))] [(.int (1 : Int32))])) _
              exact retN X49 hx (t := .boolean) Bd.returns (by simp) (hb hby at_43) hr
            · show Q_law Z p0 w_SMALLINT w_INTEGER w_BIGINT w_REAL w_DOUBLE_PRECISION w_CHAR w_VARCHAR w_TIMESTAMP w_POINT w_CIRCLE w_POLYGON h0 n0 _ T49.heap _
              refine ⟨?_, N49, trivial⟩
              rw [F_law, if_neg hs_40, if_neg hs_42, if_neg hs_44, if_neg hs_46, if_pos hs_48]
          · by_cases hs_50 : ((p0 &&& (2147483647 : Int32)) % (11 : Int32)) = (5 : Int32)
            · have q38 : (F_pick ((p0 &&& (2147483647 : Int32)) % (11 : Int32)) w_SMALLINT w_INTEGER w_BIGINT w_REAL w_DOUBLE_PRECISION w_CHAR w_VARCHAR w_TIMESTAMP w_POINT w_CIRCLE w_POLYGON) = w_CHAR := by rw [F_pick, if_neg hs_40, if_neg hs_42, if_neg hs_44, if_neg hs_46, if_neg hs_48, if_pos hs_50]
              rw [q38] at st38
              obtain ⟨cq51, kq51, q51a, q51b, q51c⟩ := isOf hZ e38 E_CHAR
              obtain ⟨_, _, ⟨T51, L51, k51, n51⟩, -, X51, ⟨Lc51, hQ51, l51, y51, z51⟩, st51⟩ := X38.virtualBack hx (y := (⟨"com/example/starquarry/starquarry/adql/CastType$Kind", "hasLength", "()Z"⟩ : MethodName)) (z := (⟨"com/example/starquarry/starquarry/adql/CastType$Kind", "hasLength", "()Z"⟩ : MethodName)) hown (mvT hZ (hw _ (List.mem_of_getElem? (i := 8) rfl))) (mvT hZ (hw _ (List.mem_of_getElem? (i := 9) rfl))) (notFace_of_selects (args := #[]) (mvT hZ (hw _ (List.mem_of_getElem? (i := 11) rfl)))) (mvT hZ (hw _ (List.mem_of_getElem? (i := 11) rfl))) (mvT hZ (hw _ (List.mem_of_getElem? (i := 10) rfl))) (by decide) (backOf (W := 0) (rm_has l Z a0' hw [] w_CHAR w_CHAR w_VARCHAR h0 n0 Z0 S_CHAR S_VARCHAR) hZ (hw _ (List.mem_of_getElem? (i := 12) rfl)) (hw _ (List.mem_of_getElem? (i := 6) rfl)) (by decide) (by decide)) q51a q51c (g := (mkF m 31 #[.val (.int p0), .val (.int ((p0 &&& (2147483647 : Int32)) % (11 : Int32))), .val (.ref w_CHAR), .val (.int (1 : Int32))] [(.ref w_CHAR)])) rfl (by rw [hml]; rfl) (Steps.refl _) (argsL := []) (rest := []) (lenOf own_pd1 rfl) rfl (by show 2 * 0 + _ ≤ _; exact Nat.le_of_eq rfl) (hb hby at_31) (fun _ _ => ⟨rfl, e38, (by decide : 0 + 0 ≤ _), (by decide : 0 + 0 ≤ _)⟩)
              dsimp only [Pt.U, Pt.locs, Pt.cells, Pt.slots] at X51 l51 y51 z51 st51 hQ51
              subst l51 y51 z51
              obtain ⟨rfl, N51q, e51⟩ := hQ51
              have N51 := Fr.app N38 N51q
              have q51 : (F_has w_CHAR w_CHAR w_VARCHAR) = (1 : Int32) := by rw [F_has, if_pos (rfl : w_CHAR = w_CHAR)]
              rw [q51] at st51
              obtain ⟨fs, hr, hrun, hended, hW, hsame⟩ := X51.leave (v := some (.int (1 : Int32))) (fun h => by rw [Bd.returns] at h; cases h)
              refine ⟨_, _, pre39 _ ?_, hrun, hended, _, _, rfl, ?_, ⟨_, rfl⟩, hW, hsame.mono (by decide) (by decide)⟩
              · show Steps p.tables e below (s₁.setTop (mkF m 9 #[.val (.int p0), .val (.int ((p0 &&& (2147483647 : Int32)) % (11 : Int32))), .unset, .unset] [(.int ((p0 &&& (2147483647 : Int32)) % (11 : Int32)))])) _
                refine st38 _ ?_
                show Steps p.tables e below (T38.setTop (mkF m 12 #[.val (.int p0), .val (.int ((p0 &&& (2147483647 : Int32)) % (11 : Int32))), .unset, .unset] [(.ref w_CHAR)])) _
                refine XS.astoreN X38.here hx rfl (hb hby at_12) rfl rfl (l' := #[.val (.int p0), .val (.int ((p0 &&& (2147483647 : Int32)) % (11 : Int32))), .val (.ref w_CHAR), .unset]) rfl ?_
                show Steps p.tables e below (T38.setTop (mkF m 13 #[.val (.int p0), .val (.int ((p0 &&& (2147483647 : Int32)) % (11 : Int32))), .val (.ref w_CHAR), .unset] [])) _
                refine XS.iloadN X38.here hx rfl (hb hby at_13) rfl ?_
                show Steps p.tables e below (T38.setTop (mkF m 14 #[.val (.int p0), .val (.int ((p0 &&& (2147483647 : Int32)) % (11 : Int32))), .val (.ref w_CHAR), .unset] [(.int ((p0 &&& (2147483647 : Int32)) % (11 : Int32)))])) _
                refine XS.iconst X38.here hx rfl (hb hby at_14) ?_
                show Steps p.tables e below (T38.setTop (mkF m 15 #[.val (.int p0), .val (.int ((p0 &&& (2147483647 : Int32)) % (11 : Int32))), .val (.ref w_CHAR), .unset] [(.int (5 : Int32)), (.int ((p0 &&& (2147483647 : Int32)) % (11 : Int32)))])) _
                refine XS.icmpYes X38.here hx rfl (pc0 := 15) (pc' := 24) rfl (hb hby at_15) rfl (teq hs_50).1 (by decide) (by decide) ?_
                show Steps p.tables e below (T38.setTop (mkF m 24 #[.val (.int p0), .val (.int ((p0 &&& (2147483647 : Int32)) % (11 : Int32))), .val (.ref w_CHAR), .unset] [])) _
                refine XS.iconst X38.here hx rfl (hb hby at_24) ?_
                show Steps p.tables e below (T38.setTop (mkF m 25 #[.val (.int p0), .val (.int ((p0 &&& (2147483647 : Int32)) % (11 : Int32))), .val (.ref w_CHAR), .unset] [(.int (1 : Int32))])) _
                refine XS.goto X38.here hx rfl (pc0 := 25) (pc' := 29) rfl (hb hby at_25) (by decide) (by decide) ?_
                show Steps p.tables e below (T38.setTop (mkF m 29 #[.val (.int p0), .val (.int ((p0 &&& (2147483647 : Int32)) % (11 : Int32))), .val (.ref w_CHAR), .unset] [(.int (1 : Int32))])) _
                refine XS.istoreN X38.here hx rfl (hb hby at_29) rfl (l' := #[.val (.int p0), .val (.int ((p0 &&& (2147483647 : Int32)) % (11 : Int32))), .val (.ref w_CHAR), .val (.int (1 : Int32))]) rfl ?_
                show Steps p.tables e below (T38.setTop (mkF m 30 #[.val (.int p0), .val (.int ((p0 &&& (2147483647 : Int32)) % (11 : Int32))), .val (.ref w_CHAR), .val (.int (1 : Int32))] [])) _
                refine XS.aloadN X38.here hx rfl (hb hby at_30) rfl rfl ?_
                show Steps p.tables e below (T38.setTop (mkF m 31 #[.val (.int p0), .val (.int ((p0 &&& (2147483647 : Int32)) % (11 : Int32))), .val (.ref w_CHAR), .val (.int (1 : Int32))] [(.ref w_CHAR)])) _
                refine st51.trans ?_
                show Steps p.tables e below (T51.setTop (mkF m 34 #[.val (.int p0), .val (.int ((p0 &&& (2147483647 : Int32)) % (11 : Int32))), .val (.ref w_CHAR), .val (.int (1 : Int32))] [(.int (1 : Int32))])) _
                refine XS.iloadN X51.here hx rfl (hb hby at_34) rfl ?_
                show Steps p.tables e below (T51.setTop (mkF m 35 #[.val (.int p0), .val (.int ((p0 &&& (2147483647 : Int32)) % (11 : Int32))), .val (.ref w_CHAR), .val (.int (1 : Int32))] [(.int (1 : Int32)), (.int (1 : Int32))])) _
                refine XS.icmpNo X51.here hx rfl (hb hby at_35) rfl (teq (by decide : (1 : Int32) = (1 : Int32))).2 ?_
                show Steps p.tables e below (T51.setTop (mkF m 38 #[.val (.int p0), .val (.int ((p0 &&& (2147483647 : Int32)) % (11 : Int32))), .val (.ref w_CHAR), .val (.int (1 : Int32))] [])) _
                refine XS.iconst X51.here hx rfl (hb hby at_38) ?_
                show Steps p.tables e below (T51.setTop (mkF m 39 #[.val (.int p0), .val (.int ((p0 &&& (2147483647 : Int32)) % (11 : Int32))), .val (.ref w_CHAR), .val (.int (1 : Int32))] [(.int (1 : Int32))])) _
                refine XS.goto X51.here hx rfl (pc0 := 39) (pc' := 43) rfl (hb hby at_39) (by decide) (by decide) ?_
                show Steps p.tables e below (T51.setTop (mkF m 43 #[.val (.int p0), .val (.int ((p0 &&& (2147483647 : Int32)) % (11 : Int32))), .val (.ref w_CHAR), .val (.int (1 : Int32))] [(.int (1 : Int32))])) _
                exact retN X51 hx (t := .boolean) Bd.returns (by simp) (hb hby at_43) hr
              · show Q_law Z p0 w_SMALLINT w_INTEGER w_BIGINT w_REAL w_DOUBLE_PRECISION w_CHAR w_VARCHAR w_TIMESTAMP w_POINT w_CIRCLE w_POLYGON h0 n0 _ T51.heap _
                refine ⟨?_, N51, trivial⟩
                rw [F_law, if_neg hs_40, if_neg hs_42, if_neg hs_44, if_neg hs_46, if_neg hs_48, if_pos hs_50]
            · by_cases hs_52 : ((p0 &&& (2147483647 : Int32)) % (11 : Int32)) = (6 : Int32)
              · have q38 : (F_pick ((p0 &&& (2147483647 : Int32)) % (11 : Int32)) w_SMALLINT w_INTEGER w_BIGINT w_REAL w_DOUBLE_PRECISION w_CHAR w_VARCHAR w_TIMESTAMP w_POINT w_CIRCLE w_POLYGON) = w_VARCHAR := by rw [F_pick, if_neg hs_40, if_neg hs_42, if_neg hs_44, if_neg hs_46, if_neg hs_48, if_neg hs_50, if_pos hs_52]
                rw [q38] at st38
                obtain ⟨cq53, kq53, q53a, q53b, q53c⟩ := isOf hZ e38 E_VARCHAR
                obtain ⟨_, _, ⟨T53, L53, k53, n53⟩, -, X53, ⟨Lc53, hQ53, l53, y53, z53⟩, st53⟩ := X38.virtualBack hx (y := (⟨"com/example/starquarry/starquarry/adql/CastType$Kind", "hasLength", "()Z"⟩ : MethodName)) (z := (⟨"com/example/starquarry/starquarry/adql/CastType$Kind", "hasLength", "()Z"⟩ : MethodName)) hown (mvT hZ (hw _ (List.mem_of_getElem? (i := 8) rfl))) (mvT hZ (hw _ (List.mem_of_getElem? (i := 9) rfl))) (notFace_of_selects (args := #[]) (mvT hZ (hw _ (List.mem_of_getElem? (i := 11) rfl)))) (mvT hZ (hw _ (List.mem_of_getElem? (i := 11) rfl))) (mvT hZ (hw _ (List.mem_of_getElem? (i := 10) rfl))) (by decide) (backOf (W := 0) (rm_has l Z a0' hw [] w_VARCHAR w_CHAR w_VARCHAR h0 n0 Z0 S_CHAR S_VARCHAR) hZ (hw _ (List.mem_of_getElem? (i := 12) rfl)) (hw _ (List.mem_of_getElem? (i := 6) rfl)) (by decide) (by decide)) q53a q53c (g := (mkF m 31 #[.val (.int p0), .val (.int ((p0 &&& (2147483647 : Int32)) % (11 : Int32))), .val (.ref w_VARCHAR), .val (.int (1 : Int32))] [(.ref w_VARCHAR)])) rfl (by rw [hml]; rfl) (Steps.refl _) (argsL := []) (rest := []) (lenOf own_pd1 rfl) rfl (by show 2 * 0 + _ ≤ _; exact Nat.le_of_eq rfl) (hb hby at_31) (fun _ _ => ⟨rfl, e38, (by decide : 0 + 0 ≤ _), (by decide : 0 + 0 ≤ _)⟩)
                dsimp only [Pt.U, Pt.locs, Pt.cells, Pt.slots] at X53 l53 y53 z53 st53 hQ53
                subst l53 y53 z53
                obtain ⟨rfl, N53q, e53⟩ := hQ53
                have N53 := Fr.app N38 N53q
                have q53 : (F_has w_VARCHAR w_CHAR w_VARCHAR) = (1 : Int32) := by rw [F_has, if_neg ne_VARCHAR_CHAR, if_pos (rfl : w_VARCHAR = w_VARCHAR)]
                rw [q53] at st53
                obtain ⟨fs, hr, hrun, hended, hW, hsame⟩ := X53.leave (v := some (.int (1 : Int32))) (fun h => by rw [Bd.returns] at h; cases h)
                refine ⟨_, _, pre39 _ ?_, hrun, hended, _, _, rfl, ?_, ⟨_, rfl⟩, hW, hsame.mono (by decide) (by decide)⟩
                · show Steps p.tables e below (s₁.setTop (mkF m 9 #[.val (.int p0), .val (.int ((p0 &&& (2147483647 : Int32)) % (11 : Int32))), .unset, .unset] [(.int ((p0 &&& (2147483647 : Int32)) % (11 : Int32)))])) _
                  refine st38 _ ?_
                  show Steps p.tables e below (T38.setTop (mkF m 12 #[.val (.int p0), .val (.int ((p0 &&& (2147483647 : Int32)) % (11 : Int32))), .unset, .unset] [(.ref w_VARCHAR)])) _
                  refine XS.astoreN X38.here hx rfl (hb hby at_12) rfl rfl (l' := #[.val (.int p0), .val (.int ((p0 &&& (2147483647 : Int32)) % (11 : Int32))), .val (.ref w_VARCHAR), .unset]) rfl ?_
                  show Steps p.tables e below (T38.setTop (mkF m 13 #[.val (.int p0), .val (.int ((p0 &&& (2147483647 : Int32)) % (11 : Int32))), .val (.ref w_VARCHAR), .unset] [])) _
                  refine XS.iloadN X38.here hx rfl (hb hby at_13) rfl ?_
                  show Steps p.tables e below (T38.setTop (mkF m 14 #[.val (.int p0), .val (.int ((p0 &&& (2147483647 : Int32)) % (11 : Int32))), .val (.ref w_VARCHAR), .unset] [(.int ((p0 &&& (2147483647 : Int32)) % (11 : Int32)))])) _
                  refine XS.iconst X38.here hx rfl (hb hby at_14) ?_
                  show Steps p.tables e below (T38.setTop (mkF m 15 #[.val (.int p0), .val (.int ((p0 &&& (2147483647 : Int32)) % (11 : Int32))), .val (.ref w_VARCHAR), .unset] [(.int (5 : Int32)), (.int ((p0 &&& (2147483647 : Int32)) % (11 : Int32)))])) _
                  refine XS.icmpNo X38.here hx rfl (hb hby at_15) rfl (feq hs_50).1 ?_
                  show Steps p.tables e below (T38.setTop (mkF m 18 #[.val (.int p0), .val (.int ((p0 &&& (2147483647 : Int32)) % (11 : Int32))), .val (.ref w_VARCHAR), .unset] [])) _
                  refine XS.iloadN X38.here hx rfl (hb hby at_18) rfl ?_
                  show Steps p.tables e below (T38.setTop (mkF m 19 #[.val (.int p0), .val (.int ((p0 &&& (2147483647 : Int32)) % (11 : Int32))), .val (.ref w_VARCHAR), .unset] [(.int ((p0 &&& (2147483647 : Int32)) % (11 : Int32)))])) _
                  refine XS.bipush X38.here hx rfl (hb hby at_19) ?_
                  show Steps p.tables e below (T38.setTop (mkF m 21 #[.val (.int p0), .val (.int ((p0 &&& (2147483647 : Int32)) % (11 : Int32))), .val (.ref w_VARCHAR), .unset] [(.int (6 : Int32)), (.int ((p0 &&& (2147483647 : Int32)) % (11 : Int32)))])) _
                  refine XS.icmpNo X38.here hx rfl (hb hby at_21) rfl (teq hs_52).2 ?_
                  show Steps p.tables e below (T38.setTop (mkF m 24 #[.val (.int p0), .val (.int ((p0 &&& (2147483647 : Int32)) % (11 : Int32))), .val (.ref w_VARCHAR), .unset] [])) _
                  refine XS.iconst X38.here hx rfl (hb hby at_24) ?_
                  show Steps p.tables e below (T38.setTop (mkF m 25 #[.val (.int p0), .val (.int ((p0 &&& (2147483647 : Int32)) % (11 : Int32))), .val (.ref w_VARCHAR), .unset] [(.int (1 : Int32))])) _
                  refine XS.goto X38.here hx rfl (pc0 := 25) (pc' := 29) rfl (hb hby at_25) (by decide) (by decide) ?_
                  show Steps p.tables e below (T38.setTop (mkF m 29 #[.val (.int p0), .val (.int ((p0 &&& (2147483647 : Int32)) % (11 : Int32))), .val (.ref w_VARCHAR), .unset] [(.int (1 : Int32))])) _
                  refine XS.istoreN X38.here hx rfl (hb hby at_29) rfl (l' := #[.val (.int p0), .val (.int ((p0 &&& (2147483647 : Int32)) % (11 : Int32))), .val (.ref w_VARCHAR), .val (.int (1 : Int32))]) rfl ?_
                  show Steps p.tables e below (T38.setTop (mkF m 30 #[.val (.int p0), .val (.int ((p0 &&& (2147483647 : Int32)) % (11 : Int32))), .val (.ref w_VARCHAR), .val (.int (1 : Int32))] [])) _
                  refine XS.aloadN X38.here hx rfl (hb hby at_30) rfl rfl ?_
                  show Steps p.tables e below (T38.setTop (mkF m 31 #[.val (.int p0), .val (.int ((p0 &&& (2147483647 : Int32)) % (11 : Int32))), .val (.ref w_VARCHAR), .val (.int (1 : Int32))] [(.ref w_VARCHAR)])) _
                  refine st53.trans ?_
                  show Steps p.tables e below (T53.setTop (mkF m 34 #[.val (.int p0), .val (.int ((p0 &&& (2147483647 : Int32)) % (11 : Int32))), .val (.ref w_VARCHAR), .val (.int (1 : Int32))] [(.int (1 : Int32))])) _
                  refine XS.iloadN X53.here hx rfl (hb hby at_34) rfl ?_
                  show Steps p.tables e below (T53.setTop (mkF m 35 #[.val (.int p0), .val (.int ((p0 &&& (2147483647 : Int32)) % (11 : Int32))), .val (.ref w_VARCHAR), .val (.int (1 : Int32))] [(.int (1 : Int32)), (.int (1 : Int32))])) _
                  refine XS.icmpNo X53.here hx rfl (hb hby at_35) rfl (teq (by decide : (1 : Int32) = (1 : Int32))).2 ?_
                  show Steps p.tables e below (T53.setTop (mkF m 38 #[.val (.int p0), .val (.int ((p0 &&& (2147483647 : Int32)) % (11 : Int32))), .val (.ref w_VARCHAR), .val (.int (1 : Int32))] [])) _
                  refine XS.iconst X53.here hx rfl (hb hby at_38) ?_
                  show Steps p.tables e below (T53.setTop (mkF m 39 #[.val (.int p0), .val (.int ((p0 &&& (2147483647 : Int32)) % (11 : Int32))), .val (.ref w_VARCHAR), .val (.int (1 : Int32))] [(.int (1 : Int32))])) _
                  refine XS.goto X53.here hx rfl (pc0 := 39) (pc' := 43) rfl (hb hby at_39) (by decide) (by decide) ?_
                  show Steps p.tables e below (T53.setTop (mkF m 43 #[.val (.int p0), .val (.int ((p0 &&& (2147483647 : Int32)) % (11 : Int32))), .val (.ref w_VARCHAR), .val (.int (1 : Int32))] [(.int (1 : Int32))])) _
                  exact retN X53 hx (t := .boolean) Bd.returns (by simp) (hb hby at_43) hr
                · show Q_law Z p0 w_SMALLINT w_INTEGER w_BIGINT w_REAL w_DOUBLE_PRECISION w_CHAR w_VARCHAR w_TIMESTAMP w_POINT w_CIRCLE w_POLYGON h0 n0 _ T53.heap _
                  refine ⟨?_, N53, trivial⟩
                  rw [F_law, if_neg hs_40, if_neg hs_42, if_neg hs_44, if_neg hs_46, if_neg hs_48, if_neg hs_50, if_pos hs_52]
              · by_cases hs_54 : ((p0 &&& (2147483647 : Int32)) % (11 : Int32)) = (7 : Int32)
                · have q38 : (F_pick ((p0 &&& (2147483647 : Int32)) % (11 : Int32)) w_SMALLINT w_INTEGER w_BIGINT w_REAL w_DOUBLE_PRECISION w_CHAR w_VARCHAR w_TIMESTAMP w_POINT w_CIRCLE w_POLYGON) = w_TIMESTAMP := by rw [F_pick, if_neg hs_40, if_neg hs_42, if_neg hs_44, if_neg hs_46, if_neg hs_48, if_neg hs_50, if_neg hs_52, if_pos hs_54]
                  rw [q38] at st38
                  obtain ⟨cq55, kq55, q55a, q55b, q55c⟩ := isOf hZ e38 E_TIMESTAMP
                  obtain ⟨_, _, ⟨T55, L55, k55, n55⟩, -, X55, ⟨Lc55, hQ55, l55, y55, z55⟩, st55⟩ := X38.virtualBack hx (y := (⟨"com/example/starquarry/starquarry/adql/CastType$Kind", "hasLength", "()Z"⟩ : MethodName)) (z := (⟨"com/example/starquarry/starquarry/adql/CastType$Kind", "hasLength", "()Z"⟩ : MethodName)) hown (mvT hZ (hw _ (List.mem_of_getElem? (i := 8) rfl))) (mvT hZ (hw _ (List.mem_of_getElem? (i := 9) rfl))) (notFace_of_selects (args := #[]) (mvT hZ (hw _ (List.mem_of_getElem? (i := 11) rfl)))) (mvT hZ (hw _ (List.mem_of_getElem? (i := 11) rfl))) (mvT hZ (hw _ (List.mem_of_getElem? (i := 10) rfl))) (by decide) (backOf (W := 0) (rm_has l Z a0' hw [] w_TIMESTAMP w_CHAR w_VARCHAR h0 n0 Z0 S_CHAR S_VARCHAR) hZ (hw _ (List.mem_of_getElem? (i := 12) rfl)) (hw _ (List.mem_of_getElem? (i := 6) rfl)) (by decide) (by decide)) q55a q55c (g := (mkF m 31 #[.val (.int p0), .val (.int ((p0 &&& (2147483647 : Int32)) % (11 : Int32))), .val (.ref w_TIMESTAMP), .val (.int (0 : Int32))] [(.ref w_TIMESTAMP)])) rfl (by rw [hml]; rfl) (Steps.refl _) (argsL := []) (rest := []) (lenOf own_pd1 rfl) rfl (by show 2 * 0 + _ ≤ _; exact Nat.le_of_eq rfl) (hb hby at_31) (fun _ _ => ⟨rfl, e38, (by decide : 0 + 0 ≤ _), (by decide : 0 + 0 ≤ _)⟩)
                  dsimp only [Pt.U, Pt.locs, Pt.cells, Pt.slots] at X55 l55 y55 z55 st55 hQ55
                  subst l55 y55 z55
                  obtain ⟨rfl, N55q, e55⟩ := hQ55
                  have N55 := Fr.app N38 N55q
                  have q55 : (F_has w_TIMESTAMP w_CHAR w_VARCHAR) = (0 : Int32) := by rw [F_has, if_neg ne_TIMESTAMP_CHAR, if_neg ne_TIMESTAMP_VARCHAR]
                  rw [q55] at st55
                  obtain ⟨fs, hr, hrun, hended, hW, hsame⟩ := X55.leave (v := some (.int (1 : Int32))) (fun h => by rw [Bd.returns] at h; cases h)
                  refine ⟨_, _, pre39 _ ?_, hrun, hended, _, _, rfl, ?_, ⟨_, rfl⟩, hW, hsame.mono (by decide) (by decide)⟩
                  · show Steps p.tables e below (s₁.setTop (mkF m 9 #[.val (.int p0), .val (.int ((p0 &&& (2147483647 : Int32)) % (11 : Int32))), .unset, .unset] [(.int ((p0 &&& (2147483647 : Int32)) % (11 : Int32)))])) _
                    refine st38 _ ?_
                    show Steps p.tables e below (T38.setTop (mkF m 12 #[.val (.int p0), .val (.int ((p0 &&& (2147483647 : Int32)) % (11 : Int32))), .unset, .unset] [(.ref w_TIMESTAMP)])) _
                    refine XS.astoreN X38.here hx rfl (hb hby at_12) rfl rfl (l' := #[.val (.int p0), .val (.int ((p0 &&& (2147483647 : Int32)) % (11 : Int32))), .val (.ref w_TIMESTAMP), .unset]) rfl ?_
                    show Steps p.tables e below (T38.setTop (mkF m 13 #[.val (.int p0), .val (.int ((p0 &&& (2147483647 : Int32)) % (11 : Int32))), .val (.ref w_TIMESTAMP), .unset] [])) _
                    refine XS.iloadN X38.here hx rfl (hb hby at_13) rfl ?_
                    show Steps p.tables e below (T38.setTop (mkF m 14 #[.val (.int p0), .val (.int ((p0 &&& (2147483647 : Int32)) % (11 : Int32))), .val (.ref w_TIMESTAMP), .unset] [(.int ((p0 &&& (2147483647 : Int32)) % (11 : Int32)))])) _
                    refine XS.iconst X38.here hx rfl (hb hby at_14) ?_
                    show Steps p.tables e below (T38.setTop (mkF m 15 #[.val (.int p0), .val (.int ((p0 &&& (2147483647 : Int32)) % (11 : Int32))), .val (.ref w_TIMESTAMP), .unset] [(.int (5 : Int32)), (.int ((p0 &&& (2147483647 : Int32)) % (11 : Int32)))])) _
                    refine XS.icmpNo X38.here hx rfl (hb hby at_15) rfl (feq hs_50).1 ?_
                    show Steps p.tables e below (T38.setTop (mkF m 18 #[.val (.int p0), .val (.int ((p0 &&& (2147483647 : Int32)) % (11 : Int32))), .val (.ref w_TIMESTAMP), .unset] [])) _
                    refine XS.iloadN X38.here hx rfl (hb hby at_18) rfl ?_
                    show Steps p.tables e below (T38.setTop (mkF m 19 #[.val (.int p0), .val (.int ((p0 &&& (2147483647 : Int32)) % (11 : Int32))), .val (.ref w_TIMESTAMP), .unset] [(.int ((p0 &&& (2147483647 : Int32)) % (11 : Int32)))])) _
                    refine XS.bipush X38.here hx rfl (hb hby at_19) ?_
                    show Steps p.tables e below (T38.setTop (mkF m 21 #[.val (.int p0), .val (.int ((p0 &&& (2147483647 : Int32)) % (11 : Int32))), .val (.ref w_TIMESTAMP), .unset] [(.int (6 : Int32)), (.int ((p0 &&& (2147483647 : Int32)) % (11 : Int32)))])) _
                    refine XS.icmpYes X38.here hx rfl (pc0 := 21) (pc' := 28) rfl (hb hby at_21) rfl (feq hs_52).2 (by decide) (by decide) ?_
                    show Steps p.tables e below (T38.setTop (mkF m 28 #[.val (.int p0), .val (.int ((p0 &&& (2147483647 : Int32)) % (11 : Int32))), .val (.ref w_TIMESTAMP), .unset] [])) _
                    refine XS.iconst X38.here hx rfl (hb hby at_28) ?_
                    show Steps p.tables e below (T38.setTop (mkF m 29 #[.val (.int p0), .val (.int ((p0 &&& (2147483647 : Int32)) % (11 : Int32))), .val (.ref w_TIMESTAMP), .unset] [(.int (0 : Int32))])) _
                    refine XS.istoreN X38.here hx rfl (hb hby at_29) rfl (l' := #[.val (.int p0), .val (.int ((p0 &&& (2147483647 : Int32)) % (11 : Int32))), .val (.ref w_TIMESTAMP), .val (.int (0 : Int32))]) rfl ?_
                    show Steps p.tables e below (T38.setTop (mkF m 30 #[.val (.int p0), .val (.int ((p0 &&& (2147483647 : Int32)) % (11 : Int32))), .val (.ref w_TIMESTAMP), .val (.int (0 : Int32))] [])) _
                    refine XS.aloadN X38.here hx rfl (hb hby at_30) rfl rfl ?_
                    show Steps p.tables e below (T38.setTop (mkF m 31 #[.val (.int p0), .val (.int ((p0 &&& (2147483647 : Int32)) % (11 : Int32))), .val (.ref w_TIMESTAMP), .val (.int (0 : Int32))] [(.ref w_TIMESTAMP)])) _
                    refine st55.trans ?_
                    show Steps p.tables e below (T55.setTop (mkF m 34 #[.val (.int p0), .val (.int ((p0 &&& (2147483647 : Int32)) % (11 : Int32))), .val (.ref w_TIMESTAMP), .val (.int (0 : Int32))] [(.int (0 : Int32))])) _
                    refine XS.iloadN X55.here hx rfl (hb hby at_34) rfl ?_
                    show Steps p.tables e below (T55.setTop (mkF m 35 #[.val (.int p0), .val (.int ((p0 &&& (2147483647 : Int32)) % (11 : Int32))), .val (.ref w_TIMESTAMP), .val (.int (0 : Int32))] [(.int (0 : Int32)), (.int (0 : Int32))])) _
                    refine XS.icmpNo X55.here hx rfl (hb hby at_35) rfl (teq (by decide : (0 : Int32) = (0 : Int32))).2 ?_
                    show Steps p.tables e below (T55.setTop (mkF m 38 #[.val (.int p0), .val (.int ((p0 &&& (2147483647 : Int32)) % (11 : Int32))), .val (.ref w_TIMESTAMP), .val (.int (0 : Int32))] [])) _
                    refine XS.iconst X55.here hx rfl (hb hby at_38) ?_
                    show Steps p.tables e below (T55.setTop (mkF m 39 #[.val (.int p0), .val (.int ((p0 &&& (2147483647 : Int32)) % (11 : Int32))), .val (.ref w_TIMESTAMP), .val (.int (0 : Int32))] [(.int (1 : Int32))])) _
                    refine XS.goto X55.here hx rfl (pc0 := 39) (pc' := 43) rfl (hb hby at_39) (by decide) (by decide) ?_
                    show Steps p.tables e below (T55.setTop (mkF m 43 #[.val (.int p0), .val (.int ((p0 &&& (2147483647 : Int32)) % (11 : Int32))), .val (.ref w_TIMESTAMP), .val (.int (0 : Int32))] [(.int (1 : Int32))])) _
                    exact retN X55 hx (t := .boolean) Bd.returns (by simp) (hb hby at_43) hr
                  · show Q_law Z p0 w_SMALLINT w_INTEGER w_BIGINT w_REAL w_DOUBLE_PRECISION w_CHAR w_VARCHAR w_TIMESTAMP w_POINT w_CIRCLE w_POLYGON h0 n0 _ T55.heap _
                    refine ⟨?_, N55, trivial⟩
                    rw [F_law, if_neg hs_40, if_neg hs_42, if_neg hs_44, if_neg hs_46, if_neg hs_48, if_neg hs_50, if_neg hs_52, if_pos hs_54]
                · by_cases hs_56 : ((p0 &&& (2147483647 : Int32)) % (11 : Int32)) = (8 : Int32)
                  · have q38 : (F_pick ((p0 &&& (2147483647 : Int32)) % (11 : Int32)) w_SMALLINT w_INTEGER w_BIGINT w_REAL w_DOUBLE_PRECISION w_CHAR w_VARCHAR w_TIMESTAMP w_POINT w_CIRCLE w_POLYGON) = w_POINT := by rw [F_pick, if_neg hs_40, if_neg hs_42, if_neg hs_44, if_neg hs_46, if_neg hs_48, if_neg hs_50, if_neg hs_52, if_neg hs_54, if_pos hs_56]
                    rw [q38] at st38
                    obtain ⟨cq57, kq57, q57a, q57b, q57c⟩ := isOf hZ e38 E_POINT
                    obtain ⟨_, _, ⟨T57, L57, k57, n57⟩, -, X57, ⟨Lc57, hQ57, l57, y57, z57⟩, st57⟩ := X38.virtualBack hx (y := (⟨"com/example/starquarry/starquarry/adql/CastType$Kind", "hasLength", "()Z"⟩ : MethodName)) (z := (⟨"com/example/starquarry/starquarry/adql/CastType$Kind", "hasLength", "()Z"⟩ : MethodName)) hown (mvT hZ (hw _ (List.mem_of_getElem? (i := 8) rfl))) (mvT hZ (hw _ (List.mem_of_getElem? (i := 9) rfl))) (notFace_of_selects (args := #[]) (mvT hZ (hw _ (List.mem_of_getElem? (i := 11) rfl)))) (mvT hZ (hw _ (List.mem_of_getElem? (i := 11) rfl))) (mvT hZ (hw _ (List.mem_of_getElem? (i := 10) rfl))) (by decide) (backOf (W := 0) (rm_has l Z a0' hw [] w_POINT w_CHAR w_VARCHAR h0 n0 Z0 S_CHAR S_VARCHAR) hZ (hw _ (List.mem_of_getElem? (i := 12) rfl)) (hw _ (List.mem_of_getElem? (i := 6) rfl)) (by decide) (by decide)) q57a q57c (g := (mkF m 31 #[.val (.int p0), .val (.int ((p0 &&& (2147483647 : Int32)) % (11 : Int32))), .val (.ref w_POINT), .val (.int (0 : Int32))] [(.ref w_POINT)])) rfl (by rw [hml]; rfl) (Steps.refl _) (argsL := []) (rest := []) (lenOf own_pd1 rfl) rfl (by show 2 * 0 + _ ≤ _; exact Nat.le_of_eq rfl) (hb hby at_31) (fun _ _ => ⟨rfl, e38, (by decide : 0 + 0 ≤ _), (by decide : 0 + 0 ≤ _)⟩)
                    dsimp only [Pt.U, Pt.locs, Pt.cells, Pt.slots] at X57 l57 y57 z57 st57 hQ57
                    subst l57 y57 z57
                    obtain ⟨rfl, N57q, e57⟩ := hQ57
                    have N57 := Fr.app N38 N57q
                    have q57 : (F_has w_POINT w_CHAR w_VARCHAR) = (0 : Int32) := by rw [F_has, if_neg ne_POINT_CHAR, if_neg ne_POINT_VARCHAR]
                    rw [q57] at st57
                    obtain ⟨fs, hr, hrun, hended, hW, hsame⟩ := X57.leave (v := some (.int (1 : Int32))) (fun h => by rw [Bd.returns] at h; cases h)
                    refine ⟨_, _, pre39 _ ?_, hrun, hended, _, _, rfl, ?_, ⟨_, rfl⟩, hW, hsame.mono (by decide) (by decide)⟩
                    · show Steps p.tables e below (s₁.setTop (mkF m 9 #[.val (.int p0), .val (.int ((p0 &&& (2147483647 : Int32)) % (11 : Int32))), .unset, .unset] [(.int ((p0 &&& (2147483647 : Int32)) % (11 : Int32)))])) _
                      refine st38 _ ?_
                      show Steps p.tables e below (T38.setTop (mkF m 12 #[.val (.int p0), .val (.int ((p0 &&& (2147483647 : Int32)) % (11 : Int32))), .unset, .unset] [(.ref w_POINT)])) _
                      refine XS.astoreN X38.here hx rfl (hb hby at_12) rfl rfl (l' := #[.val (.int p0), .val (.int ((p0 &&& (2147483647 : Int32)) % (11 : Int32))), .val (.ref w_POINT), .unset]) rfl ?_
                      show Steps p.tables e below (T38.setTop (mkF m 13 #[.val (.int p0), .val (.int ((p0 &&& (2147483647 : Int32)) % (11 : Int32))), .val (.ref w_POINT), .unset] [])) _
                      refine XS.iloadN X38.here hx rfl (hb hby at_13) rfl ?_
                      show Steps p.tables e below (T38.setTop (mkF m 14 #[.val (.int p0), .val (.int ((p0 &&& (2147483647 : Int32)) % (11 : Int32))), .val (.ref w_POINT), .unset] [(.int ((p0 &&& (2147483647 : Int32)) % (11 : Int32)))])) _
                      refine XS.iconst X38.here hx rfl (hb hby at_14) ?_
                      show Steps p.tables e below (T38.setTop (mkF m 15 #[.val (.int p0), .val (.int ((p0 &&& (2147483647 : Int32)) % (11 : Int32))), .val (.ref w_POINT), .unset] [(.int (5 : Int32)), (.int ((p0 &&& (2147483647 : Int32)) % (11 : Int32)))])) _
                      refine XS.icmpNo X38.here hx rfl (hb hby at_15) rfl (feq hs_50).1 ?_
                      show Steps p.tables e below (T38.setTop (mkF m 18 #[.val (.int p0), .val (.int ((p0 &&& (2147483647 : Int32)) % (11 : Int32))), .val (.ref w_POINT), .unset] [])) _
                      refine XS.iloadN X38.here hx rfl (hb hby at_18) rfl ?_
                      show Steps p.tables e below (T38.setTop (mkF m 19 #[.val (.int p0), .val (.int ((p0 &&& (2147483647 : Int32)) % (11 : Int32))), .val (.ref w_POINT), .unset] [(.int ((p0 &&& (2147483647 : Int32)) % (11 : Int32)))])) _
                      refine XS.bipush X38.here hx rfl (hb hby at_19) ?_
                      show Steps p.tables e below (T38.setTop (mkF m 21 #[.val (.int p0), .val (.int ((p0 &&& (2147483647 : Int32)) % (11 : Int32))), .val (.ref w_POINT), .unset] [(.int (6 : Int32)), (.int ((p0 &&& (2147483647 : Int32)) % (11 : Int32)))])) _
                      refine XS.icmpYes X38.here hx rfl (pc0 := 21) (pc' := 28) rfl (hb hby at_21) rfl (feq hs_52).2 (by decide) (by decide) ?_
                      show Steps p.tables e below (T38.setTop (mkF m 28 #[.val (.int p0), .val (.int ((p0 &&& (2147483647 : Int32)) % (11 : Int32))), .val (.ref w_POINT), .unset] [])) _
                      refine XS.iconst X38.here hx rfl (hb hby at_28) ?_
                      show Steps p.tables e below (T38.setTop (mkF m 29 #[.val (.int p0), .val (.int ((p0 &&& (2147483647 : Int32)) % (11 : Int32))), .val (.ref w_POINT), .unset] [(.int (0 : Int32))])) _
                      refine XS.istoreN X38.here hx rfl (hb hby at_29) rfl (l' := #[.val (.int p0), .val (.int ((p0 &&& (2147483647 : Int32)) % (11 : Int32))), .val (.ref w_POINT), .val (.int (0 : Int32))]) rfl ?_
                      show Steps p.tables e below (T38.setTop (mkF m 30 #[.val (.int p0), .val (.int ((p0 &&& (2147483647 : Int32)) % (11 : Int32))), .val (.ref w_POINT), .val (.int (0 : Int32))] [])) _
                      refine XS.aloadN X38.here hx rfl (hb hby at_30) rfl rfl ?_
                      show Steps p.tables e below (T38.setTop (mkF m 31 #[.val (.int p0), .val (.int ((p0 &&& (2147483647 : Int32)) % (11 : Int32))), .val (.ref w_POINT), .val (.int (0 : Int32))] [(.ref w_POINT)])) _
                      refine st57.trans ?_
                      show Steps p.tables e below (T57.setTop (mkF m 34 #[.val (.int p0), .val (.int ((p0 &&& (2147483647 : Int32)) % (11 : Int32))), .val (.ref w_POINT), .val (.int (0 : Int32))] [(.int (0 : Int32))])) _
                      refine XS.iloadN X57.here hx rfl (hb hby at_34) rfl ?_
                      show Steps p.tables e below (T57.setTop (mkF m 35 #[.val (.int p0), .val (.int ((p0 &&& (2147483647 : Int32)) % (11 : Int32))), .val (.ref w_POINT), .val (.int (0 : Int32))] [(.int (0 : Int32)), (.int (0 : Int32))])) _
                      refine XS.icmpNo X57.here hx rfl (hb hby at_35) rfl (teq (by decide : (0 : Int32) = (0 : Int32))).2 ?_
                      show Steps p.tables e below (T57.setTop (mkF m 38 #[.val (.int p0), .val (.int ((p0 &&& (2147483647 : Int32)) % (11 : Int32))), .val (.ref w_POINT), .val (.int (0 : Int32))] [])) _
                      refine XS.iconst X57.here hx rfl (hb hby at_38) ?_
                      show Steps p.tables e below (T57.setTop (mkF m 39 #[.val (.int p0), .val (.int ((p0 &&& (2147483647 : Int32)) % (11 : Int32))), .val (.ref w_POINT), .val (.int (0 : Int32))] [(.int (1 : Int32))])) _
                      refine XS.goto X57.here hx rfl (pc0 := 39) (pc' := 43) rfl (hb hby at_39) (by decide) (by decide) ?_
                      show Steps p.tables e below (T57.setTop (mkF m 43 #[.val (.int p0), .val (.int ((p0 &&& (2147483647 : Int32)) % (11 : Int32))), .val (.ref w_POINT), .val (.int (0 : Int32))] [(.int (1 : Int32))])) _
                      exact retN X57 hx (t := .boolean) Bd.returns (by simp) (hb hby at_43) hr
                    · show Q_law Z p0 w_SMALLINT w_INTEGER w_BIGINT w_REAL w_DOUBLE_PRECISION w_CHAR w_VARCHAR w_TIMESTAMP w_POINT w_CIRCLE w_POLYGON h0 n0 _ T57.heap _
                      refine ⟨?_, N57, trivial⟩
                      rw [F_law, if_neg hs_40, if_neg hs_42, if_neg hs_44, if_neg hs_46, if_neg hs_48, if_neg hs_50, if_neg hs_52, if_neg hs_54, if_pos hs_56]
                  · by_cases hs_58 : ((p0 &&& (2147483647 : Int32)) % (11 : Int32)) = (9 : Int32)
                    · have q38 : (F_pick ((p0 &&& (2147483647 : Int32)) % (11 : Int32)) w_SMALLINT w_INTEGER w_BIGINT w_REAL w_DOUBLE_PRECISION w_CHAR w_VARCHAR w_TIMESTAMP w_POINT w_CIRCLE w_POLYGON) = w_CIRCLE := by rw [F_pick, if_neg hs_40, if_neg hs_42, if_neg hs_44, if_neg hs_46, if_neg hs_48, if_neg hs_50, if_neg hs_52, if_neg hs_54, if_neg hs_56, if_pos hs_58]
                      rw [q38] at st38
                      obtain ⟨cq59, kq59, q59a, q59b, q59c⟩ := isOf hZ e38 E_CIRCLE
                      obtain ⟨_, _, ⟨T59, L59, k59, n59⟩, -, X59, ⟨Lc59, hQ59, l59, y59, z59⟩, st59⟩ := X38.virtualBack hx (y := (⟨"com/example/starquarry/starquarry/adql/CastType$Kind", "hasLength", "()Z"⟩ : MethodName)) (z := (⟨"com/example/starquarry/starquarry/adql/CastType$Kind", "hasLength", "()Z"⟩ : MethodName)) hown (mvT hZ (hw _ (List.mem_of_getElem? (i := 8) rfl))) (mvT hZ (hw _ (List.mem_of_getElem? (i := 9) rfl))) (notFace_of_selects (args := #[]) (mvT hZ (hw _ (List.mem_of_getElem? (i := 11) rfl)))) (mvT hZ (hw _ (List.mem_of_getElem? (i := 11) rfl))) (mvT hZ (hw _ (List.mem_of_getElem? (i := 10) rfl))) (by decide) (backOf (W := 0) (rm_has l Z a0' hw [] w_CIRCLE w_CHAR w_VARCHAR h0 n0 Z0 S_CHAR S_VARCHAR) hZ (hw _ (List.mem_of_getElem? (i := 12) rfl)) (hw _ (List.mem_of_getElem? (i := 6) rfl)) (by decide) (by decide)) q59a q59c (g := (mkF m 31 #[.val (.int p0), .val (.int ((p0 &&& (2147483647 : Int32)) % (11 : Int32))), .val (.ref w_CIRCLE), .val (.int (0 : Int32))] [(.ref w_CIRCLE)])) rfl (by rw [hml]; rfl) (Steps.refl _) (argsL := []) (rest := []) (lenOf own_pd1 rfl) rfl (by show 2 * 0 + _ ≤ _; exact Nat.le_of_eq rfl) (hb hby at_31) (fun _ _ => ⟨rfl, e38, (by decide : 0 + 0 ≤ _), (by decide : 0 + 0 ≤ _)⟩)
                      dsimp only [Pt.U, Pt.locs, Pt.cells, Pt.slots] at X59 l59 y59 z59 st59 hQ59
                      subst l59 y59 z59
                      obtain ⟨rfl, N59q, e59⟩ := hQ59
                      have N59 := Fr.app N38 N59q
                      have q59 : (F_has w_CIRCLE w_CHAR w_VARCHAR) = (0 : Int32) := by rw [F_has, if_neg ne_CIRCLE_CHAR, if_neg ne_CIRCLE_VARCHAR]
                      rw [q59] at st59
                      obtain ⟨fs, hr, hrun, hended, hW, hsame⟩ := X59.leave (v := some (.int (1 : Int32))) (fun h => by rw [Bd.returns] at h; cases h)
                      refine ⟨_, _, pre39 _ ?_, hrun, hended, _, _, rfl, ?_, ⟨_, rfl⟩, hW, hsame.mono (by decide) (by decide)⟩
                      · show Steps p.tables e below (s₁.setTop (mkF m 9 #[.val (.int p0), .val (.int ((p0 &&& (2147483647 : Int32)) % (11 : Int32))), .unset, .unset] [(.int ((p0 &&& (2147483647 : Int32)) % (11 : Int32)))])) _
                        refine st38 _ ?_
                        show Steps p.tables e below (T38.setTop (mkF m 12 #[.val (.int p0), .val (.int ((p0 &&& (2147483647 : Int32)) % (11 : Int32))), .unset, .unset] [(.ref w_CIRCLE)])) _
                        refine XS.astoreN X38.here hx rfl (hb hby at_12) rfl rfl (l' := #[.val (.int p0), .val (.int ((p0 &&& (2147483647 : Int32)) % (11 : Int32))), .val (.ref w_CIRCLE), .unset]) rfl ?_
                        show Steps p.tables e below (T38.setTop (mkF m 13 #[.val (.int p0), .val (.int ((p0 &&& (2147483647 : Int32)) % (11 : Int32))), .val (.ref w_CIRCLE), .unset] [])) _
                        refine XS.iloadN X38.here hx rfl (hb hby at_13) rfl ?_
                        show Steps p.tables e below (T38.setTop (mkF m 14 #[.val (.int p0), .val (.int ((p0 &&& (2147483647 : Int32)) % (11 : Int32))), .val (.ref w_CIRCLE), .unset] [(.int ((p0 &&& (2147483647 : Int32)) % (11 : Int32)))])) _
                        refine XS.iconst X38.here hx rfl (hb hby at_14) ?_
                        show Steps p.tables e below (T38.setTop (mkF m 15 #[.val (.int p0), .val (.int ((p0 &&& (2147483647 : Int32)) % (11 : Int32))), .val (.ref w_CIRCLE), .unset] [(.int (5 : Int32)), (.int ((p0 &&& (2147483647 : Int32)) % (11 : Int32)))])) _
                        refine XS.icmpNo X38.here hx rfl (hb hby at_15) rfl (feq hs_50).1 ?_
                        show Steps p.tables e below (T38.setTop (mkF m 18 #[.val (.int p0), .val (.int ((p0 &&& (2147483647 : Int32)) % (11 : Int32))), .val (.ref w_CIRCLE), .unset] [])) _
                        refine XS.iloadN X38.here hx rfl (hb hby at_18) rfl ?_
                        show Steps p.tables e below (T38.setTop (mkF m 19 #[.val (.int p0), .val (.int ((p0 &&& (2147483647 : Int32)) % (11 : Int32))), .val (.ref w_CIRCLE), .unset] [(.int ((p0 &&& (2147483647 : Int32)) % (11 : Int32)))])) _
                        refine XS.bipush X38.here hx rfl (hb hby at_19) ?_
                        show Steps p.tables e below (T38.setTop (mkF m 21 #[.val (.int p0), .val (.int ((p0 &&& (2147483647 : Int32)) % (11 : Int32))), .val (.ref w_CIRCLE), .unset] [(.int (6 : Int32)), (.int ((p0 &&& (2147483647 : Int32)) % (11 : Int32)))])) _
                        refine XS.icmpYes X38.here hx rfl (pc0 := 21) (pc' := 28) rfl (hb hby at_21) rfl (feq hs_52).2 (by decide) (by decide) ?_
                        show Steps p.tables e below (T38.setTop (mkF m 28 #[.val (.int p0), .val (.int ((p0 &&& (2147483647 : Int32)) % (11 : Int32))), .val (.ref w_CIRCLE), .unset] [])) _
                        refine XS.iconst X38.here hx rfl (hb hby at_28) ?_
                        show Steps p.tables e below (T38.setTop (mkF m 29 #[.val (.int p0), .val (.int ((p0 &&& (2147483647 : Int32)) % (11 : Int32))), .val (.ref w_CIRCLE), .unset] [(.int (0 : Int32))])) _
                        refine XS.istoreN X38.here hx rfl (hb hby at_29) rfl (l' := #[.val (.int p0), .val (.int ((p0 &&& (2147483647 : Int32)) % (11 : Int32))), .val (.ref w_CIRCLE), .val (.int (0 : Int32))]) rfl ?_
                        show Steps p.tables e below (T38.setTop (mkF m 30 #[.val (.int p0), .val (.int ((p0 &&& (2147483647 : Int32)) % (11 : Int32))), .val (.ref w_CIRCLE), .val (.int (0 : Int32))] [])) _
                        refine XS.aloadN X38.here hx rfl (hb hby at_30) rfl rfl ?_
                        show Steps p.tables e below (T38.setTop (mkF m 31 #[.val (.int p0), .val (.int ((p0 &&& (2147483647 : Int32)) % (11 : Int32))), .val (.ref w_CIRCLE), .val (.int (0 : Int32))] [(.ref w_CIRCLE)])) _
                        refine st59.trans ?_
                        show Steps p.tables e below (T59.setTop (mkF m 34 #[.val (.int p0), .val (.int ((p0 &&& (2147483647 : Int32)) % (11 : Int32))), .val (.ref w_CIRCLE), .val (.int (0 : Int32))] [(.int (0 : Int32))])) _
                        refine XS.iloadN X59.here hx rfl (hb hby at_34) rfl ?_
                        show Steps p.tables e below (T59.setTop (mkF m 35 #[.val (.int p0), .val (.int ((p0 &&& (2147483647 : Int32)) % (11 : Int32))), .val (.ref w_CIRCLE), .val (.int (0 : Int32))] [(.int (0 : Int32)), (.int (0 : Int32))])) _
                        refine XS.icmpNo X59.here hx rfl (hb hby at_35) rfl (teq (by decide : (0 : Int32) = (0 : Int32))).2 ?_
                        show Steps p.tables e below (T59.setTop (mkF m 38 #[.val (.int p0), .val (.int ((p0 &&& (2147483647 : Int32)) % (11 : Int32))), .val (.ref w_CIRCLE), .val (.int (0 : Int32))] [])) _
                        refine XS.iconst X59.here hx rfl (hb hby at_38) ?_
                        show Steps p.tables e below (T59.setTop (mkF m 39 #[.val (.int p0), .val (.int ((p0 &&& (2147483647 : Int32)) % (11 : Int32))), .val (.ref w_CIRCLE), .val (.int (0 : Int32))] [(.int (1 : Int32))])) _
                        refine XS.goto X59.here hx rfl (pc0 := 39) (pc' := 43) rfl (hb hby at_39) (by decide) (by decide) ?_
                        show Steps p.tables e below (T59.setTop (mkF m 43 #[.val (.int p0), .val (.int ((p0 &&& (2147483647 : Int32)) % (11 : Int32))), .val (.ref w_CIRCLE), .val (.int (0 : Int32))] [(.int (1 : Int32))])) _
                        exact retN X59 hx (t := .boolean) Bd.returns (by simp) (hb hby at_43) hr
                      · show Q_law Z p0 w_SMALLINT w_INTEGER w_BIGINT w_REAL w_DOUBLE_PRECISION w_CHAR w_VARCHAR w_TIMESTAMP w_POINT w_CIRCLE w_POLYGON h0 n0 _ T59.heap _
                        refine ⟨?_, N59, trivial⟩
                        rw [F_law, if_neg hs_40, if_neg hs_42, if_neg hs_44, if_neg hs_46, if_neg hs_48, if_neg hs_50, if_neg hs_52, if_neg hs_54, if_neg hs_56, if_pos hs_58]
                    · have q38 : (F_pick ((p0 &&& (2147483647 : Int32)) % (11 : Int32)) w_SMALLINT w_INTEGER w_BIGINT w_REAL w_DOUBLE_PRECISION w_CHAR w_VARCHAR w_TIMESTAMP w_POINT w_CIRCLE w_POLYGON) = w_POLYGON := by rw [F_pick, if_neg hs_40, if_neg hs_42, if_neg hs_44, if_neg hs_46, if_neg hs_48, if_neg hs_50, if_neg hs_52, if_neg hs_54, if_neg hs_56, if_neg hs_58]
                      rw [q38] at st38
                      obtain ⟨cq60, kq60, q60a, q60b, q60c⟩ := isOf hZ e38 E_POLYGON
                      obtain ⟨_, _, ⟨T60, L60, k60, n60⟩, -, X60, ⟨Lc60, hQ60, l60, y60, z60⟩, st60⟩ := X38.virtualBack hx (y := (⟨"com/example/starquarry/starquarry/adql/CastType$Kind", "hasLength", "()Z"⟩ : MethodName)) (z := (⟨"com/example/starquarry/starquarry/adql/CastType$Kind", "hasLength", "()Z"⟩ : MethodName)) hown (mvT hZ (hw _ (List.mem_of_getElem? (i := 8) rfl))) (mvT hZ (hw _ (List.mem_of_getElem? (i := 9) rfl))) (notFace_of_selects (args := #[]) (mvT hZ (hw _ (List.mem_of_getElem? (i := 11) rfl)))) (mvT hZ (hw _ (List.mem_of_getElem? (i := 11) rfl))) (mvT hZ (hw _ (List.mem_of_getElem? (i := 10) rfl))) (by decide) (backOf (W := 0) (rm_has l Z a0' hw [] w_POLYGON w_CHAR w_VARCHAR h0 n0 Z0 S_CHAR S_VARCHAR) hZ (hw _ (List.mem_of_getElem? (i := 12) rfl)) (hw _ (List.mem_of_getElem? (i := 6) rfl)) (by decide) (by decide)) q60a q60c (g := (mkF m 31 #[.val (.int p0), .val (.int ((p0 &&& (2147483647 : Int32)) % (11 : Int32))), .val (.ref w_POLYGON), .val (.int (0 : Int32))] [(.ref w_POLYGON)])) rfl (by rw [hml]; rfl) (Steps.refl _) (argsL := []) (rest := []) (lenOf own_pd1 rfl) rfl (by show 2 * 0 + _ ≤ _; exact Nat.le_of_eq rfl) (hb hby at_31) (fun _ _ => ⟨rfl, e38, (by decide : 0 + 0 ≤ _), (by decide : 0 + 0 ≤ _)⟩)
                      dsimp only [Pt.U, Pt.locs, Pt.cells, Pt.slots] at X60 l60 y60 z60 st60 hQ60
                      subst l60 y60 z60
                      obtain ⟨rfl, N60q, e60⟩ := hQ60
                      have N60 := Fr.app N38 N60q
                      have q60 : (F_has w_POLYGON w_CHAR w_VARCHAR) = (0 : Int32) := by rw [F_has, if_neg ne_POLYGON_CHAR, if_neg ne_POLYGON_VARCHAR]
                      rw [q60] at st60
                      obtain ⟨fs, hr, hrun, hended, hW, hsame⟩ := X60.leave (v := some (.int (1 : Int32))) (fun h => by rw [Bd.returns] at h; cases h)
                      refine ⟨_, _, pre39 _ ?_, hrun, hended, _, _, rfl, ?_, ⟨_, rfl⟩, hW, hsame.mono (by decide) (by decide)⟩
                      · show Steps p.tables e below (s₁.setTop (mkF m 9 #[.val (.int p0), .val (.int ((p0 &&& (2147483647 : Int32)) % (11 : Int32))), .unset, .unset] [(.int ((p0 &&& (2147483647 : Int32)) % (11 : Int32)))])) _
                        refine st38 _ ?_
                        show Steps p.tables e below (T38.setTop (mkF m 12 #[.val (.int p0), .val (.int ((p0 &&& (2147483647 : Int32)) % (11 : Int32))), .unset, .unset] [(.ref w_POLYGON)])) _
                        refine XS.astoreN X38.here hx rfl (hb hby at_12) rfl rfl (l' := #[.val (.int p0), .val (.int ((p0 &&& (2147483647 : Int32)) % (11 : Int32))), .val (.ref w_POLYGON), .unset]) rfl ?_
                        show Steps p.tables e below (T38.setTop (mkF m 13 #[.val (.int p0), .val (.int ((p0 &&& (2147483647 : Int32)) % (11 : Int32))), .val (.ref w_POLYGON), .unset] [])) _
                        refine XS.iloadN X38.here hx rfl (hb hby at_13) rfl ?_
                        show Steps p.tables e below (T38.setTop (mkF m 14 #[.val (.int p0), .val (.int ((p0 &&& (2147483647 : Int32)) % (11 : Int32))), .val (.ref w_POLYGON), .unset] [(.int ((p0 &&& (2147483647 : Int32)) % (11 : Int32)))])) _
                        refine XS.iconst X38.here hx rfl (hb hby at_14) ?_
                        show Steps p.tables e below (T38.setTop (mkF m 15 #[.val (.int p0), .val (.int ((p0 &&& (2147483647 : Int32)) % (11 : Int32))), .val (.ref w_POLYGON), .unset] [(.int (5 : Int32)), (.int ((p0 &&& (2147483647 : Int32)) % (11 : Int32)))])) _
                        refine XS.icmpNo X38.here hx rfl (hb hby at_15) rfl (feq hs_50).1 ?_
                        show Steps p.tables e below (T38.setTop (mkF m 18 #[.val (.int p0), .val (.int ((p0 &&& (2147483647 : Int32)) % (11 : Int32))), .val (.ref w_POLYGON), .unset] [])) _
                        refine XS.iloadN X38.here hx rfl (hb hby at_18) rfl ?_
                        show Steps p.tables e below (T38.setTop (mkF m 19 #[.val (.int p0), .val (.int ((p0 &&& (2147483647 : Int32)) % (11 : Int32))), .val (.ref w_POLYGON), .unset] [(.int ((p0 &&& (2147483647 : Int32)) % (11 : Int32)))])) _
                        refine XS.bipush X38.here hx rfl (hb hby at_19) ?_
                        show Steps p.tables e below (T38.setTop (mkF m 21 #[.val (.int p0), .val (.int ((p0 &&& (2147483647 : Int32)) % (11 : Int32))), .val (.ref w_POLYGON), .unset] [(.int (6 : Int32)), (.int ((p0 &&& (2147483647 : Int32)) % (11 : Int32)))])) _
                        refine XS.icmpYes X38.here hx rfl (pc0 := 21) (pc' := 28) rfl (hb hby at_21) rfl (feq hs_52).2 (by decide) (by decide) ?_
                        show Steps p.tables e below (T38.setTop (mkF m 28 #[.val (.int p0), .val (.int ((p0 &&& (2147483647 : Int32)) % (11 : Int32))), .val (.ref w_POLYGON), .unset] [])) _
                        refine XS.iconst X38.here hx rfl (hb hby at_28) ?_
                        show Steps p.tables e below (T38.setTop (mkF m 29 #[.val (.int p0), .val (.int ((p0 &&& (2147483647 : Int32)) % (11 : Int32))), .val (.ref w_POLYGON), .unset] [(.int (0 : Int32))])) _
                        refine XS.istoreN X38.here hx rfl (hb hby at_29) rfl (l' := #[.val (.int p0), .val (.int ((p0 &&& (2147483647 : Int32)) % (11 : Int32))), .val (.ref w_POLYGON), .val (.int (0 : Int32))]) rfl ?_
                        show Steps p.tables e below (T38.setTop (mkF m 30 #[.val (.int p0), .val (.int ((p0 &&& (2147483647 : Int32)) % (11 : Int32))), .val (.ref w_POLYGON), .val (.int (0 : Int32))] [])) _
                        refine XS.aloadN X38.here hx rfl (hb hby at_30) rfl rfl ?_
                        show Steps p.tables e below (T38.setTop (mkF m 31 #[.val (.int p0), .val (.int ((p0 &&& (2147483647 : Int32)) % (11 : Int32))), .val (.ref w_POLYGON), .val (.int (0 : Int32))] [(.ref w_POLYGON)])) _
                        refine st60.trans ?_
                        show Steps p.tables e below (T60.setTop (mkF m 34 #[.val (.int p0), .val (.int ((p0 &&& (2147483647 : Int32)) % (11 : Int32))), .val (.ref w_POLYGON), .val (.int (0 : Int32))] [(.int (0 : Int32))])) _
                        refine XS.iloadN X60.here hx rfl (hb hby at_34) rfl ?_
                        show Steps p.tables e below (T60.setTop (mkF m 35 #[.val (.int p0), .val (.int ((p0 &&& (2147483647 : Int32)) % (11 : Int32))), .val (.ref w_POLYGON), .val (.int (0 : Int32))] [(.int (0 : Int32)), (.int (0 : Int32))])) _
                        refine XS.icmpNo X60.here hx rfl (hb hby at_35) rfl (teq (by decide : (0 : Int32) = (0 : Int32))).2 ?_
                        show Steps p.tables e below (T60.setTop (mkF m 38 #[.val (.int p0), .val (.int ((p0 &&& (2147483647 : Int32)) % (11 : Int32))), .val (.ref w_POLYGON), .val (.int (0 : Int32))] [])) _
                        refine XS.iconst X60.here hx rfl (hb hby at_38) ?_
                        show Steps p.tables e below (T60.setTop (mkF m 39 #[.val (.int p0), .val (.int ((p0 &&& (2147483647 : Int32)) % (11 : Int32))), .val (.ref w_POLYGON), .val (.int (0 : Int32))] [(.int (1 : Int32))])) _
                        refine XS.goto X60.here hx rfl (pc0 := 39) (pc' := 43) rfl (hb hby at_39) (by decide) (by decide) ?_
                        show Steps p.tables e below (T60.setTop (mkF m 43 #[.val (.int p0), .val (.int ((p0 &&& (2147483647 : Int32)) % (11 : Int32))), .val (.ref w_POLYGON), .val (.int (0 : Int32))] [(.int (1 : Int32))])) _
                        exact retN X60 hx (t := .boolean) Bd.returns (by simp) (hb hby at_43) hr
                      · show Q_law Z p0 w_SMALLINT w_INTEGER w_BIGINT w_REAL w_DOUBLE_PRECISION w_CHAR w_VARCHAR w_TIMESTAMP w_POINT w_CIRCLE w_POLYGON h0 n0 _ T60.heap _
                        refine ⟨?_, N60, trivial⟩
                        rw [F_law, if_neg hs_40, if_neg hs_42, if_neg hs_44, if_neg hs_46, if_neg hs_48, if_neg hs_50, if_neg hs_52, if_neg hs_54, if_neg hs_56, if_neg hs_58]
theorem own_law (p0 : Int32) : F_law p0 = 1 := by
  unfold F_law
  repeat' split
  all_goals rfl
set_option maxRecDepth 65536 in
set_option maxHeartbeats 40000000 in
theorem own_comes {Post : Tables → Env → Array Value → State → Outcome → State → Prop} (hpost : ∀ tb e args s v u, (limb_1_1.after args s (.returned v) u = true ∧ limb_1_2.after args s (.returned v) u = true ∧ True) → FrameEnd s (.returned v) u (Jvm.fieldLocs frame_1_writes args s ++ Jvm.arrayLocs frame_1_arrays args s ++ Jvm.staticLocs frame_1_statics s) 0 0 → Post tb e args s (.returned v) u) :
    ArmFor flags0 classFile x code maxLocals ret World_1 tables_1 room_1 Calls_1 rest_1 Pre_1 Post := by
  intro l hfl _ _ p e ha hc hk s m args below hf hA hF happ hP
  obtain ⟨hcalls, hrest, hpre⟩ := hP
  obtain ⟨-, -, -, hnamed, -, -, -, hat⟩ := (Spec.applies_iff hf).mp happ
  obtain ⟨hg, hn⟩ := and_e (Cond.before_iff.mp (show (Jvm.Cond.and given_1 narrow_1).before args s = true from hpre))
  obtain ⟨g1, g1'⟩ := and_e hg
  obtain ⟨g2, g2'⟩ := and_e hn
  obtain ⟨g3, g3'⟩ := and_e g2'
  obtain ⟨g4, g4'⟩ := and_e g3'
  obtain ⟨g5, g5'⟩ := and_e g4'
  obtain ⟨g6, g6'⟩ := and_e g5'
  obtain ⟨g7, g7'⟩ := and_e g6'
  obtain ⟨g8, g8'⟩ := and_e g7'
  obtain ⟨g9, g9'⟩ := and_e g8'
  obtain ⟨g10, g10'⟩ := and_e g9'
  obtain ⟨g11, g11'⟩ := and_e g10'
  obtain ⟨g12, g12'⟩ := and_e g11'
  obtain ⟨g13, g13'⟩ := and_e g12'
  obtain ⟨g14, g14'⟩ := and_e g13'
  obtain ⟨g15, g15'⟩ := and_e g14'
  obtain ⟨g16, g16'⟩ := and_e g15'
  obtain ⟨g17, g17'⟩ := and_e g16'
  obtain ⟨g18, g18'⟩ := and_e g17'
  obtain ⟨g19, g19'⟩ := and_e g18'
  obtain ⟨g20, g20'⟩ := and_e g19'
  obtain ⟨g21, g21'⟩ := and_e g20'
  obtain ⟨g22, g22'⟩ := and_e g21'
  obtain ⟨u0, rfl⟩ : ∃ u0 : Value, args = #[u0] := by
    have hs : args.size = 1 := by simpa [Cond.value, given_1] using g1
    obtain ⟨L⟩ := args
    match L, hs with
    | [u0], _ => exact ⟨u0, rfl⟩
  have hw := fun d (hd : d ∈ tables_1) => atoms_spec (ws := Jvm.Cond.code x code maxLocals ret :: tables_1) hat d (List.mem_cons_of_mem _ hd)
  obtain ⟨i0, ei0⟩ := is_v g1'
  obtain rfl : u0 = (.int i0) := Option.some.inj ei0
  obtain ⟨w_SMALLINT, ev_SMALLINT⟩ := exa_v g2
  have E_SMALLINT := Exa.start ev_SMALLINT g2
  have S_SMALLINT := Sta.start ev_SMALLINT (Or.inr ⟨(hw _ (List.mem_of_getElem? (i := 6) rfl)), (hw _ (List.mem_of_getElem? (i := 7) rfl))⟩)
  obtain ⟨w_CHAR, ev_CHAR⟩ := exa_v g3
  have E_CHAR := Exa.start ev_CHAR g3
  have S_CHAR := Sta.start ev_CHAR (Or.inr ⟨(hw _ (List.mem_of_getElem? (i := 6) rfl)), (hw _ (List.mem_of_getElem? (i := 14) rfl))⟩)
  obtain ⟨w_VARCHAR, ev_VARCHAR⟩ := exa_v g6
  have E_VARCHAR := Exa.start ev_VARCHAR g6
  have S_VARCHAR := Sta.start ev_VARCHAR (Or.inr ⟨(hw _ (List.mem_of_getElem? (i := 6) rfl)), (hw _ (List.mem_of_getElem? (i := 16) rfl))⟩)
  obtain ⟨w_REAL, ev_REAL⟩ := exa_v g8
  have E_REAL := Exa.start ev_REAL g8
  have S_REAL := Sta.start ev_REAL (Or.inr ⟨(hw _ (List.mem_of_getElem? (i := 6) rfl)), (hw _ (List.mem_of_getElem? (i := 18) rfl))⟩)
  obtain ⟨w_TIMESTAMP, ev_TIMESTAMP⟩ := exa_v g10
  have E_TIMESTAMP := Exa.start ev_TIMESTAMP g10
  have S_TIMESTAMP := Sta.start ev_TIMESTAMP (Or.inr ⟨(hw _ (List.mem_of_getElem? (i := 6) rfl)), (hw _ (List.mem_of_getElem? (i := 20) rfl))⟩)
  obtain ⟨w_POINT, ev_POINT⟩ := exa_v g12
  have E_POINT := Exa.start ev_POINT g12
  have S_POINT := Sta.start ev_POINT (Or.inr ⟨(hw _ (List.mem_of_getElem? (i := 6) rfl)), (hw _ (List.mem_of_getElem? (i := 22) rfl))⟩)
  obtain ⟨w_BIGINT, ev_BIGINT⟩ := exa_v g14
  have E_BIGINT := Exa.start ev_BIGINT g14
  have S_BIGINT := Sta.start ev_BIGINT (Or.inr ⟨(hw _ (List.mem_of_getElem? (i := 6) rfl)), (hw _ (List.mem_of_getElem? (i := 24) rfl))⟩)
  obtain ⟨w_POLYGON, ev_POLYGON⟩ := exa_v g16
  have E_POLYGON := Exa.start ev_POLYGON g16
  have S_POLYGON := Sta.start ev_POLYGON (Or.inr ⟨(hw _ (List.mem_of_getElem? (i := 6) rfl)), (hw _ (List.mem_of_getElem? (i := 26) rfl))⟩)
  obtain ⟨w_INTEGER, ev_INTEGER⟩ := exa_v g18
  have E_INTEGER := Exa.start ev_INTEGER g18
  have S_INTEGER := Sta.start ev_INTEGER (Or.inr ⟨(hw _ (List.mem_of_getElem? (i := 6) rfl)), (hw _ (List.mem_of_getElem? (i := 28) rfl))⟩)
  obtain ⟨w_CIRCLE, ev_CIRCLE⟩ := exa_v g20
  have E_CIRCLE := Exa.start ev_CIRCLE g20
  have S_CIRCLE := Sta.start ev_CIRCLE (Or.inr ⟨(hw _ (List.mem_of_getElem? (i := 6) rfl)), (hw _ (List.mem_of_getElem? (i := 30) rfl))⟩)
  obtain ⟨w_DOUBLE_PRECISION, ev_DOUBLE_PRECISION⟩ := exa_v g22
  have E_DOUBLE_PRECISION := Exa.start ev_DOUBLE_PRECISION g22
  have S_DOUBLE_PRECISION := Sta.start ev_DOUBLE_PRECISION (Or.inr ⟨(hw _ (List.mem_of_getElem? (i := 6) rfl)), (hw _ (List.mem_of_getElem? (i := 34) rfl))⟩)
  have o_SMALLINT := (fld_at ev_SMALLINT).symm.trans (own_eqk g4)
  have o_CHAR := (fld_at ev_CHAR).symm.trans (own_eqk g5)
  have o_VARCHAR := (fld_at ev_VARCHAR).symm.trans (own_eqk g7)
  have o_REAL := (fld_at ev_REAL).symm.trans (own_eqk g9)
  have o_TIMESTAMP := (fld_at ev_TIMESTAMP).symm.trans (own_eqk g11)
  have o_POINT := (fld_at ev_POINT).symm.trans (own_eqk g13)
  have o_BIGINT := (fld_at ev_BIGINT).symm.trans (own_eqk g15)
  have o_POLYGON := (fld_at ev_POLYGON).symm.trans (own_eqk g17)
  have o_INTEGER := (fld_at ev_INTEGER).symm.trans (own_eqk g19)
  have o_CIRCLE := (fld_at ev_CIRCLE).symm.trans (own_eqk g21)
  have o_DOUBLE_PRECISION := (fld_at ev_DOUBLE_PRECISION).symm.trans (own_eqk g22')
  have ne_SMALLINT_CHAR : ¬ (w_SMALLINT = w_CHAR) := fun q => by
    have q2 : s.fieldOf? w_SMALLINT "java/lang/Enum" "ordinal" "I" = s.fieldOf? w_CHAR "java/lang/Enum" "ordinal" "I" := by rw [q]
    rw [o_SMALLINT, o_CHAR] at q2
    simp at q2
  have ne_SMALLINT_VARCHAR : ¬ (w_SMALLINT = w_VARCHAR) := fun q => by
    have q2 : s.fieldOf? w_SMALLINT "java/lang/Enum" "ordinal" "I" = s.fieldOf? w_VARCHAR "java/lang/Enum" "ordinal" "I" := by rw [q]
    rw [o_SMALLINT, o_VARCHAR] at q2
    simp at q2
  have ne_INTEGER_CHAR : ¬ (w_INTEGER = w_CHAR) := fun q => by
    have q2 : s.fieldOf? w_INTEGER "java/lang/Enum" "ordinal" "I" = s.fieldOf? w_CHAR "java/lang/Enum" "ordinal" "I" := by rw [q]
    rw [o_INTEGER, o_CHAR] at q2
    simp at q2
  have ne_INTEGER_VARCHAR : ¬ (w_INTEGER = w_VARCHAR) := fun q => by
    have q2 : s.fieldOf? w_INTEGER "java/lang/Enum" "ordinal" "I" = s.fieldOf? w_VARCHAR "java/lang/Enum" "ordinal" "I" := by rw [q]
    rw [o_INTEGER, o_VARCHAR] at q2
    simp at q2
  have ne_BIGINT_CHAR : ¬ (w_BIGINT = w_CHAR) := fun q => by
    have q2 : s.fieldOf? w_BIGINT "java/lang/Enum" "ordinal" "I" = s.fieldOf? w_CHAR "java/lang/Enum" "ordinal" "I" := by rw [q]
    rw [o_BIGINT, o_CHAR] at q2
    simp at q2
  have ne_BIGINT_VARCHAR : ¬ (w_BIGINT = w_VARCHAR) := fun q => by
    have q2 : s.fieldOf? w_BIGINT "java/lang/Enum" "ordinal" "I" = s.fieldOf? w_VARCHAR "java/lang/Enum" "ordinal" "I" := by rw [q]
    rw [o_BIGINT, o_VARCHAR] at q2
    simp at q2
  have ne_REAL_CHAR : ¬ (w_REAL = w_CHAR) := fun q => by
    have q2 : s.fieldOf? w_REAL "java/lang/Enum" "ordinal" "I" = s.fieldOf? w_CHAR "java/lang/Enum" "ordinal" "I" := by rw [q]
    rw [o_REAL, o_CHAR] at q2
    simp at q2
  have ne_REAL_VARCHAR : ¬ (w_REAL = w_VARCHAR) := fun q => by
    have q2 : s.fieldOf? w_REAL "java/lang/Enum" "ordinal" "I" = s.fieldOf? w_VARCHAR "java/lang/Enum" "ordinal" "I" := by rw [q]
    rw [o_REAL, o_VARCHAR] at q2
    simp at q2
  have ne_DOUBLE_PRECISION_CHAR : ¬ (w_DOUBLE_PRECISION = w_CHAR) := fun q => by
    have q2 : s.fieldOf? w_DOUBLE_PRECISION "java/lang/Enum" "ordinal" "I" = s.fieldOf? w_CHAR "java/lang/Enum" "ordinal" "I" := by rw [q]
    rw [o_DOUBLE_PRECISION, o_CHAR] at q2
    simp at q2
  have ne_DOUBLE_PRECISION_VARCHAR : ¬ (w_DOUBLE_PRECISION = w_VARCHAR) := fun q => by
    have q2 : s.fieldOf? w_DOUBLE_PRECISION "java/lang/Enum" "ordinal" "I" = s.fieldOf? w_VARCHAR "java/lang/Enum" "ordinal" "I" := by rw [q]
    rw [o_DOUBLE_PRECISION, o_VARCHAR] at q2
    simp at q2
  have ne_VARCHAR_CHAR : ¬ (w_VARCHAR = w_CHAR) := fun q => by
    have q2 : s.fieldOf? w_VARCHAR "java/lang/Enum" "ordinal" "I" = s.fieldOf? w_CHAR "java/lang/Enum" "ordinal" "I" := by rw [q]
    rw [o_VARCHAR, o_CHAR] at q2
    simp at q2
  have ne_TIMESTAMP_CHAR : ¬ (w_TIMESTAMP = w_CHAR) := fun q => by
    have q2 : s.fieldOf? w_TIMESTAMP "java/lang/Enum" "ordinal" "I" = s.fieldOf? w_CHAR "java/lang/Enum" "ordinal" "I" := by rw [q]
    rw [o_TIMESTAMP, o_CHAR] at q2
    simp at q2
  have ne_TIMESTAMP_VARCHAR : ¬ (w_TIMESTAMP = w_VARCHAR) := fun q => by
    have q2 : s.fieldOf? w_TIMESTAMP "java/lang/Enum" "ordinal" "I" = s.fieldOf? w_VARCHAR "java/lang/Enum" "ordinal" "I" := by rw [q]
    rw [o_TIMESTAMP, o_VARCHAR] at q2
    simp at q2
  have ne_POINT_CHAR : ¬ (w_POINT = w_CHAR) := fun q => by
    have q2 : s.fieldOf? w_POINT "java/lang/Enum" "ordinal" "I" = s.fieldOf? w_CHAR "java/lang/Enum" "ordinal" "I" := by rw [q]
    rw [o_POINT, o_CHAR] at q2
    simp at q2
  have ne_POINT_VARCHAR : ¬ (w_POINT = w_VARCHAR) := fun q => by
    have q2 : s.fieldOf? w_POINT "java/lang/Enum" "ordinal" "I" = s.fieldOf? w_VARCHAR "java/lang/Enum" "ordinal" "I" := by rw [q]
    rw [o_POINT, o_VARCHAR] at q2
    simp at q2
  have ne_CIRCLE_CHAR : ¬ (w_CIRCLE = w_CHAR) := fun q => by
    have q2 : s.fieldOf? w_CIRCLE "java/lang/Enum" "ordinal" "I" = s.fieldOf? w_CHAR "java/lang/Enum" "ordinal" "I" := by rw [q]
    rw [o_CIRCLE, o_CHAR] at q2
    simp at q2
  have ne_CIRCLE_VARCHAR : ¬ (w_CIRCLE = w_VARCHAR) := fun q => by
    have q2 : s.fieldOf? w_CIRCLE "java/lang/Enum" "ordinal" "I" = s.fieldOf? w_VARCHAR "java/lang/Enum" "ordinal" "I" := by rw [q]
    rw [o_CIRCLE, o_VARCHAR] at q2
    simp at q2
  have ne_POLYGON_CHAR : ¬ (w_POLYGON = w_CHAR) := fun q => by
    have q2 : s.fieldOf? w_POLYGON "java/lang/Enum" "ordinal" "I" = s.fieldOf? w_CHAR "java/lang/Enum" "ordinal" "I" := by rw [q]
    rw [o_POLYGON, o_CHAR] at q2
    simp at q2
  have ne_POLYGON_VARCHAR : ¬ (w_POLYGON = w_VARCHAR) := fun q => by
    have q2 : s.fieldOf? w_POLYGON "java/lang/Enum" "ordinal" "I" = s.fieldOf? w_VARCHAR "java/lang/Enum" "ordinal" "I" := by rw [q]
    rw [o_POLYGON, o_VARCHAR] at q2
    simp at q2
  have hlaw := own_law i0
  obtain ⟨n, o, h1, h2, h3, v, L, rfl, ⟨hv, N, -⟩, hq⟩ := rm_law l s _ hw tables_1 i0 w_SMALLINT w_INTEGER w_BIGINT w_REAL w_DOUBLE_PRECISION w_CHAR w_VARCHAR w_TIMESTAMP w_POINT w_CIRCLE w_POLYGON s.heap s.heap.size (Nat.le_refl _) S_SMALLINT E_SMALLINT S_INTEGER E_INTEGER S_BIGINT E_BIGINT S_REAL E_REAL S_DOUBLE_PRECISION E_DOUBLE_PRECISION S_CHAR E_CHAR S_VARCHAR E_VARCHAR S_TIMESTAMP E_TIMESTAMP S_POINT E_POINT S_CIRCLE E_CIRCLE S_POLYGON E_POLYGON ne_SMALLINT_CHAR ne_SMALLINT_VARCHAR ne_INTEGER_CHAR ne_INTEGER_VARCHAR ne_BIGINT_CHAR ne_BIGINT_VARCHAR ne_REAL_CHAR ne_REAL_VARCHAR ne_DOUBLE_PRECISION_CHAR ne_DOUBLE_PRECISION_VARCHAR ne_VARCHAR_CHAR ne_TIMESTAMP_CHAR ne_TIMESTAMP_VARCHAR ne_POINT_CHAR ne_POINT_VARCHAR ne_CIRCLE_CHAR ne_CIRCLE_VARCHAR ne_POLYGON_CHAR ne_POLYGON_VARCHAR p e ha hc hk s m _ below hf ((Spec.applies_iff_loose hf).mp happ).1 ⟨rfl, State.Warmed39.refl s, rfl⟩ trivial
  rw [hlaw] at hv
  subst hv
  refine ⟨n, _, h1, h2, h3, hpost _ _ _ _ _ _ ⟨Cond.after_iff.mpr rfl, Cond.after_iff.mpr (eq_i res_at (Term.int_eval (1)) rfl), trivial⟩ ⟨hq.1, hq.2.1, (hq.2.2.sift fun y hy => Or.inr (N y hy)).mono (by decide) (by decide)⟩⟩
theorem main_1_1 : Claimed_1_1 := own_comes fun _ _ _ _ _ _ h hF => ⟨h.1, hF⟩
theorem main_1_2 : Claimed_1_2 := own_comes fun _ _ _ _ _ _ h hF => ⟨h.2.1, hF⟩
end Jvm.Pilot.@@N@@
namespace Jvm.Pilot.@@N@@
open Jvm Jvm.ClassFile Sem Op Lib Jvm.Free Jvm.Stand Jvm.Pilot.@@N@@.Jvm.D
/-! MADE BY PROGRAM (witnessworld.py) out of the Statement's table words and the real class files: 12 classes; the members and pool entries that the words name. The judged class is class 1, her method 2. -/
namespace start1
open Jvm.ClassFile
def u (s : String) : CpInfo := .utf8 (stringToUtf16 s)
/-- a pool by its gaps: so many unusable entries, then the entry; so many at the end -/
def gap : Nat → List CpInfo → List CpInfo
  | 0, r => r
  | n + 1, r => .unusable :: gap n r
def poolList (es : List (Nat × CpInfo)) (last : Nat) : List CpInfo := es.foldr (fun e r => gap e.1 (e.2 :: r)) (gap last [])
def pool (es : List (Nat × CpInfo)) (last : Nat) : Array CpInfo := ⟨poolList es last⟩
def fileOf (pool : Array CpInfo) (this : Nat) (attrs : Array Attribute := #[]) (ms : Array MethodInfo := #[]) (fl : Nat := 33) (sup : Nat := 0) (ifs : Array Nat := #[]) (fds : Array FieldInfo := #[]) : ClassFile where
  minorVersion := 0
  majorVersion := 65
  constantPool := pool
  accessFlags := fl
  thisClass := this
  superClass := sup
  interfaces := ifs
  fields := fds
  methods := ms
  attributes := attrs
def plain (name : String) (sup : Option ClassId) : Class where
  name := name
  kind := .ordinary
  loader := none
  accessFlags := 33
  super := sup
  interfaces := #[]
  cf := none
  fields := #[]
  methods := #[]
  instanceTypes := #[]
  staticTypes := #[]
  resolved := #[]
  callSites := []
  init := .initialized
  statics := none
  mirror := none

def pool0 : Array CpInfo := pool [(5, u "<init>"), (0, u "()V"), (1, .class_ 10), (1, u "java/lang/Object")] 113

def k0m0 : Method := { name := "<init>", desc := "()V", sig := { parameters := [], returnType := none }, accessFlags := 1, code := none }
/-- java/lang/Object -/
def k0 : Class := { plain "java/lang/Object" none with
  accessFlags := 33
  interfaces := #[]
  cf := some (fileOf pool0 8 #[] #[{ accessFlags := 1, nameIndex := 5, descriptorIndex := 6, attributes := #[] }] 33 0 #[] #[])
  fields := #[]
  methods := #[k0m0]
  instanceTypes := #[]
  staticTypes := #[]
  resolved := Array.replicate 124 none
  statics := none }

def pool1 : Array CpInfo := pool [(2, .class_ 4), (1, u "java/lang/Object"), (0, u "<init>"), (0, u "()V"), (0, .fieldref 8 9), (0, .class_ 10), (0, .nameAndType 11 12), (0, u "com/example/starquarry/starquarry/adql/CastType$Kind"), (0, u "SMALLINT"), (0, u "Lcom/example/starquarry/starquarry/adql/CastType$Kind;"), (0, .fieldref 8 14), (0, .nameAndType 15 12), (0, u "INTEGER"), (0, .fieldref 8 17), (0, .nameAndType 18 12), (0, u "BIGINT"), (0, .fieldref 8 20), (0, .nameAndType 21 12), (0, u "REAL"), (0, .fieldref 8 23), (0, .nameAndType 24 12), (0, u "DOUBLE_PRECISION"), (0, .fieldref 8 26), (0, .nameAndType 27 12), (0, u "CHAR"), (0, .fieldref 8 29), (0, .nameAndType 30 12), (0, u "VARCHAR"), (0, .fieldref 8 32), (0, .nameAndType 33 12), (0, u "TIMESTAMP"), (0, .fieldref 8 35), (0, .nameAndType 36 12), (0, u "POINT"), (0, .fieldref 8 38), (0, .nameAndType 39 12), (0, u "CIRCLE"), (0, .fieldref 8 41), (0, .nameAndType 42 12), (0, u "POLYGON"), (0, .integer 2147483647), (0, .methodref 45 46), (0, .class_ 47), (0, .nameAndType 48 49), (0, u "com/example/starquarry/starquarry/adql/KindHasLengthPinLaw"), (0, u "pick"), (0, u "(I)Lcom/example/starquarry/starquarry/adql/CastType$Kind;"), (0, .methodref 8 51), (0, .nameAndType 52 53), (0, u "hasLength"), (0, u "()Z"), (3, u "law"), (0, u "(I)Z")] 6

def k1m0 : Method := { name := "<init>", desc := "()V", sig := { parameters := [], returnType := none }, accessFlags := 1, code := none }
def k1c1 : Code := { maxStack := 2, maxLocals := 1, code := method_2_code, exceptionTable := #[], attributes := #[] }
def k1m1 : Method := { name := "pick", desc := "(I)Lcom/example/starquarry/starquarry/adql/CastType$Kind;", sig := { parameters := [.int], returnType := some (.object "com/example/starquarry/starquarry/adql/CastType$Kind") }, accessFlags := 10, code := some k1c1 }
def k1c2 : Code := { maxStack := 2, maxLocals := 4, code := code, exceptionTable := #[], attributes := #[] }
def k1m2 : Method := { name := "law", desc := "(I)Z", sig := { parameters := [.int], returnType := some .boolean }, accessFlags := 9, code := some k1c2 }
/-- com/example/starquarry/starquarry/adql/KindHasLengthPinLaw -/
def k1 : Class := { plain "com/example/starquarry/starquarry/adql/KindHasLengthPinLaw" (some 0) with
  accessFlags := 49
  interfaces := #[]
  cf := some (fileOf pool1 45 #[] #[{ accessFlags := 1, nameIndex := 5, descriptorIndex := 6, attributes := #[] }, { accessFlags := 10, nameIndex := 48, descriptorIndex := 49, attributes := #[] }, { accessFlags := 9, nameIndex := 57, descriptorIndex := 58, attributes := #[] }] 49 2 #[] #[])
  fields := #[]
  methods := #[k1m0, k1m1, k1m2]
  instanceTypes := #[]
  staticTypes := #[]
  resolved := Array.replicate 65 none
  statics := none }

def pool2 : Array CpInfo := pool [(1, .class_ 2), (0, u "java/lang/constant/Constable"), (0, .class_ 4), (0, u "java/lang/Object")] 6

/-- java/lang/constant/Constable -/
def k2 : Class := { plain "java/lang/constant/Constable" (some 0) with
  accessFlags := 1537
  interfaces := #[]
  cf := some (fileOf pool2 1 #[] #[] 1537 3 #[] #[])
  fields := #[]
  methods := #[]
  instanceTypes := #[]
  staticTypes := #[]
  resolved := Array.replicate 11 none
  statics := none }

def pool3 : Array CpInfo := pool [(1, .class_ 2), (0, u "java/lang/Comparable"), (0, .class_ 4), (0, u "java/lang/Object")] 7

/-- java/lang/Comparable -/
def k3 : Class := { plain "java/lang/Comparable" (some 0) with
  accessFlags := 1537
  interfaces := #[]
  cf := some (fileOf pool3 1 #[] #[] 1537 3 #[] #[])
  fields := #[]
  methods := #[]
  instanceTypes := #[]
  staticTypes := #[]
  resolved := Array.replicate 12 none
  statics := none }

def pool4 : Array CpInfo := pool [(1, .class_ 2), (0, u "java/io/Serializable"), (0, .class_ 4), (0, u "java/lang/Object")] 2

/-- java/io/Serializable -/
def k4 : Class := { plain "java/io/Serializable" (some 0) with
  accessFlags := 1537
  interfaces := #[]
  cf := some (fileOf pool4 1 #[] #[] 1537 3 #[] #[])
  fields := #[]
  methods := #[]
  instanceTypes := #[]
  staticTypes := #[]
  resolved := Array.replicate 7 none
  statics := none }

def pool5 : Array CpInfo := pool [(2, .class_ 4), (1, u "java/lang/Enum"), (0, u "name"), (0, u "Ljava/lang/String;"), (2, u "ordinal"), (0, u "I"), (1, .class_ 14), (1, u "java/lang/Object"), (4, u "hash"), (86, .class_ 108), (1, u "java/lang/Enum$EnumDesc"), (2, .class_ 112), (0, u "java/lang/constant/Constable"), (0, .class_ 114), (0, u "java/lang/Comparable"), (0, .class_ 116), (0, u "java/io/Serializable")] 87

/-- java/lang/Enum -/
def k5 : Class := { plain "java/lang/Enum" (some 0) with
  accessFlags := 1057
  interfaces := #[2, 3, 4]
  cf := some (fileOf pool5 2 #[.nestMembers #[106]] #[] 1057 12 #[111, 113, 115] #[{ accessFlags := 18, nameIndex := 5, descriptorIndex := 6, attributes := #[] }, { accessFlags := 18, nameIndex := 9, descriptorIndex := 10, attributes := #[] }, { accessFlags := 2, nameIndex := 19, descriptorIndex := 10, attributes := #[] }])
  fields := #[{ name := "name", type := (.object "java/lang/String"), accessFlags := 18, slot := 0, constantValue := 0 }, { name := "ordinal", type := .int, accessFlags := 18, slot := 1, constantValue := 0 }, { name := "hash", type := .int, accessFlags := 2, slot := 2, constantValue := 0 }]
  methods := #[]
  instanceTypes := #[(.object "java/lang/String"), .int, .int]
  staticTypes := #[]
  resolved := Array.replicate 204 none
  statics := none }

def pool6 : Array CpInfo := pool [(1, .class_ 2), (0, u "com/example/starquarry/starquarry/adql/CastType$Kind"), (2, u "SMALLINT"), (0, u "Lcom/example/starquarry/starquarry/adql/CastType$Kind;"), (2, u "INTEGER"), (2, u "BIGINT"), (2, u "REAL"), (2, u "DOUBLE_PRECISION"), (0, .fieldref 1 20), (0, .nameAndType 21 6), (0, u "CHAR"), (0, .fieldref 1 23), (0, .nameAndType 24 6), (0, u "VARCHAR"), (2, u "TIMESTAMP"), (2, u "POINT"), (2, u "CIRCLE"), (2, u "POLYGON"), (2, u "$VALUES"), (0, u "[Lcom/example/starquarry/starquarry/adql/CastType$Kind;"), (6, .class_ 49), (1, u "java/lang/Enum"), (8, u "text"), (0, u "Ljava/lang/String;"), (2, u "type"), (0, u "Lcom/example/starquarry/starquarry/model/ColumnType;"), (2, u "xtype"), (59, u "hasLength"), (0, u "()Z"), (6, .class_ 135), (0, u "com/example/starquarry/starquarry/adql/CastType")] 2

def k6c0 : Code := { maxStack := 2, maxLocals := 1, code := prog_17_method_7_code, exceptionTable := #[], attributes := #[] }
def k6m0 : Method := { name := "hasLength", desc := "()Z", sig := { parameters := [], returnType := some .boolean }, accessFlags := 1, code := some k6c0 }
/-- com/example/starquarry/starquarry/adql/CastType$Kind -/
def k6 : Class := { plain "com/example/starquarry/starquarry/adql/CastType$Kind" (some 5) with
  accessFlags := 16433
  interfaces := #[]
  cf := some (fileOf pool6 1 #[.nestHost 134] #[{ accessFlags := 1, nameIndex := 126, descriptorIndex := 127, attributes := #[] }] 16433 47 #[] #[{ accessFlags := 16409, nameIndex := 5, descriptorIndex := 6, attributes := #[] }, { accessFlags := 16409, nameIndex := 9, descriptorIndex := 6, attributes := #[] }, { accessFlags := 16409, nameIndex := 12, descriptorIndex := 6, attributes := #[] }, { accessFlags := 16409, nameIndex := 15, descriptorIndex := 6, attributes := #[] }, { accessFlags := 16409, nameIndex := 18, descriptorIndex := 6, attributes := #[] }, { accessFlags := 16409, nameIndex := 21, descriptorIndex := 6, attributes := #[] }, { accessFlags := 16409, nameIndex := 24, descriptorIndex := 6, attributes := #[] }, { accessFlags := 16409, nameIndex := 27, descriptorIndex := 6, attributes := #[] }, { accessFlags := 16409, nameIndex := 30, descriptorIndex := 6, attributes := #[] }, { accessFlags := 16409, nameIndex := 33, descriptorIndex := 6, attributes := #[] }, { accessFlags := 16409, nameIndex := 36, descriptorIndex := 6, attributes := #[] }, { accessFlags := 18, nameIndex := 58, descriptorIndex := 59, attributes := #[] }, { accessFlags := 18, nameIndex := 62, descriptorIndex := 63, attributes := #[] }, { accessFlags := 18, nameIndex := 66, descriptorIndex := 59, attributes := #[] }, { accessFlags := 4122, nameIndex := 39, descriptorIndex := 40, attributes := #[] }])
  fields := #[{ name := "SMALLINT", type := (.object "com/example/starquarry/starquarry/adql/CastType$Kind"), accessFlags := 16409, slot := 0, constantValue := 0 }, { name := "INTEGER", type := (.object "com/example/starquarry/starquarry/adql/CastType$Kind"), accessFlags := 16409, slot := 1, constantValue := 0 }, { name := "BIGINT", type := (.object "com/example/starquarry/starquarry/adql/CastType$Kind"), accessFlags := 16409, slot := 2, constantValue := 0 }, { name := "REAL", type := (.object "com/example/starquarry/starquarry/adql/CastType$Kind"), accessFlags := 16409, slot := 3, constantValue := 0 }, { name := "DOUBLE_PRECISION", type := (.object "com/example/starquarry/starquarry/adql/CastType$Kind"), accessFlags := 16409, slot := 4, constantValue := 0 }, { name := "CHAR", type := (.object "com/example/starquarry/starquarry/adql/CastType$Kind"), accessFlags := 16409, slot := 5, constantValue := 0 }, { name := "VARCHAR", type := (.object "com/example/starquarry/starquarry/adql/CastType$Kind"), accessFlags := 16409, slot := 6, constantValue := 0 }, { name := "TIMESTAMP", type := (.object "com/example/starquarry/starquarry/adql/CastType$Kind"), accessFlags := 16409, slot := 7, constantValue := 0 }, { name := "POINT", type := (.object "com/example/starquarry/starquarry/adql/CastType$Kind"), accessFlags := 16409, slot := 8, constantValue := 0 }, { name := "CIRCLE", type := (.object "com/example/starquarry/starquarry/adql/CastType$Kind"), accessFlags := 16409, slot := 9, constantValue := 0 }, { name := "POLYGON", type := (.object "com/example/starquarry/starquarry/adql/CastType$Kind"), accessFlags := 16409, slot := 10, constantValue := 0 }, { name := "text", type := (.object "java/lang/String"), accessFlags := 18, slot := 3, constantValue := 0 }, { name := "type", type := (.object "com/example/starquarry/starquarry/model/ColumnType"), accessFlags := 18, slot := 4, constantValue := 0 }, { name := "xtype", type := (.object "java/lang/String"), accessFlags := 18, slot := 5, constantValue := 0 }, { name := "$VALUES", type := (.array (.object "com/example/starquarry/starquarry/adql/CastType$Kind")), accessFlags := 4122, slot := 11, constantValue := 0 }]
  methods := #[k6m0]
  instanceTypes := #[(.object "java/lang/String"), .int, .int, (.object "java/lang/String"), (.object "com/example/starquarry/starquarry/model/ColumnType"), (.object "java/lang/String")]
  staticTypes := #[(.object "com/example/starquarry/starquarry/adql/CastType$Kind"), (.object "com/example/starquarry/starquarry/adql/CastType$Kind"), (.object "com/example/starquarry/starquarry/adql/CastType$Kind"), (.object "com/example/starquarry/starquarry/adql/CastType$Kind"), (.object "com/example/starquarry/starquarry/adql/CastType$Kind"), (.object "com/example/starquarry/starquarry/adql/CastType$Kind"), (.object "com/example/starquarry/starquarry/adql/CastType$Kind"), (.object "com/example/starquarry/starquarry/adql/CastType$Kind"), (.object "com/example/starquarry/starquarry/adql/CastType$Kind"), (.object "com/example/starquarry/starquarry/adql/CastType$Kind"), (.object "com/example/starquarry/starquarry/adql/CastType$Kind"), (.array (.object "com/example/starquarry/starquarry/adql/CastType$Kind"))]
  resolved := Array.replicate 138 none
  statics := some 0 }

def pool7 : Array CpInfo := pool [(1, u "java/lang/Cloneable"), (0, .class_ 1), (0, u "java/lang/Object"), (0, .class_ 3)] 3

/-- java/lang/Cloneable -/
def k7 : Class := { plain "java/lang/Cloneable" (some 0) with
  accessFlags := 1537
  interfaces := #[]
  cf := some (fileOf pool7 2 #[] #[] 1537 4 #[] #[])
  fields := #[]
  methods := #[]
  instanceTypes := #[]
  staticTypes := #[]
  resolved := Array.replicate 8 none
  statics := none }

/-- the primitive byte -/
def k8 : Class := { plain "byte" none with kind := .primitive 'B', accessFlags := 0x411 }
/-- [B -/
def k9 : Class := { plain "[B" (some 0) with kind := .array 8 .byte, interfaces := #[7, 4], accessFlags := 1041 }

/-- the primitive int -/
def k10 : Class := { plain "int" none with kind := .primitive 'I', accessFlags := 0x411 }
/-- [I -/
def k11 : Class := { plain "[I" (some 0) with kind := .array 10 .int, interfaces := #[7, 4], accessFlags := 1041 }

def heap : Heap := #[{ cls := 6, slots := #[.ref 1, .ref 9, .ref 7, .ref 4, .ref 11, .ref 2, .ref 3, .ref 5, .ref 6, .ref 10, .ref 8, .null], vm := .statics 6 },
  { cls := 6, slots := #[.null, .int 0, .int 0, .null, .null, .null], vm := .none },
  { cls := 6, slots := #[.null, .int 5, .int 0, .null, .null, .null], vm := .none },
  { cls := 6, slots := #[.null, .int 6, .int 0, .null, .null, .null], vm := .none },
  { cls := 6, slots := #[.null, .int 3, .int 0, .null, .null, .null], vm := .none },
  { cls := 6, slots := #[.null, .int 7, .int 0, .null, .null, .null], vm := .none },
  { cls := 6, slots := #[.null, .int 8, .int 0, .null, .null, .null], vm := .none },
  { cls := 6, slots := #[.null, .int 2, .int 0, .null, .null, .null], vm := .none },
  { cls := 6, slots := #[.null, .int 10, .int 0, .null, .null, .null], vm := .none },
  { cls := 6, slots := #[.null, .int 1, .int 0, .null, .null, .null], vm := .none },
  { cls := 6, slots := #[.null, .int 9, .int 0, .null, .null, .null], vm := .none },
  { cls := 6, slots := #[.null, .int 4, .int 0, .null, .null, .null], vm := .none }]
def classes : Array Class := #[k0, k1, k2, k3, k4, k5, k6, k7, k8, k9, k10, k11]
def interned : List (Array UInt16 × Addr) := []
def slotsUsed : Nat := 78
def theMethod : MethodId := ⟨1, 2⟩
def args0 : Array Value := #[.int 5]
def aboutOver (below : List Frame) : State where
  vm := { classes := classes, interned := interned.toArray }
  heap := heap
  slotsUsed := slotsUsed
  threads := #[{ frames := .invoking theMethod args0 :: below }]
def below0 : List Frame := [.native { method := ⟨0, 0⟩, args := #[] }]
def about1 : State := aboutOver below0
def p0 : Program := .bare "" "" ""
def e0 : Env := launch0.env 0 0 0
theorem w_frames : about1.frames = Frame.invoking theMethod args0 :: below0 := rfl
set_option maxRecDepth 65536 in
theorem w_args : argsFit about1.vm theMethod args0 = true := by decide +kernel
set_option maxRecDepth 65536 in
theorem w_heap : heapFits about1 = true := by decide +kernel
set_option maxRecDepth 65536 in
theorem w_runnable : about1.curStatus? = some .runnable := by decide +kernel
set_option maxRecDepth 65536 in
theorem w_alone : about1.alone = true := by decide +kernel
set_option maxRecDepth 65536 in
theorem w_named : about1.methodNamed? x = some theMethod := by decide +kernel
set_option maxRecDepth 65536 in
theorem w_hears : about1.hears theMethod below0 = true := by decide +kernel
set_option maxRecDepth 65536 in
theorem w_ripe : about1.ripe theMethod args0 below0 = true := by decide +kernel
theorem w_running : about1.status = .running := rfl
set_option maxRecDepth 65536 in
theorem w_room : about1.hasRoom e0.platform room_1 = true :=
  launch0.hasRoom_least _ room_1 (by decide +kernel) (by decide +kernel) (by decide +kernel) (by decide +kernel) (by decide +kernel) (by decide +kernel)
theorem allAtoms_all (ts : List Jvm.Cond) (a : Array Jvm.Value) (st : Jvm.State) : (allAtoms ts).before a st = ts.all (fun c => c.before a st) := by
  induction ts with
  | nil => rfl
  | cons c t ih =>
    show (Jvm.Cond.and c (allAtoms t)).before a st = _
    rw [Jvm.Cond.before_and, ih, List.all_cons]
def words1 : List Jvm.Cond := Jvm.Cond.code x code maxLocals ret :: tables_1
/-- a 'code' word, met by the world's own term for the bytes: nothing is compared byte by byte -/
theorem code_word {y : MethodName} {bytes : ByteArray} {mx : Nat} {rt : Option FieldType} {a : Array Value} {s : State} {m : MethodId} {meth : Method} {c : Code} (h1 : s.methodNamed? y = some m) (h2 : s.vm.method? m = some meth) (h3 : meth.code = some c) (h4 : c.code = bytes)
    (h5 : (c.maxLocals == mx && c.exceptionTable.isEmpty && decide (c.maxStack ≤ mostOperands) && decide (meth.sig.returnType = rt) && !meth.locks && decide (parseMethodDescriptor y.desc = some meth.sig)) = true) : (Jvm.Cond.code y bytes mx rt).before a s = true := by
  simp only [Bool.and_eq_true, beq_iff_eq, Bool.not_eq_true', decide_eq_true_eq] at h5
  obtain ⟨⟨⟨⟨⟨g1, g2⟩, g3⟩, g4⟩, g5⟩, g6⟩ := h5
  simp [Cond.before, Cond.holds, Cond.value, h1, h2, h3, h4, g1, g2, g3, g4, g5, g6]
def isCode : Jvm.Cond → Bool
  | .code _ _ _ _ => true
  | _ => false
theorem all_split {L : List Jvm.Cond} {P : Jvm.Cond → Bool} (h1 : L.all (fun c => isCode c || P c) = true) (h2 : ∀ c ∈ L.filter isCode, P c = true) : L.all P = true := by
  refine List.all_eq_true.mpr fun c hc => ?_
  have h := List.all_eq_true.mp h1 c hc
  rcases Bool.eq_false_or_eq_true (isCode c) with hi | hi
  · exact h2 c (List.mem_filter.mpr ⟨hc, hi⟩)
  · simpa [hi] using h
set_option maxRecDepth 65536 in
theorem w_c0 : (Jvm.Cond.code x code maxLocals ret).before args0 about1 = true := code_word (m := ⟨1, 2⟩) (meth := k1m2) (c := k1c2) (by decide +kernel) rfl rfl rfl (by decide +kernel)
set_option maxRecDepth 65536 in
theorem w_c1 : (Jvm.Cond.code ({ cls := "com/example/starquarry/starquarry/adql/KindHasLengthPinLaw", name := "pick", desc := "(I)Lcom/example/starquarry/starquarry/adql/CastType$Kind;" } : Jvm.MethodName) method_2_code (1 : Nat) (Option.some (Jvm.ClassFile.FieldType.object "com/example/starquarry/starquarry/adql/CastType$Kind"))).before args0 about1 = true := code_word (m := ⟨1, 1⟩) (meth := k1m1) (c := k1c1) (by decide +kernel) rfl rfl rfl (by decide +kernel)
set_option maxRecDepth 65536 in
theorem w_c2 : (Jvm.Cond.code ({ cls := "com/example/starquarry/starquarry/adql/CastType$Kind", name := "hasLength", desc := "()Z" } : Jvm.MethodName) prog_17_method_7_code (1 : Nat) (Option.some Jvm.ClassFile.FieldType.boolean)).before args0 about1 = true := code_word (m := ⟨6, 0⟩) (meth := k6m0) (c := k6c0) (by decide +kernel) rfl rfl rfl (by decide +kernel)
def codes1 : List Jvm.Cond := [Jvm.Cond.code x code maxLocals ret, Jvm.Cond.code ({ cls := "com/example/starquarry/starquarry/adql/KindHasLengthPinLaw", name := "pick", desc := "(I)Lcom/example/starquarry/starquarry/adql/CastType$Kind;" } : Jvm.MethodName) method_2_code (1 : Nat) (Option.some (Jvm.ClassFile.FieldType.object "com/example/starquarry/starquarry/adql/CastType$Kind")), Jvm.Cond.code ({ cls := "com/example/starquarry/starquarry/adql/CastType$Kind", name := "hasLength", desc := "()Z" } : Jvm.MethodName) prog_17_method_7_code (1 : Nat) (Option.some Jvm.ClassFile.FieldType.boolean)]
set_option maxRecDepth 65536 in
theorem codes_eq : words1.filter isCode = codes1 := rfl
theorem w_codes : ∀ c ∈ words1.filter isCode, c.before args0 about1 = true := by
  rw [codes_eq]
  intro c hc
  simp only [codes1, List.mem_cons, List.not_mem_nil, or_false] at hc
  rcases hc with rfl | rfl | rfl
  · exact w_c0
  · exact w_c1
  · exact w_c2
set_option maxRecDepth 65536 in
theorem w_t1 : (words1.take 24).all (fun c => isCode c || c.before args0 about1) = true := by decide +kernel
set_option maxRecDepth 65536 in
theorem w_t2 : (words1.drop 24).all (fun c => isCode c || c.before args0 about1) = true := by decide +kernel
theorem w_tables : (allAtoms (Jvm.Cond.code x code maxLocals ret :: tables_1)).before args0 about1 = true := by
  rw [allAtoms_all]
  show words1.all (fun c => c.before args0 about1) = true
  refine all_split ?_ w_codes
  rw [← List.take_append_drop 24 words1, List.all_append, w_t1, w_t2]
  rfl
set_option maxRecDepth 65536 in
theorem w_case : (Jvm.Cond.and given_1 narrow_1).before args0 about1 = true := by decide +kernel
theorem w_applies : (headSpec (Jvm.Cond.code x code maxLocals ret :: tables_1) room_1).applies x e0.platform about1 = true :=
  (Spec.applies_iff w_frames).mpr ⟨w_running, w_runnable, w_alone, w_named, w_hears, w_ripe, w_room, w_tables⟩
theorem atStart : AtStart classFile x code maxLocals ret World_1 tables_1 room_1 Calls_1 rest_1 Pre_1 launch0 p0 e0 about1 theMethod args0 below0 :=
  ⟨lists_1, trivial, launch0.admits_env _ _ _, launch0.least_env, fairChoices_fair.cas, fairChoices_fair.clock, w_frames, w_args, w_heap, w_applies, trivial, trivial, w_case⟩
end start1
theorem witness_1 : WitnessClaimed_1 := ⟨start1.p0, start1.e0, start1.about1, start1.theMethod, start1.args0, start1.below0, start1.atStart⟩
end Jvm.Pilot.@@N@@
