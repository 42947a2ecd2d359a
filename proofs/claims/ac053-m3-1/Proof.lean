import JvmDerived
import JvmDerived.Pilot.@@N@@Statement
import JvmDerived.Pilot.@@N@@Code
set_option linter.unusedVariables false
set_option linter.unusedSimpArgs false
@@BLOCK:NumsL.lean.txt@@
namespace Jvm.Pilot.@@N@@
open Jvm Jvm.ClassFile Sem Op Lib Jvm.Free Jvm.Stand Jvm.LawKit Jvm.RoadKit Bundle Jvm.Pilot.@@N@@.Jvm.D
theorem own_retI {p : Program} {l : Launch} {e : Env} {R : Room} {s : State} {m : MethodId} {args : Array Value} {below : List Frame} {meth : Method} {c : Code} {T : State} {locs : List Loc} {cells slots : Nat} (X : Stand p l e R s m args below meth c T locs cells slots) (hx : p.tables.exec = Jvm.exec) {pc : Nat} {Ls : Array Slot} {z : Int32} {rest : List Value} (hret : meth.sig.returnType = some .int) (hd : decode c.code pc = .ok (.ireturn, 1)) {fs : List Frame}
    (hl : ∀ (f : JFrame) (acts : List Action), f.method = m → f.locked = none → f.entered = [] → (doReturn e (T.setTop f) acts (some (.int z))).1 = T.setFrames fs) : Steps p.tables e below (T.setTop (mkF m pc Ls (.int z :: rest))) (T.setFrames fs) :=
  retOut X hx hret rfl (Or.inl ⟨rfl, Or.inl rfl, z, rfl⟩) hd hl
theorem own_retA {p : Program} {l : Launch} {e : Env} {R : Room} {s : State} {m : MethodId} {args : Array Value} {below : List Frame} {meth : Method} {c : Code} {T : State} {locs : List Loc} {cells slots : Nat} (X : Stand p l e R s m args below meth c T locs cells slots) (hx : p.tables.exec = Jvm.exec) {pc : Nat} {Ls : Array Slot} {w : Value} {t : FieldType} {rest : List Value} (hret : meth.sig.returnType = some t) (ht : t.isReference = true) (hw : w.isRef = true) (hn : narrow t w = w) (hd : decode c.code pc = .ok (.areturn, 1)) {fs : List Frame}
    (hl : ∀ (f : JFrame) (acts : List Action), f.method = m → f.locked = none → f.entered = [] → (doReturn e (T.setTop f) acts (some w)).1 = T.setFrames fs) : Steps p.tables e below (T.setTop (mkF m pc Ls (w :: rest))) (T.setFrames fs) :=
  retOut X hx hret hn (Or.inr (Or.inr (Or.inr (Or.inr ⟨rfl, ht, hw⟩)))) hd hl
theorem own_retJ {p : Program} {l : Launch} {e : Env} {R : Room} {s : State} {m : MethodId} {args : Array Value} {below : List Frame} {meth : Method} {c : Code} {T : State} {locs : List Loc} {cells slots : Nat} (X : Stand p l e R s m args below meth c T locs cells slots) (hx : p.tables.exec = Jvm.exec) {pc : Nat} {Ls : Array Slot} {z : Int64} {rest : List Value} (hret : meth.sig.returnType = some .long) (hd : decode c.code pc = .ok (.lreturn, 1)) {fs : List Frame}
    (hl : ∀ (f : JFrame) (acts : List Action), f.method = m → f.locked = none → f.entered = [] → (doReturn e (T.setTop f) acts (some (.long z))).1 = T.setFrames fs) : Steps p.tables e below (T.setTop (mkF m pc Ls (.long z :: rest))) (T.setFrames fs) :=
  retOut X hx hret rfl (Or.inr (Or.inl ⟨rfl, rfl, z, rfl⟩)) hd hl
theorem own_exttr {h0 h h' : Heap} (E : Ext h0 h) (E' : Ext h h') : Ext h0 h' := ⟨Nat.le_trans E.1 E'.1, fun a c q => E'.2 _ _ (E.2 _ _ q)⟩
theorem own_extwr {h0 h h' : Heap} {a : Addr} {sl : Nat} {v : Value} (E : Ext h0 h) (W : Wr h h' a sl v) (q : h0.size ≤ a) : Ext h0 h' := by
  refine ⟨Nat.le_trans E.1 (Nat.le_of_eq W.size.symm), fun x c hc => ?_⟩
  obtain ⟨c', e1, -, -, -, e5, -⟩ := wr_at W (E.2 x c hc)
  have hx : x < h0.size := (Array.getElem?_eq_some_iff.mp hc).1
  rw [e5 (Nat.ne_of_lt (Nat.lt_of_lt_of_le hx q))] at e1
  exact e1
theorem own_wmono {s t : State} {o : Outcome} {L : List Loc} {k n k' n' : Nat} (h : ReturnedEndW s o t L k n) (hk : k ≤ k') (hn : n ≤ n') : ReturnedEndW s o t L k' n' := ⟨h.1, h.2.1, h.2.2.1, h.2.2.2.mono hk hn⟩
theorem own_strAtoms {Z : State} {a0 : Array Value} (w1 : (Jvm.Cond.initialized "java/lang/String").before a0 Z = true) (w2 : (Jvm.Cond.instantiable "java/lang/String" 4).before a0 Z = true) (w3 : (Jvm.Cond.arrayClass .byte).before a0 Z = true) (w4 : (Jvm.Cond.laysFinal "java/lang/String" "java/lang/String" "value" "[B").before a0 Z = true) (w5 : (Jvm.Cond.laysFinal "java/lang/String" "java/lang/String" "coder" "B").before a0 Z = true) (w6 : (Jvm.Cond.soleField "java/lang/String" "value").before a0 Z = true) (w7 : (Jvm.Cond.soleField "java/lang/String" "coder").before a0 Z = true) : ∀ a ∈ Bundle.stringAtoms, a.before a0 Z = true := by
  intro a ha
  simp only [Bundle.stringAtoms, List.mem_cons, List.not_mem_nil, or_false] at ha
  rcases ha with rfl | rfl | rfl | rfl | rfl | rfl | rfl <;> assumption
theorem own_extkeep {h0 h h' : Heap} {a : Addr} (E : Ext h0 h) (K : Keep h h' [a]) (q : h0.size ≤ a) : Ext h0 h' := ⟨Nat.le_trans E.1 K.1, fun x c hc => K.2.1 x c (E.2 x c hc) (fun hm => absurd (List.mem_singleton.mp hm) (Nat.ne_of_lt (Nat.lt_of_lt_of_le (Array.getElem?_eq_some_iff.mp hc).1 q)))⟩
theorem own_fld2 {Z : State} {h : Heap} {a : Addr} {C O n d O1 n1 d1 : String} {v1 : Value} {a0 : Array Value} {k : Nat} (E : Exa Z h a C) (F : Fld Z h a O1 n1 d1 v1) (L : Laid Z a0 C O n d) (wi : (Jvm.Cond.instantiable C k).before a0 Z = true) : ∃ v, Fld Z h a O n d v := by
  obtain ⟨cell, kc, h1, h2, h3, h4, h5⟩ := E
  obtain ⟨cell', cf', k', i', f', g1, -, -, g4, g5, -, -⟩ := F
  cases h1.symm.trans g1
  obtain ⟨c, k2, cf, kf, i, f, a1, a2, a3, a4, a5, a6, -⟩ := L.spec
  cases h2.symm.trans a1
  cases h3.symm.trans a2
  obtain ⟨c2, k3, i1, i2, i3, -⟩ := Cond.instantiable_spec wi
  cases h2.symm.trans i1
  cases h3.symm.trans i2
  have hs := h5 i3
  have hlt : f.slot < cell.slots.size := by rw [hs]; exact (Array.getElem?_eq_some_iff.mp a6).1
  exact ⟨cell.slots[f.slot], cell, cf, kf, i, f, h1, a3, a4, g4, g5, a5, Array.getElem?_eq_getElem hlt⟩
theorem own_retD {p : Program} {l : Launch} {e : Env} {R : Room} {s : State} {m : MethodId} {args : Array Value} {below : List Frame} {meth : Method} {c : Code} {T : State} {locs : List Loc} {cells slots : Nat} (X : Stand p l e R s m args below meth c T locs cells slots) (hx : p.tables.exec = Jvm.exec) {pc : Nat} {Ls : Array Slot} {z : UInt64} {rest : List Value} (hret : meth.sig.returnType = some .double) (hd : decode c.code pc = .ok (.dreturn, 1)) {fs : List Frame}
    (hl : ∀ (f : JFrame) (acts : List Action), f.method = m → f.locked = none → f.entered = [] → (doReturn e (T.setTop f) acts (some (.double z))).1 = T.setFrames fs) : Steps p.tables e below (T.setTop (mkF m pc Ls (.double z :: rest))) (T.setFrames fs) :=
  retOut X hx hret rfl (Or.inr (Or.inr (Or.inl ⟨rfl, rfl, z, rfl⟩))) hd hl
theorem own_eqk {args : Array Value} {first s : State} {o : Option Outcome} {idx : List Nat} {t : Term} {k : Int32} (h : (Jvm.Cond.eq t (.int k)).value args first o s idx = some true) : t.eval args first o idx s = some (.int k) := by
  have hk : (Term.int k).eval args first o idx s = some (.int k) := Term.int_eval k
  cases ht : t.eval args first o idx s with
  | none => simp [Cond.value, ht] at h
  | some x => cases x <;> simp [Cond.value, ht, hk] at h ⊢ <;> exact h
theorem own_len {args : Array Value} {s : State} {t : Term} {a : Addr} {cl : Cell} {n : Int32} {ty : FieldType} (h : (Jvm.Cond.eq (.length t) (.int n)).value args s none s [] = some true) (ev : t.eval args s none [] s = some (.ref a)) (A : Arr s s.heap a cl ty) : cl.slots.size = n.toNatClampNeg ∧ ¬ n < 0 := by
  have q := own_eqk h
  have ha := A.fin (Vm.Alike.refl _)
  by_cases hl : cl.slots.size < 2 ^ 31
  · rw [len_f ev ha hl] at q
    have q2 : cl.slots.size.toInt32 = n := by simpa using q
    have q3 := len_toInt hl
    rw [q2] at q3
    refine ⟨?_, ?_⟩
    · simp only [Int32.toNatClampNeg]; omega
    · rw [Int32.lt_iff_toInt_lt]; simp only [Int32.reduceToInt]; omega
  · simp [Term.eval, ev, ha, hl] at q
theorem own_hin {cl : Cell} {z j : Int32} (hsz : cl.slots.size = z.toNatClampNeg) (hlo : ¬ j < (0 : Int32)) (hhi : j < z) : ¬ (j < 0 ∨ cl.slots.size ≤ j.toNatClampNeg) := by
  simp only [Int32.lt_iff_toInt_lt, Int32.reduceToInt, Int32.toNatClampNeg] at *
  omega
theorem own_eqref {args : Array Value} {first s : State} {o : Option Outcome} {idx : List Nat} {a b : Term} {x : Addr} (h : (Jvm.Cond.eq a b).value args first o s idx = some true) (hb : b.eval args first o idx s = some (.ref x)) : a.eval args first o idx s = some (.ref x) := by
  cases ha : a.eval args first o idx s with
  | none => simp [Cond.value, ha] at h
  | some v => cases v <;> simp [Cond.value, ha, hb] at h ⊢ <;> exact h
theorem own_same {Z : State} {h : Heap} {a v0 v1 : Addr} {cl0 cl1 : Cell} {c0 c1 : Int32} {C n d : String} {ty : FieldType} (V0 : Fld Z h a C n d (.ref v0)) (V1 : Fld Z h a C n d (.ref v1)) (A0 : Arr Z h v0 cl0 ty) (A1 : Arr Z h v1 cl1 ty) (t0 : cl0.slots[(0 : Int32).toNatClampNeg]? = some (.int c0)) (t1 : cl1.slots[(0 : Int32).toNatClampNeg]? = some (.int c1)) : c0 = c1 := by
  have e1 := V0.fin (Vm.Alike.refl _) (U := { Z with heap := h })
  have e2 := V1.fin (Vm.Alike.refl _) (U := { Z with heap := h })
  have e3 : v0 = v1 := by have q := e1.symm.trans e2; simpa using q
  subst e3
  have e4 : cl0 = cl1 := Option.some.inj (A0.1.symm.trans A1.1)
  subst e4
  have q := t0.symm.trans t1
  simpa using q
theorem own_pn0 : plainName "com/example/starquarry/starquarry/model/ColumnTypeIsTextPinLaw" = true := by first | (simp [plainName, overriddenIn]; done) | decide +kernel
theorem own_d_pick_0 : decode method_2_code 0 = .ok (.iload_n 0, 1) := by decide +kernel
theorem own_d_pick_1 : decode method_2_code 1 = .ok (.ifCond .ne 7, 3) := by decide +kernel
theorem own_d_pick_4 : decode method_2_code 4 = .ok (.getstatic 7, 3) := by decide +kernel
theorem own_d_pick_7 : decode method_2_code 7 = .ok (.areturn, 1) := by decide +kernel
theorem own_d_pick_8 : decode method_2_code 8 = .ok (.iload_n 0, 1) := by decide +kernel
theorem own_d_pick_9 : decode method_2_code 9 = .ok (.iconst 1, 1) := by decide +kernel
theorem own_d_pick_10 : decode method_2_code 10 = .ok (.if_icmp .ne 7, 3) := by decide +kernel
theorem own_d_pick_13 : decode method_2_code 13 = .ok (.getstatic 13, 3) := by decide +kernel
theorem own_d_pick_16 : decode method_2_code 16 = .ok (.areturn, 1) := by decide +kernel
theorem own_d_pick_17 : decode method_2_code 17 = .ok (.iload_n 0, 1) := by decide +kernel
theorem own_d_pick_18 : decode method_2_code 18 = .ok (.iconst 2, 1) := by decide +kernel
theorem own_d_pick_19 : decode method_2_code 19 = .ok (.if_icmp .ne 7, 3) := by decide +kernel
theorem own_d_pick_22 : decode method_2_code 22 = .ok (.getstatic 16, 3) := by decide +kernel
theorem own_d_pick_25 : decode method_2_code 25 = .ok (.areturn, 1) := by decide +kernel
theorem own_d_pick_26 : decode method_2_code 26 = .ok (.iload_n 0, 1) := by decide +kernel
theorem own_d_pick_27 : decode method_2_code 27 = .ok (.iconst 3, 1) := by decide +kernel
theorem own_d_pick_28 : decode method_2_code 28 = .ok (.if_icmp .ne 7, 3) := by decide +kernel
theorem own_d_pick_31 : decode method_2_code 31 = .ok (.getstatic 19, 3) := by decide +kernel
theorem own_d_pick_34 : decode method_2_code 34 = .ok (.areturn, 1) := by decide +kernel
theorem own_d_pick_35 : decode method_2_code 35 = .ok (.iload_n 0, 1) := by decide +kernel
theorem own_d_pick_36 : decode method_2_code 36 = .ok (.iconst 4, 1) := by decide +kernel
theorem own_d_pick_37 : decode method_2_code 37 = .ok (.if_icmp .ne 7, 3) := by decide +kernel
theorem own_d_pick_40 : decode method_2_code 40 = .ok (.getstatic 22, 3) := by decide +kernel
theorem own_d_pick_43 : decode method_2_code 43 = .ok (.areturn, 1) := by decide +kernel
theorem own_d_pick_44 : decode method_2_code 44 = .ok (.iload_n 0, 1) := by decide +kernel
theorem own_d_pick_45 : decode method_2_code 45 = .ok (.iconst 5, 1) := by decide +kernel
theorem own_d_pick_46 : decode method_2_code 46 = .ok (.if_icmp .ne 7, 3) := by decide +kernel
theorem own_d_pick_49 : decode method_2_code 49 = .ok (.getstatic 25, 3) := by decide +kernel
theorem own_d_pick_52 : decode method_2_code 52 = .ok (.areturn, 1) := by decide +kernel
theorem own_d_pick_53 : decode method_2_code 53 = .ok (.iload_n 0, 1) := by decide +kernel
theorem own_d_pick_54 : decode method_2_code 54 = .ok (.bipush 6, 2) := by decide +kernel
theorem own_d_pick_56 : decode method_2_code 56 = .ok (.if_icmp .ne 7, 3) := by decide +kernel
theorem own_d_pick_59 : decode method_2_code 59 = .ok (.getstatic 28, 3) := by decide +kernel
theorem own_d_pick_62 : decode method_2_code 62 = .ok (.areturn, 1) := by decide +kernel
theorem own_d_pick_63 : decode method_2_code 63 = .ok (.iload_n 0, 1) := by decide +kernel
theorem own_d_pick_64 : decode method_2_code 64 = .ok (.bipush 7, 2) := by decide +kernel
theorem own_d_pick_66 : decode method_2_code 66 = .ok (.if_icmp .ne 7, 3) := by decide +kernel
theorem own_d_pick_69 : decode method_2_code 69 = .ok (.getstatic 31, 3) := by decide +kernel
theorem own_d_pick_72 : decode method_2_code 72 = .ok (.areturn, 1) := by decide +kernel
theorem own_d_pick_73 : decode method_2_code 73 = .ok (.iload_n 0, 1) := by decide +kernel
theorem own_d_pick_74 : decode method_2_code 74 = .ok (.bipush 8, 2) := by decide +kernel
theorem own_d_pick_76 : decode method_2_code 76 = .ok (.if_icmp .ne 7, 3) := by decide +kernel
theorem own_d_pick_79 : decode method_2_code 79 = .ok (.getstatic 34, 3) := by decide +kernel
theorem own_d_pick_82 : decode method_2_code 82 = .ok (.areturn, 1) := by decide +kernel
theorem own_d_pick_83 : decode method_2_code 83 = .ok (.iload_n 0, 1) := by decide +kernel
theorem own_d_pick_84 : decode method_2_code 84 = .ok (.bipush 9, 2) := by decide +kernel
theorem own_d_pick_86 : decode method_2_code 86 = .ok (.if_icmp .ne 7, 3) := by decide +kernel
theorem own_d_pick_89 : decode method_2_code 89 = .ok (.getstatic 37, 3) := by decide +kernel
theorem own_d_pick_92 : decode method_2_code 92 = .ok (.areturn, 1) := by decide +kernel
theorem own_d_pick_93 : decode method_2_code 93 = .ok (.iload_n 0, 1) := by decide +kernel
theorem own_d_pick_94 : decode method_2_code 94 = .ok (.bipush 10, 2) := by decide +kernel
theorem own_d_pick_96 : decode method_2_code 96 = .ok (.if_icmp .ne 7, 3) := by decide +kernel
theorem own_d_pick_99 : decode method_2_code 99 = .ok (.getstatic 40, 3) := by decide +kernel
theorem own_d_pick_102 : decode method_2_code 102 = .ok (.areturn, 1) := by decide +kernel
theorem own_d_pick_103 : decode method_2_code 103 = .ok (.getstatic 43, 3) := by decide +kernel
theorem own_d_pick_106 : decode method_2_code 106 = .ok (.areturn, 1) := by decide +kernel
def F_pick (p0 : Int32) (w_BIT : Addr) (w_BOOLEAN : Addr) (w_UNSIGNED_BYTE : Addr) (w_SHORT : Addr) (w_INT : Addr) (w_LONG : Addr) (w_FLOAT : Addr) (w_DOUBLE : Addr) (w_CHAR : Addr) (w_UNICODE_CHAR : Addr) (w_POINT : Addr) (w_CIRCLE : Addr) : Addr := (if p0 = (0 : Int32) then w_BIT else (if p0 = (1 : Int32) then w_BOOLEAN else (if p0 = (2 : Int32) then w_UNSIGNED_BYTE else (if p0 = (3 : Int32) then w_SHORT else (if p0 = (4 : Int32) then w_INT else (if p0 = (5 : Int32) then w_LONG else (if p0 = (6 : Int32) then w_FLOAT else (if p0 = (7 : Int32) then w_DOUBLE else (if p0 = (8 : Int32) then w_CHAR else (if p0 = (9 : Int32) then w_UNICODE_CHAR else (if p0 = (10 : Int32) then w_POINT else w_CIRCLE)))))))))))
theorem own_ef_pick (m : MethodId) (p0 : Int32) : entryFrame m #[(.int p0)] 1 = mkF m 0 #[.val (.int p0)] [] := by first | (simp [entryFrame, mkF, argsToLocals, Value.category]; done) | rfl
def Q_pick (Z : State) (p0 : Int32) (w_BIT : Addr) (w_BOOLEAN : Addr) (w_UNSIGNED_BYTE : Addr) (w_SHORT : Addr) (w_INT : Addr) (w_LONG : Addr) (w_FLOAT : Addr) (w_DOUBLE : Addr) (w_CHAR : Addr) (w_UNICODE_CHAR : Addr) (w_POINT : Addr) (w_CIRCLE : Addr) (h0 : Heap) (n0 : Nat) (v : Option Value) (h : Heap) (L : List Loc) : Prop := v = some (.ref (F_pick p0 w_BIT w_BOOLEAN w_UNSIGNED_BYTE w_SHORT w_INT w_LONG w_FLOAT w_DOUBLE w_CHAR w_UNICODE_CHAR w_POINT w_CIRCLE)) ∧ Fr n0 L ∧ h = h0
set_option maxRecDepth 65536 in
set_option maxHeartbeats 40000000 in
theorem rm_pick (l : Launch) (Z : State) (a0' : Array Value) (hw : ∀ d ∈ tables_1, d.before a0' Z = true) (ws : List Jvm.Cond) (p0 : Int32) (w_BIT : Addr) (w_BOOLEAN : Addr) (w_UNSIGNED_BYTE : Addr) (w_SHORT : Addr) (w_INT : Addr) (w_LONG : Addr) (w_FLOAT : Addr) (w_DOUBLE : Addr) (w_CHAR : Addr) (w_UNICODE_CHAR : Addr) (w_POINT : Addr) (w_CIRCLE : Addr) (h0 : Heap) (n0 : Nat) (Z0 : n0 ≤ h0.size) (S_BIT : Sta Z h0 "com/example/starquarry/starquarry/model/ColumnType" "BIT" "Lcom/example/starquarry/starquarry/model/ColumnType;" (.ref w_BIT)) (S_BOOLEAN : Sta Z h0 "com/example/starquarry/starquarry/model/ColumnType" "BOOLEAN" "Lcom/example/starquarry/starquarry/model/ColumnType;" (.ref w_BOOLEAN)) (S_UNSIGNED_BYTE : Sta Z h0 "com/example/starquarry/starquarry/model/ColumnType" "UNSIGNED_BYTE" "Lcom/example/starquarry/starquarry/model/ColumnType;" (.ref w_UNSIGNED_BYTE)) (S_SHORT : Sta Z h0 "com/example/starquarry/starquarry/model/ColumnType" "SHORT" "Lcom/example/starquarry/starquarry/model/ColumnType;" (.ref w_SHORT)) (S_INT : Sta Z h0 "com/example/starquarry/starquarry/model/ColumnType" "INT" "Lcom/example/starquarry/starquarry/model/ColumnType;" (.ref w_INT)) (S_LONG : Sta Z h0 "com/example/starquarry/starquarry/model/ColumnType" "LONG" "Lcom/example/starquarry/starquarry/model/ColumnType;" (.ref w_LONG)) (S_FLOAT : Sta Z h0 "com/example/starquarry/starquarry/model/ColumnType" "FLOAT" "Lcom/example/starquarry/starquarry/model/ColumnType;" (.ref w_FLOAT)) (S_DOUBLE : Sta Z h0 "com/example/starquarry/starquarry/model/ColumnType" "DOUBLE" "Lcom/example/starquarry/starquarry/model/ColumnType;" (.ref w_DOUBLE)) (S_CHAR : Sta Z h0 "com/example/starquarry/starquarry/model/ColumnType" "CHAR" "Lcom/example/starquarry/starquarry/model/ColumnType;" (.ref w_CHAR)) (S_UNICODE_CHAR : Sta Z h0 "com/example/starquarry/starquarry/model/ColumnType" "UNICODE_CHAR" "Lcom/example/starquarry/starquarry/model/ColumnType;" (.ref w_UNICODE_CHAR)) (S_POINT : Sta Z h0 "com/example/starquarry/starquarry/model/ColumnType" "POINT" "Lcom/example/starquarry/starquarry/model/ColumnType;" (.ref w_POINT)) (S_CIRCLE : Sta Z h0 "com/example/starquarry/starquarry/model/ColumnType" "CIRCLE" "Lcom/example/starquarry/starquarry/model/ColumnType;" (.ref w_CIRCLE)) :
    MetFree l (⟨"com/example/starquarry/starquarry/model/ColumnTypeIsTextPinLaw", "pick", "(I)Lcom/example/starquarry/starquarry/model/ColumnType;"⟩ : MethodName) (head1 (Jvm.Cond.code (⟨"com/example/starquarry/starquarry/model/ColumnTypeIsTextPinLaw", "pick", "(I)Lcom/example/starquarry/starquarry/model/ColumnType;"⟩ : MethodName) method_2_code 1 (some (.object "com/example/starquarry/starquarry/model/ColumnType")) :: ws) ({ frames := 0, cells := 0, slots := 0, locals := 0 } : Room)) (fun a U => a = #[(.int p0)] ∧ Z.Warmed39 U.vm ∧ U.heap = h0) (fun _ _ _ _ _ => True) (fun _ U o U' => ∃ v L, o = .returned v ∧ Q_pick Z p0 w_BIT w_BOOLEAN w_UNSIGNED_BYTE w_SHORT w_INT w_LONG w_FLOAT w_DOUBLE w_CHAR w_UNICODE_CHAR w_POINT w_CIRCLE h0 n0 v U'.heap L ∧ FrameEnd U o U' L ({ frames := 0, cells := 0, slots := 0, locals := 0 } : Room).cells ({ frames := 0, cells := 0, slots := 0, locals := 0 } : Room).slots) := by
  refine MetFree.of_bodySF (plainFor_of_name own_pn0) hisR ?_
  intro p e s m args below meth c s₁ Bd hml0 hP hK
  obtain ⟨rfl, hZ, hh⟩ := hP
  have hx := Bd.exec
  have hby := Bd.bytes
  have hml : c.maxLocals = 1 := hml0
  have hown : s.vm.findClass "com/example/starquarry/starquarry/model/ColumnTypeIsTextPinLaw" = some m.cls := findClass_of_methodNamed Bd.named
  have hnm := (name_of_methodNamed Bd.named Bd.method).1
  have X0 : Stand p l e ({ frames := 0, cells := 0, slots := 0, locals := 0 } : Room) s m #[(.int p0)] below meth c s₁ [] 0 0 := Stand.of_body Bd
  have e0 : s₁.heap = h0 := by rw [← hh, Bd.state]; rfl
  have N0 := Fr.nil n0
  have pre0 : ∀ t, Steps p.tables e below (s₁.setTop (mkF m 0 #[.val (.int p0)] [])) t → Steps p.tables e below (s₁.setTop (entryFrame m #[(.int p0)] 1)) t := fun t k => castTop (own_ef_pick m p0) k
  have pre2 : ∀ t, Steps p.tables e below (s₁.setTop (mkF m 1 #[.val (.int p0)] [(.int p0)])) t → Steps p.tables e below (s₁.setTop (entryFrame m #[(.int p0)] 1)) t := fun t k => pre0 t (by
    show Steps p.tables e below (s₁.setTop (mkF m 0 #[.val (.int p0)] [])) _
    refine XS.iloadN X0.here hx rfl (hb hby own_d_pick_0) rfl ?_
    exact k)
  by_cases hc1_1 : p0 = (0 : Int32)
  · obtain ⟨T3, X3, e3, st3⟩ := getS2 X0 hx hZ hown (host := "") (Or.inl (hw _ (List.mem_of_getElem? (i := 5) rfl))) Via.refl e0 S_BIT (g := (mkF m 4 #[.val (.int p0)] [])) rfl (hb hby own_d_pick_4)
    obtain ⟨fs, hr, hrun, hended, hW, hsame⟩ := X3.leave (v := some (.ref w_BIT)) (fun h => by rw [Bd.returns] at h; cases h)
    refine ⟨_, _, pre2 _ ?_, hrun, hended, _, _, rfl, ?_, ⟨_, rfl⟩, hW, hsame.mono (by decide) (by decide)⟩
    · show Steps p.tables e below (s₁.setTop (mkF m 1 #[.val (.int p0)] [(.int p0)])) _
      refine XS.ifNo X0.here hx rfl (hb hby own_d_pick_1) rfl ((if0 _ _).trans (teq hc1_1).2) ?_
      show Steps p.tables e below (s₁.setTop (mkF m 4 #[.val (.int p0)] [])) _
      refine st3 _ ?_
      show Steps p.tables e below (T3.setTop (mkF m 7 #[.val (.int p0)] [(.ref w_BIT)])) _
      exact own_retA X3 hx Bd.returns rfl rfl rfl (hb hby own_d_pick_7) hr
    · show Q_pick Z p0 w_BIT w_BOOLEAN w_UNSIGNED_BYTE w_SHORT w_INT w_LONG w_FLOAT w_DOUBLE w_CHAR w_UNICODE_CHAR w_POINT w_CIRCLE h0 n0 _ T3.heap _
      refine ⟨?_, N0, e3⟩
      rw [F_pick, if_pos hc1_1]
  · have pre5 : ∀ t, Steps p.tables e below (s₁.setTop (mkF m 10 #[.val (.int p0)] [(.int (1 : Int32)), (.int p0)])) t → Steps p.tables e below (s₁.setTop (entryFrame m #[(.int p0)] 1)) t := fun t k => pre2 t (by
      show Steps p.tables e below (s₁.setTop (mkF m 1 #[.val (.int p0)] [(.int p0)])) _
      refine XS.ifYes X0.here hx rfl (pc0 := 1) (pc' := 8) rfl (hb hby own_d_pick_1) rfl ((if0 _ _).trans (feq hc1_1).2) (by decide) (by decide) ?_
      show Steps p.tables e below (s₁.setTop (mkF m 8 #[.val (.int p0)] [])) _
      refine XS.iloadN X0.here hx rfl (hb hby own_d_pick_8) rfl ?_
      show Steps p.tables e below (s₁.setTop (mkF m 9 #[.val (.int p0)] [(.int p0)])) _
      refine XS.iconst X0.here hx rfl (hb hby own_d_pick_9) ?_
      exact k)
    by_cases hc10_4 : p0 = (1 : Int32)
    · obtain ⟨T6, X6, e6, st6⟩ := getS2 X0 hx hZ hown (host := "") (Or.inl (hw _ (List.mem_of_getElem? (i := 57) rfl))) Via.refl e0 S_BOOLEAN (g := (mkF m 13 #[.val (.int p0)] [])) rfl (hb hby own_d_pick_13)
      obtain ⟨fs, hr, hrun, hended, hW, hsame⟩ := X6.leave (v := some (.ref w_BOOLEAN)) (fun h => by rw [Bd.returns] at h; cases h)
      refine ⟨_, _, pre5 _ ?_, hrun, hended, _, _, rfl, ?_, ⟨_, rfl⟩, hW, hsame.mono (by decide) (by decide)⟩
      · show Steps p.tables e below (s₁.setTop (mkF m 10 #[.val (.int p0)] [(.int (1 : Int32)), (.int p0)])) _
        refine XS.icmpNo X0.here hx rfl (hb hby own_d_pick_10) rfl (teq hc10_4).2 ?_
        show Steps p.tables e below (s₁.setTop (mkF m 13 #[.val (.int p0)] [])) _
        refine st6 _ ?_
        show Steps p.tables e below (T6.setTop (mkF m 16 #[.val (.int p0)] [(.ref w_BOOLEAN)])) _
        exact own_retA X6 hx Bd.returns rfl rfl rfl (hb hby own_d_pick_16) hr
      · show Q_pick Z p0 w_BIT w_BOOLEAN w_UNSIGNED_BYTE w_SHORT w_INT w_LONG w_FLOAT w_DOUBLE w_CHAR w_UNICODE_CHAR w_POINT w_CIRCLE h0 n0 _ T6.heap _
        refine ⟨?_, N0, e6⟩
        rw [F_pick, if_neg hc1_1, if_pos hc10_4]
    · have pre8 : ∀ t, Steps p.tables e below (s₁.setTop (mkF m 19 #[.val (.int p0)] [(.int (2 : Int32)), (.int p0)])) t → Steps p.tables e below (s₁.setTop (entryFrame m #[(.int p0)] 1)) t := fun t k => pre5 t (by
        show Steps p.tables e below (s₁.setTop (mkF m 10 #[.val (.int p0)] [(.int (1 : Int32)), (.int p0)])) _
        refine XS.icmpYes X0.here hx rfl (pc0 := 10) (pc' := 17) rfl (hb hby own_d_pick_10) rfl (feq hc10_4).2 (by decide) (by decide) ?_
        show Steps p.tables e below (s₁.setTop (mkF m 17 #[.val (.int p0)] [])) _
        refine XS.iloadN X0.here hx rfl (hb hby own_d_pick_17) rfl ?_
        show Steps p.tables e below (s₁.setTop (mkF m 18 #[.val (.int p0)] [(.int p0)])) _
        refine XS.iconst X0.here hx rfl (hb hby own_d_pick_18) ?_
        exact k)
      by_cases hc19_7 : p0 = (2 : Int32)
      · obtain ⟨T9, X9, e9, st9⟩ := getS2 X0 hx hZ hown (host := "") (Or.inl (hw _ (List.mem_of_getElem? (i := 39) rfl))) Via.refl e0 S_UNSIGNED_BYTE (g := (mkF m 22 #[.val (.int p0)] [])) rfl (hb hby own_d_pick_22)
        obtain ⟨fs, hr, hrun, hended, hW, hsame⟩ := X9.leave (v := some (.ref w_UNSIGNED_BYTE)) (fun h => by rw [Bd.returns] at h; cases h)
        refine ⟨_, _, pre8 _ ?_, hrun, hended, _, _, rfl, ?_, ⟨_, rfl⟩, hW, hsame.mono (by decide) (by decide)⟩
        · show Steps p.tables e below (s₁.setTop (mkF m 19 #[.val (.int p0)] [(.int (2 : Int32)), (.int p0)])) _
          refine XS.icmpNo X0.here hx rfl (hb hby own_d_pick_19) rfl (teq hc19_7).2 ?_
          show Steps p.tables e below (s₁.setTop (mkF m 22 #[.val (.int p0)] [])) _
          refine st9 _ ?_
          show Steps p.tables e below (T9.setTop (mkF m 25 #[.val (.int p0)] [(.ref w_UNSIGNED_BYTE)])) _
          exact own_retA X9 hx Bd.returns rfl rfl rfl (hb hby own_d_pick_25) hr
        · show Q_pick Z p0 w_BIT w_BOOLEAN w_UNSIGNED_BYTE w_SHORT w_INT w_LONG w_FLOAT w_DOUBLE w_CHAR w_UNICODE_CHAR w_POINT w_CIRCLE h0 n0 _ T9.heap _
          refine ⟨?_, N0, e9⟩
          rw [F_pick, if_neg hc1_1, if_neg hc10_4, if_pos hc19_7]
      · have pre11 : ∀ t, Steps p.tables e below (s₁.setTop (mkF m 28 #[.val (.int p0)] [(.int (3 : Int32)), (.int p0)])) t → Steps p.tables e below (s₁.setTop (entryFrame m #[(.int p0)] 1)) t := fun t k => pre8 t (by
          show Steps p.tables e below (s₁.setTop (mkF m 19 #[.val (.int p0)] [(.int (2 : Int32)), (.int p0)])) _
          refine XS.icmpYes X0.here hx rfl (pc0 := 19) (pc' := 26) rfl (hb hby own_d_pick_19) rfl (feq hc19_7).2 (by decide) (by decide) ?_
          show Steps p.tables e below (s₁.setTop (mkF m 26 #[.val (.int p0)] [])) _
          refine XS.iloadN X0.here hx rfl (hb hby own_d_pick_26) rfl ?_
          show Steps p.tables e below (s₁.setTop (mkF m 27 #[.val (.int p0)] [(.int p0)])) _
          refine XS.iconst X0.here hx rfl (hb hby own_d_pick_27) ?_
          exact k)
        by_cases hc28_10 : p0 = (3 : Int32)
        · obtain ⟨T12, X12, e12, st12⟩ := getS2 X0 hx hZ hown (host := "") (Or.inl (hw _ (List.mem_of_getElem? (i := 37) rfl))) Via.refl e0 S_SHORT (g := (mkF m 31 #[.val (.int p0)] [])) rfl (hb hby own_d_pick_31)
          obtain ⟨fs, hr, hrun, hended, hW, hsame⟩ := X12.leave (v := some (.ref w_SHORT)) (fun h => by rw [Bd.returns] at h; cases h)
          refine ⟨_, _, pre11 _ ?_, hrun, hended, _, _, rfl, ?_, ⟨_, rfl⟩, hW, hsame.mono (by decide) (by decide)⟩
          · show Steps p.tables e below (s₁.setTop (mkF m 28 #[.val (.int p0)] [(.int (3 : Int32)), (.int p0)])) _
            refine XS.icmpNo X0.here hx rfl (hb hby own_d_pick_28) rfl (teq hc28_10).2 ?_
            show Steps p.tables e below (s₁.setTop (mkF m 31 #[.val (.int p0)] [])) _
            refine st12 _ ?_
            show Steps p.tables e below (T12.setTop (mkF m 34 #[.val (.int p0)] [(.ref w_SHORT)])) _
            exact own_retA X12 hx Bd.returns rfl rfl rfl (hb hby own_d_pick_34) hr
          · show Q_pick Z p0 w_BIT w_BOOLEAN w_UNSIGNED_BYTE w_SHORT w_INT w_LONG w_FLOAT w_DOUBLE w_CHAR w_UNICODE_CHAR w_POINT w_CIRCLE h0 n0 _ T12.heap _
            refine ⟨?_, N0, e12⟩
            rw [F_pick, if_neg hc1_1, if_neg hc10_4, if_neg hc19_7, if_pos hc28_10]
        · have pre14 : ∀ t, Steps p.tables e below (s₁.setTop (mkF m 37 #[.val (.int p0)] [(.int (4 : Int32)), (.int p0)])) t → Steps p.tables e below (s₁.setTop (entryFrame m #[(.int p0)] 1)) t := fun t k => pre11 t (by
            show Steps p.tables e below (s₁.setTop (mkF m 28 #[.val (.int p0)] [(.int (3 : Int32)), (.int p0)])) _
            refine XS.icmpYes X0.here hx rfl (pc0 := 28) (pc' := 35) rfl (hb hby own_d_pick_28) rfl (feq hc28_10).2 (by decide) (by decide) ?_
            show Steps p.tables e below (s₁.setTop (mkF m 35 #[.val (.int p0)] [])) _
            refine XS.iloadN X0.here hx rfl (hb hby own_d_pick_35) rfl ?_
            show Steps p.tables e below (s₁.setTop (mkF m 36 #[.val (.int p0)] [(.int p0)])) _
            refine XS.iconst X0.here hx rfl (hb hby own_d_pick_36) ?_
            exact k)
          by_cases hc37_13 : p0 = (4 : Int32)
          · obtain ⟨T15, X15, e15, st15⟩ := getS2 X0 hx hZ hown (host := "") (Or.inl (hw _ (List.mem_of_getElem? (i := 54) rfl))) Via.refl e0 S_INT (g := (mkF m 40 #[.val (.int p0)] [])) rfl (hb hby own_d_pick_40)
            obtain ⟨fs, hr, hrun, hended, hW, hsame⟩ := X15.leave (v := some (.ref w_INT)) (fun h => by rw [Bd.returns] at h; cases h)
            refine ⟨_, _, pre14 _ ?_, hrun, hended, _, _, rfl, ?_, ⟨_, rfl⟩, hW, hsame.mono (by decide) (by decide)⟩
            · show Steps p.tables e below (s₁.setTop (mkF m 37 #[.val (.int p0)] [(.int (4 : Int32)), (.int p0)])) _
              refine XS.icmpNo X0.here hx rfl (hb hby own_d_pick_37) rfl (teq hc37_13).2 ?_
              show Steps p.tables e below (s₁.setTop (mkF m 40 #[.val (.int p0)] [])) _
              refine st15 _ ?_
              show Steps p.tables e below (T15.setTop (mkF m 43 #[.val (.int p0)] [(.ref w_INT)])) _
              exact own_retA X15 hx Bd.returns rfl rfl rfl (hb hby own_d_pick_43) hr
            · show Q_pick Z p0 w_BIT w_BOOLEAN w_UNSIGNED_BYTE w_SHORT w_INT w_LONG w_FLOAT w_DOUBLE w_CHAR w_UNICODE_CHAR w_POINT w_CIRCLE h0 n0 _ T15.heap _
              refine ⟨?_, N0, e15⟩
              rw [F_pick, if_neg hc1_1, if_neg hc10_4, if_neg hc19_7, if_neg hc28_10, if_pos hc37_13]
          · have pre17 : ∀ t, Steps p.tables e below (s₁.setTop (mkF m 46 #[.val (.int p0)] [(.int (5 : Int32)), (.int p0)])) t → Steps p.tables e below (s₁.setTop (entryFrame m #[(.int p0)] 1)) t := fun t k => pre14 t (by
              show Steps p.tables e below (s₁.setTop (mkF m 37 #[.val (.int p0)] [(.int (4 : Int32)), (.int p0)])) _
              refine XS.icmpYes X0.here hx rfl (pc0 := 37) (pc' := 44) rfl (hb hby own_d_pick_37) rfl (feq hc37_13).2 (by decide) (by decide) ?_
              show Steps p.tables e below (s₁.setTop (mkF m 44 #[.val (.int p0)] [])) _
              refine XS.iloadN X0.here hx rfl (hb hby own_d_pick_44) rfl ?_
              show Steps p.tables e below (s₁.setTop (mkF m 45 #[.val (.int p0)] [(.int p0)])) _
              refine XS.iconst X0.here hx rfl (hb hby own_d_pick_45) ?_
              exact k)
            by_cases hc46_16 : p0 = (5 : Int32)
            · obtain ⟨T18, X18, e18, st18⟩ := getS2 X0 hx hZ hown (host := "") (Or.inl (hw _ (List.mem_of_getElem? (i := 64) rfl))) Via.refl e0 S_LONG (g := (mkF m 49 #[.val (.int p0)] [])) rfl (hb hby own_d_pick_49)
              obtain ⟨fs, hr, hrun, hended, hW, hsame⟩ := X18.leave (v := some (.ref w_LONG)) (fun h => by rw [Bd.returns] at h; cases h)
              refine ⟨_, _, pre17 _ ?_, hrun, hended, _, _, rfl, ?_, ⟨_, rfl⟩, hW, hsame.mono (by decide) (by decide)⟩
              · show Steps p.tables e below (s₁.setTop (mkF m 46 #[.val (.int p0)] [(.int (5 : Int32)), (.int p0)])) _
                refine XS.icmpNo X0.here hx rfl (hb hby own_d_pick_46) rfl (teq hc46_16).2 ?_
                show Steps p.tables e below (s₁.setTop (mkF m 49 #[.val (.int p0)] [])) _
                refine st18 _ ?_
                show Steps p.tables e below (T18.setTop (mkF m 52 #[.val (.int p0)] [(.ref w_LONG)])) _
                exact own_retA X18 hx Bd.returns rfl rfl rfl (hb hby own_d_pick_52) hr
              · show Q_pick Z p0 w_BIT w_BOOLEAN w_UNSIGNED_BYTE w_SHORT w_INT w_LONG w_FLOAT w_DOUBLE w_CHAR w_UNICODE_CHAR w_POINT w_CIRCLE h0 n0 _ T18.heap _
                refine ⟨?_, N0, e18⟩
                rw [F_pick, if_neg hc1_1, if_neg hc10_4, if_neg hc19_7, if_neg hc28_10, if_neg hc37_13, if_pos hc46_16]
            · have pre20 : ∀ t, Steps p.tables e below (s₁.setTop (mkF m 56 #[.val (.int p0)] [(.int (6 : Int32)), (.int p0)])) t → Steps p.tables e below (s₁.setTop (entryFrame m #[(.int p0)] 1)) t := fun t k => pre17 t (by
                show Steps p.tables e below (s₁.setTop (mkF m 46 #[.val (.int p0)] [(.int (5 : Int32)), (.int p0)])) _
                refine XS.icmpYes X0.here hx rfl (pc0 := 46) (pc' := 53) rfl (hb hby own_d_pick_46) rfl (feq hc46_16).2 (by decide) (by decide) ?_
                show Steps p.tables e below (s₁.setTop (mkF m 53 #[.val (.int p0)] [])) _
                refine XS.iloadN X0.here hx rfl (hb hby own_d_pick_53) rfl ?_
                show Steps p.tables e below (s₁.setTop (mkF m 54 #[.val (.int p0)] [(.int p0)])) _
                refine XS.bipush X0.here hx rfl (hb hby own_d_pick_54) ?_
                exact k)
              by_cases hc56_19 : p0 = (6 : Int32)
              · obtain ⟨T21, X21, e21, st21⟩ := getS2 X0 hx hZ hown (host := "") (Or.inl (hw _ (List.mem_of_getElem? (i := 62) rfl))) Via.refl e0 S_FLOAT (g := (mkF m 59 #[.val (.int p0)] [])) rfl (hb hby own_d_pick_59)
                obtain ⟨fs, hr, hrun, hended, hW, hsame⟩ := X21.leave (v := some (.ref w_FLOAT)) (fun h => by rw [Bd.returns] at h; cases h)
                refine ⟨_, _, pre20 _ ?_, hrun, hended, _, _, rfl, ?_, ⟨_, rfl⟩, hW, hsame.mono (by decide) (by decide)⟩
                · show Steps p.tables e below (s₁.setTop (mkF m 56 #[.val (.int p0)] [(.int (6 : Int32)), (.int p0)])) _
                  refine XS.icmpNo X0.here hx rfl (hb hby own_d_pick_56) rfl (teq hc56_19).2 ?_
                  show Steps p.tables e below (s₁.setTop (mkF m 59 #[.val (.int p0)] [])) _
                  refine st21 _ ?_
                  show Steps p.tables e below (T21.setTop (mkF m 62 #[.val (.int p0)] [(.ref w_FLOAT)])) _
                  exact own_retA X21 hx Bd.returns rfl rfl rfl (hb hby own_d_pick_62) hr
                · show Q_pick Z p0 w_BIT w_BOOLEAN w_UNSIGNED_BYTE w_SHORT w_INT w_LONG w_FLOAT w_DOUBLE w_CHAR w_UNICODE_CHAR w_POINT w_CIRCLE h0 n0 _ T21.heap _
                  refine ⟨?_, N0, e21⟩
                  rw [F_pick, if_neg hc1_1, if_neg hc10_4, if_neg hc19_7, if_neg hc28_10, if_neg hc37_13, if_neg hc46_16, if_pos hc56_19]
              · have pre23 : ∀ t, Steps p.tables e below (s₁.setTop (mkF m 66 #[.val (.int p0)] [(.int (7 : Int32)), (.int p0)])) t → Steps p.tables e below (s₁.setTop (entryFrame m #[(.int p0)] 1)) t := fun t k => pre20 t (by
                  show Steps p.tables e below (s₁.setTop (mkF m 56 #[.val (.int p0)] [(.int (6 : Int32)), (.int p0)])) _
                  refine XS.icmpYes X0.here hx rfl (pc0 := 56) (pc' := 63) rfl (hb hby own_d_pick_56) rfl (feq hc56_19).2 (by decide) (by decide) ?_
                  show Steps p.tables e below (s₁.setTop (mkF m 63 #[.val (.int p0)] [])) _
                  refine XS.iloadN X0.here hx rfl (hb hby own_d_pick_63) rfl ?_
                  show Steps p.tables e below (s₁.setTop (mkF m 64 #[.val (.int p0)] [(.int p0)])) _
                  refine XS.bipush X0.here hx rfl (hb hby own_d_pick_64) ?_
                  exact k)
                by_cases hc66_22 : p0 = (7 : Int32)
                · obtain ⟨T24, X24, e24, st24⟩ := getS2 X0 hx hZ hown (host := "") (Or.inl (hw _ (List.mem_of_getElem? (i := 41) rfl))) Via.refl e0 S_DOUBLE (g := (mkF m 69 #[.val (.int p0)] [])) rfl (hb hby own_d_pick_69)
                  obtain ⟨fs, hr, hrun, hended, hW, hsame⟩ := X24.leave (v := some (.ref w_DOUBLE)) (fun h => by rw [Bd.returns] at h; cases h)
                  refine ⟨_, _, pre23 _ ?_, hrun, hended, _, _, rfl, ?_, ⟨_, rfl⟩, hW, hsame.mono (by decide) (by decide)⟩
                  · show Steps p.tables e below (s₁.setTop (mkF m 66 #[.val (.int p0)] [(.int (7 : Int32)), (.int p0)])) _
                    refine XS.icmpNo X0.here hx rfl (hb hby own_d_pick_66) rfl (teq hc66_22).2 ?_
                    show Steps p.tables e below (s₁.setTop (mkF m 69 #[.val (.int p0)] [])) _
                    refine st24 _ ?_
                    show Steps p.tables e below (T24.setTop (mkF m 72 #[.val (.int p0)] [(.ref w_DOUBLE)])) _
                    exact own_retA X24 hx Bd.returns rfl rfl rfl (hb hby own_d_pick_72) hr
                  · show Q_pick Z p0 w_BIT w_BOOLEAN w_UNSIGNED_BYTE w_SHORT w_INT w_LONG w_FLOAT w_DOUBLE w_CHAR w_UNICODE_CHAR w_POINT w_CIRCLE h0 n0 _ T24.heap _
                    refine ⟨?_, N0, e24⟩
                    rw [F_pick, if_neg hc1_1, if_neg hc10_4, if_neg hc19_7, if_neg hc28_10, if_neg hc37_13, if_neg hc46_16, if_neg hc56_19, if_pos hc66_22]
                · have pre26 : ∀ t, Steps p.tables e below (s₁.setTop (mkF m 76 #[.val (.int p0)] [(.int (8 : Int32)), (.int p0)])) t → Steps p.tables e below (s₁.setTop (entryFrame m #[(.int p0)] 1)) t := fun t k => pre23 t (by
                    show Steps p.tables e below (s₁.setTop (mkF m 66 #[.val (.int p0)] [(.int (7 : Int32)), (.int p0)])) _
                    refine XS.icmpYes X0.here hx rfl (pc0 := 66) (pc' := 73) rfl (hb hby own_d_pick_66) rfl (feq hc66_22).2 (by decide) (by decide) ?_
                    show Steps p.tables e below (s₁.setTop (mkF m 73 #[.val (.int p0)] [])) _
                    refine XS.iloadN X0.here hx rfl (hb hby own_d_pick_73) rfl ?_
                    show Steps p.tables e below (s₁.setTop (mkF m 74 #[.val (.int p0)] [(.int p0)])) _
                    refine XS.bipush X0.here hx rfl (hb hby own_d_pick_74) ?_
                    exact k)
                  by_cases hc76_25 : p0 = (8 : Int32)
                  · obtain ⟨T27, X27, e27, st27⟩ := getS2 X0 hx hZ hown (host := "") (Or.inl (hw _ (List.mem_of_getElem? (i := 56) rfl))) Via.refl e0 S_CHAR (g := (mkF m 79 #[.val (.int p0)] [])) rfl (hb hby own_d_pick_79)
                    obtain ⟨fs, hr, hrun, hended, hW, hsame⟩ := X27.leave (v := some (.ref w_CHAR)) (fun h => by rw [Bd.returns] at h; cases h)
                    refine ⟨_, _, pre26 _ ?_, hrun, hended, _, _, rfl, ?_, ⟨_, rfl⟩, hW, hsame.mono (by decide) (by decide)⟩
                    · show Steps p.tables e below (s₁.setTop (mkF m 76 #[.val (.int p0)] [(.int (8 : Int32)), (.int p0)])) _
                      refine XS.icmpNo X0.here hx rfl (hb hby own_d_pick_76) rfl (teq hc76_25).2 ?_
                      show Steps p.tables e below (s₁.setTop (mkF m 79 #[.val (.int p0)] [])) _
                      refine st27 _ ?_
                      show Steps p.tables e below (T27.setTop (mkF m 82 #[.val (.int p0)] [(.ref w_CHAR)])) _
                      exact own_retA X27 hx Bd.returns rfl rfl rfl (hb hby own_d_pick_82) hr
                    · show Q_pick Z p0 w_BIT w_BOOLEAN w_UNSIGNED_BYTE w_SHORT w_INT w_LONG w_FLOAT w_DOUBLE w_CHAR w_UNICODE_CHAR w_POINT w_CIRCLE h0 n0 _ T27.heap _
                      refine ⟨?_, N0, e27⟩
                      rw [F_pick, if_neg hc1_1, if_neg hc10_4, if_neg hc19_7, if_neg hc28_10, if_neg hc37_13, if_neg hc46_16, if_neg hc56_19, if_neg hc66_22, if_pos hc76_25]
                  · have pre29 : ∀ t, Steps p.tables e below (s₁.setTop (mkF m 86 #[.val (.int p0)] [(.int (9 : Int32)), (.int p0)])) t → Steps p.tables e below (s₁.setTop (entryFrame m #[(.int p0)] 1)) t := fun t k => pre26 t (by
                      show Steps p.tables e below (s₁.setTop (mkF m 76 #[.val (.int p0)] [(.int (8 : Int32)), (.int p0)])) _
                      refine XS.icmpYes X0.here hx rfl (pc0 := 76) (pc' := 83) rfl (hb hby own_d_pick_76) rfl (feq hc76_25).2 (by decide) (by decide) ?_
                      show Steps p.tables e below (s₁.setTop (mkF m 83 #[.val (.int p0)] [])) _
                      refine XS.iloadN X0.here hx rfl (hb hby own_d_pick_83) rfl ?_
                      show Steps p.tables e below (s₁.setTop (mkF m 84 #[.val (.int p0)] [(.int p0)])) _
                      refine XS.bipush X0.here hx rfl (hb hby own_d_pick_84) ?_
                      exact k)
                    by_cases hc86_28 : p0 = (9 : Int32)
                    · obtain ⟨T30, X30, e30, st30⟩ := getS2 X0 hx hZ hown (host := "") (Or.inl (hw _ (List.mem_of_getElem? (i := 61) rfl))) Via.refl e0 S_UNICODE_CHAR (g := (mkF m 89 #[.val (.int p0)] [])) rfl (hb hby own_d_pick_89)
                      obtain ⟨fs, hr, hrun, hended, hW, hsame⟩ := X30.leave (v := some (.ref w_UNICODE_CHAR)) (fun h => by rw [Bd.returns] at h; cases h)
                      refine ⟨_, _, pre29 _ ?_, hrun, hended, _, _, rfl, ?_, ⟨_, rfl⟩, hW, hsame.mono (by decide) (by decide)⟩
                      · show Steps p.tables e below (s₁.setTop (mkF m 86 #[.val (.int p0)] [(.int (9 : Int32)), (.int p0)])) _
                        refine XS.icmpNo X0.here hx rfl (hb hby own_d_pick_86) rfl (teq hc86_28).2 ?_
                        show Steps p.tables e below (s₁.setTop (mkF m 89 #[.val (.int p0)] [])) _
                        refine st30 _ ?_
                        show Steps p.tables e below (T30.setTop (mkF m 92 #[.val (.int p0)] [(.ref w_UNICODE_CHAR)])) _
                        exact own_retA X30 hx Bd.returns rfl rfl rfl (hb hby own_d_pick_92) hr
                      · show Q_pick Z p0 w_BIT w_BOOLEAN w_UNSIGNED_BYTE w_SHORT w_INT w_LONG w_FLOAT w_DOUBLE w_CHAR w_UNICODE_CHAR w_POINT w_CIRCLE h0 n0 _ T30.heap _
                        refine ⟨?_, N0, e30⟩
                        rw [F_pick, if_neg hc1_1, if_neg hc10_4, if_neg hc19_7, if_neg hc28_10, if_neg hc37_13, if_neg hc46_16, if_neg hc56_19, if_neg hc66_22, if_neg hc76_25, if_pos hc86_28]
                    · have pre32 : ∀ t, Steps p.tables e below (s₁.setTop (mkF m 96 #[.val (.int p0)] [(.int (10 : Int32)), (.int p0)])) t → Steps p.tables e below (s₁.setTop (entryFrame m #[(.int p0)] 1)) t := fun t k => pre29 t (by
                        show Steps p.tables e below (s₁.setTop (mkF m 86 #[.val (.int p0)] [(.int (9 : Int32)), (.int p0)])) _
                        refine XS.icmpYes X0.here hx rfl (pc0 := 86) (pc' := 93) rfl (hb hby own_d_pick_86) rfl (feq hc86_28).2 (by decide) (by decide) ?_
                        show Steps p.tables e below (s₁.setTop (mkF m 93 #[.val (.int p0)] [])) _
                        refine XS.iloadN X0.here hx rfl (hb hby own_d_pick_93) rfl ?_
                        show Steps p.tables e below (s₁.setTop (mkF m 94 #[.val (.int p0)] [(.int p0)])) _
                        refine XS.bipush X0.here hx rfl (hb hby own_d_pick_94) ?_
                        exact k)
                      by_cases hc96_31 : p0 = (10 : Int32)
                      · obtain ⟨T33, X33, e33, st33⟩ := getS2 X0 hx hZ hown (host := "") (Or.inl (hw _ (List.mem_of_getElem? (i := 59) rfl))) Via.refl e0 S_POINT (g := (mkF m 99 #[.val (.int p0)] [])) rfl (hb hby own_d_pick_99)
                        obtain ⟨fs, hr, hrun, hended, hW, hsame⟩ := X33.leave (v := some (.ref w_POINT)) (fun h => by rw [Bd.returns] at h; cases h)
                        refine ⟨_, _, pre32 _ ?_, hrun, hended, _, _, rfl, ?_, ⟨_, rfl⟩, hW, hsame.mono (by decide) (by decide)⟩
                        · show Steps p.tables e below (s₁.setTop (mkF m 96 #[.val (.int p0)] [(.int (10 : Int32)), (.int p0)])) _
                          refine XS.icmpNo X0.here hx rfl (hb hby own_d_pick_96) rfl (teq hc96_31).2 ?_
                          show Steps p.tables e below (s₁.setTop (mkF m 99 #[.val (.int p0)] [])) _
                          refine st33 _ ?_
                          show Steps p.tables e below (T33.setTop (mkF m 102 #[.val (.int p0)] [(.ref w_POINT)])) _
                          exact own_retA X33 hx Bd.returns rfl rfl rfl (hb hby own_d_pick_102) hr
                        · show Q_pick Z p0 w_BIT w_BOOLEAN w_UNSIGNED_BYTE w_SHORT w_INT w_LONG w_FLOAT w_DOUBLE w_CHAR w_UNICODE_CHAR w_POINT w_CIRCLE h0 n0 _ T33.heap _
                          refine ⟨?_, N0, e33⟩
                          rw [F_pick, if_neg hc1_1, if_neg hc10_4, if_neg hc19_7, if_neg hc28_10, if_neg hc37_13, if_neg hc46_16, if_neg hc56_19, if_neg hc66_22, if_neg hc76_25, if_neg hc86_28, if_pos hc96_31]
                      · obtain ⟨T34, X34, e34, st34⟩ := getS2 X0 hx hZ hown (host := "") (Or.inl (hw _ (List.mem_of_getElem? (i := 43) rfl))) Via.refl e0 S_CIRCLE (g := (mkF m 103 #[.val (.int p0)] [])) rfl (hb hby own_d_pick_103)
                        obtain ⟨fs, hr, hrun, hended, hW, hsame⟩ := X34.leave (v := some (.ref w_CIRCLE)) (fun h => by rw [Bd.returns] at h; cases h)
                        refine ⟨_, _, pre32 _ ?_, hrun, hended, _, _, rfl, ?_, ⟨_, rfl⟩, hW, hsame.mono (by decide) (by decide)⟩
                        · show Steps p.tables e below (s₁.setTop (mkF m 96 #[.val (.int p0)] [(.int (10 : Int32)), (.int p0)])) _
                          refine XS.icmpYes X0.here hx rfl (pc0 := 96) (pc' := 103) rfl (hb hby own_d_pick_96) rfl (feq hc96_31).2 (by decide) (by decide) ?_
                          show Steps p.tables e below (s₁.setTop (mkF m 103 #[.val (.int p0)] [])) _
                          refine st34 _ ?_
                          show Steps p.tables e below (T34.setTop (mkF m 106 #[.val (.int p0)] [(.ref w_CIRCLE)])) _
                          exact own_retA X34 hx Bd.returns rfl rfl rfl (hb hby own_d_pick_106) hr
                        · show Q_pick Z p0 w_BIT w_BOOLEAN w_UNSIGNED_BYTE w_SHORT w_INT w_LONG w_FLOAT w_DOUBLE w_CHAR w_UNICODE_CHAR w_POINT w_CIRCLE h0 n0 _ T34.heap _
                          refine ⟨?_, N0, e34⟩
                          rw [F_pick, if_neg hc1_1, if_neg hc10_4, if_neg hc19_7, if_neg hc28_10, if_neg hc37_13, if_neg hc46_16, if_neg hc56_19, if_neg hc66_22, if_neg hc76_25, if_neg hc86_28, if_neg hc96_31]
theorem own_pn1 : plainName "com/example/starquarry/starquarry/model/ColumnType" = true := by first | (simp [plainName, overriddenIn]; done) | decide +kernel
theorem own_d_tx_0 : decode prog_120_method_14_code 0 = .ok (.aload_n 0, 1) := by decide +kernel
theorem own_d_tx_1 : decode prog_120_method_14_code 1 = .ok (.getstatic 28, 3) := by decide +kernel
theorem own_d_tx_4 : decode prog_120_method_14_code 4 = .ok (.if_acmp .eq 10, 3) := by decide +kernel
theorem own_d_tx_14 : decode prog_120_method_14_code 14 = .ok (.iconst 1, 1) := by decide +kernel
theorem own_d_tx_15 : decode prog_120_method_14_code 15 = .ok (.goto 4, 3) := by decide +kernel
theorem own_d_tx_19 : decode prog_120_method_14_code 19 = .ok (.ireturn, 1) := by decide +kernel
theorem own_d_tx_7 : decode prog_120_method_14_code 7 = .ok (.aload_n 0, 1) := by decide +kernel
theorem own_d_tx_8 : decode prog_120_method_14_code 8 = .ok (.getstatic 31, 3) := by decide +kernel
theorem own_d_tx_11 : decode prog_120_method_14_code 11 = .ok (.if_acmp .ne 7, 3) := by decide +kernel
theorem own_d_tx_18 : decode prog_120_method_14_code 18 = .ok (.iconst 0, 1) := by decide +kernel
def F_tx (a0 : Addr) (w_CHAR : Addr) (w_UNICODE_CHAR : Addr) : Int32 := (if a0 = w_CHAR then (1 : Int32) else (if a0 = w_UNICODE_CHAR then (1 : Int32) else (0 : Int32)))
theorem own_ef_tx (m : MethodId) (a0 : Addr) : entryFrame m #[(.ref a0)] 1 = mkF m 0 #[.val (.ref a0)] [] := by first | (simp [entryFrame, mkF, argsToLocals, Value.category]; done) | rfl
def Q_tx (Z : State) (a0 : Addr) (w_CHAR : Addr) (w_UNICODE_CHAR : Addr) (h0 : Heap) (n0 : Nat) (v : Option Value) (h : Heap) (L : List Loc) : Prop := v = some (.int (F_tx a0 w_CHAR w_UNICODE_CHAR)) ∧ Fr n0 L ∧ h = h0
set_option maxRecDepth 65536 in
set_option maxHeartbeats 40000000 in
theorem rm_tx (l : Launch) (Z : State) (a0' : Array Value) (hw : ∀ d ∈ tables_1, d.before a0' Z = true) (ws : List Jvm.Cond) (a0 : Addr) (w_CHAR : Addr) (w_UNICODE_CHAR : Addr) (h0 : Heap) (n0 : Nat) (Z0 : n0 ≤ h0.size) (S_CHAR : Sta Z h0 "com/example/starquarry/starquarry/model/ColumnType" "CHAR" "Lcom/example/starquarry/starquarry/model/ColumnType;" (.ref w_CHAR)) (S_UNICODE_CHAR : Sta Z h0 "com/example/starquarry/starquarry/model/ColumnType" "UNICODE_CHAR" "Lcom/example/starquarry/starquarry/model/ColumnType;" (.ref w_UNICODE_CHAR)) :
    MetFree l (⟨"com/example/starquarry/starquarry/model/ColumnType", "isText", "()Z"⟩ : MethodName) (head1 (Jvm.Cond.code (⟨"com/example/starquarry/starquarry/model/ColumnType", "isText", "()Z"⟩ : MethodName) prog_120_method_14_code 1 (some .boolean) :: ws) ({ frames := 0, cells := 0, slots := 0, locals := 0 } : Room)) (fun a U => a = #[(.ref a0)] ∧ Z.Warmed39 U.vm ∧ U.heap = h0) (fun _ _ _ _ _ => True) (fun _ U o U' => ∃ v L, o = .returned v ∧ Q_tx Z a0 w_CHAR w_UNICODE_CHAR h0 n0 v U'.heap L ∧ FrameEnd U o U' L ({ frames := 0, cells := 0, slots := 0, locals := 0 } : Room).cells ({ frames := 0, cells := 0, slots := 0, locals := 0 } : Room).slots) := by
  refine MetFree.of_bodySF (plainFor_of_name own_pn1) hisR ?_
  intro p e s m args below meth c s₁ Bd hml0 hP hK
  obtain ⟨rfl, hZ, hh⟩ := hP
  have hx := Bd.exec
  have hby := Bd.bytes
  have hml : c.maxLocals = 1 := hml0
  have hown : s.vm.findClass "com/example/starquarry/starquarry/model/ColumnType" = some m.cls := findClass_of_methodNamed Bd.named
  have hnm := (name_of_methodNamed Bd.named Bd.method).1
  have X0 : Stand p l e ({ frames := 0, cells := 0, slots := 0, locals := 0 } : Room) s m #[(.ref a0)] below meth c s₁ [] 0 0 := Stand.of_body Bd
  have e0 : s₁.heap = h0 := by rw [← hh, Bd.state]; rfl
  have N0 := Fr.nil n0
  have pre0 : ∀ t, Steps p.tables e below (s₁.setTop (mkF m 0 #[.val (.ref a0)] [])) t → Steps p.tables e below (s₁.setTop (entryFrame m #[(.ref a0)] 1)) t := fun t k => castTop (own_ef_tx m a0) k
  obtain ⟨T35, X35, e35, st35⟩ := getS2 X0 hx hZ hown (host := "") (Or.inl (hw _ (List.mem_of_getElem? (i := 33) rfl))) Via.refl e0 S_CHAR (g := (mkF m 1 #[.val (.ref a0)] [(.ref a0)])) rfl (hb hby own_d_tx_1)
  have pre37 : ∀ t, Steps p.tables e below (T35.setTop (mkF m 4 #[.val (.ref a0)] [(.ref w_CHAR), (.ref a0)])) t → Steps p.tables e below (s₁.setTop (entryFrame m #[(.ref a0)] 1)) t := fun t k => pre0 t (by
    show Steps p.tables e below (s₁.setTop (mkF m 0 #[.val (.ref a0)] [])) _
    refine XS.aloadN X0.here hx rfl (hb hby own_d_tx_0) rfl rfl ?_
    show Steps p.tables e below (s₁.setTop (mkF m 1 #[.val (.ref a0)] [(.ref a0)])) _
    refine st35 _ ?_
    exact k)
  by_cases hc4_36 : a0 = w_CHAR
  · obtain ⟨fs, hr, hrun, hended, hW, hsame⟩ := X35.leave (v := some (.int (1 : Int32))) (fun h => by rw [Bd.returns] at h; cases h)
    refine ⟨_, _, pre37 _ ?_, hrun, hended, _, _, rfl, ?_, ⟨_, rfl⟩, hW, hsame.mono (by decide) (by decide)⟩
    · show Steps p.tables e below (T35.setTop (mkF m 4 #[.val (.ref a0)] [(.ref w_CHAR), (.ref a0)])) _
      refine Jvm.RoadKit.acmp (g := (mkF m 4 #[.val (.ref a0)] [(.ref w_CHAR), (.ref a0)])) X35 hx rfl rfl rfl (pc0 := 4) (pc' := 14) (same := true) rfl (hb hby own_d_tx_4) rfl (decide_eq_true (congrArg Value.ref hc4_36)) (by decide) (by decide) ?_
      show Steps p.tables e below (T35.setTop (mkF m 14 #[.val (.ref a0)] [])) _
      refine XS.iconst X35.here hx rfl (hb hby own_d_tx_14) ?_
      show Steps p.tables e below (T35.setTop (mkF m 15 #[.val (.ref a0)] [(.int (1 : Int32))])) _
      refine XS.goto X35.here hx rfl (pc0 := 15) (pc' := 19) rfl (hb hby own_d_tx_15) (by decide) (by decide) ?_
      show Steps p.tables e below (T35.setTop (mkF m 19 #[.val (.ref a0)] [(.int (1 : Int32))])) _
      exact retN X35 hx (t := .boolean) Bd.returns (by simp) (hb hby own_d_tx_19) hr
    · show Q_tx Z a0 w_CHAR w_UNICODE_CHAR h0 n0 _ T35.heap _
      refine ⟨?_, N0, e35⟩
      rw [F_tx, if_pos hc4_36]
  · obtain ⟨T38, X38, e38, st38⟩ := getS2 X35 hx hZ hown (host := "") (Or.inl (hw _ (List.mem_of_getElem? (i := 35) rfl))) Via.refl e35 S_UNICODE_CHAR (g := (mkF m 8 #[.val (.ref a0)] [(.ref a0)])) rfl (hb hby own_d_tx_8)
    have pre40 : ∀ t, Steps p.tables e below (T38.setTop (mkF m 11 #[.val (.ref a0)] [(.ref w_UNICODE_CHAR), (.ref a0)])) t → Steps p.tables e below (s₁.setTop (entryFrame m #[(.ref a0)] 1)) t := fun t k => pre37 t (by
      show Steps p.tables e below (T35.setTop (mkF m 4 #[.val (.ref a0)] [(.ref w_CHAR), (.ref a0)])) _
      refine Jvm.RoadKit.acmp (g := (mkF m 4 #[.val (.ref a0)] [(.ref w_CHAR), (.ref a0)])) X35 hx rfl rfl rfl (pc0 := 4) (pc' := 7) (same := false) rfl (hb hby own_d_tx_4) rfl (decide_eq_false fun q => hc4_36 (Value.ref.inj q)) (by decide) (by decide) ?_
      show Steps p.tables e below (T35.setTop (mkF m 7 #[.val (.ref a0)] [])) _
      refine XS.aloadN X35.here hx rfl (hb hby own_d_tx_7) rfl rfl ?_
      show Steps p.tables e below (T35.setTop (mkF m 8 #[.val (.ref a0)] [(.ref a0)])) _
      refine st38 _ ?_
      exact k)
    by_cases hc11_39 : a0 = w_UNICODE_CHAR
    · obtain ⟨fs, hr, hrun, hended, hW, hsame⟩ := X38.leave (v := some (.int (1 : Int32))) (fun h => by rw [Bd.returns] at h; cases h)
      refine ⟨_, _, pre40 _ ?_, hrun, hended, _, _, rfl, ?_, ⟨_, rfl⟩, hW, hsame.mono (by decide) (by decide)⟩
      · show Steps p.tables e below (T38.setTop (mkF m 11 #[.val (.ref a0)] [(.ref w_UNICODE_CHAR), (.ref a0)])) _
        refine Jvm.RoadKit.acmp (g := (mkF m 11 #[.val (.ref a0)] [(.ref w_UNICODE_CHAR), (.ref a0)])) X38 hx rfl rfl rfl (pc0 := 11) (pc' := 14) (same := true) rfl (hb hby own_d_tx_11) rfl (decide_eq_true (congrArg Value.ref hc11_39)) (by decide) (by decide) ?_
        show Steps p.tables e below (T38.setTop (mkF m 14 #[.val (.ref a0)] [])) _
        refine XS.iconst X38.here hx rfl (hb hby own_d_tx_14) ?_
        show Steps p.tables e below (T38.setTop (mkF m 15 #[.val (.ref a0)] [(.int (1 : Int32))])) _
        refine XS.goto X38.here hx rfl (pc0 := 15) (pc' := 19) rfl (hb hby own_d_tx_15) (by decide) (by decide) ?_
        show Steps p.tables e below (T38.setTop (mkF m 19 #[.val (.ref a0)] [(.int (1 : Int32))])) _
        exact retN X38 hx (t := .boolean) Bd.returns (by simp) (hb hby own_d_tx_19) hr
      · show Q_tx Z a0 w_CHAR w_UNICODE_CHAR h0 n0 _ T38.heap _
        refine ⟨?_, N0, e38⟩
        rw [F_tx, if_neg hc4_36, if_pos hc11_39]
    · obtain ⟨fs, hr, hrun, hended, hW, hsame⟩ := X38.leave (v := some (.int (0 : Int32))) (fun h => by rw [Bd.returns] at h; cases h)
      refine ⟨_, _, pre40 _ ?_, hrun, hended, _, _, rfl, ?_, ⟨_, rfl⟩, hW, hsame.mono (by decide) (by decide)⟩
      · show Steps p.tables e below (T38.setTop (mkF m 11 #[.val (.ref a0)] [(.ref w_UNICODE_CHAR), (.ref a0)])) _
        refine Jvm.RoadKit.acmp (g := (mkF m 11 #[.val (.ref a0)] [(.ref w_UNICODE_CHAR), (.ref a0)])) X38 hx rfl rfl rfl (pc0 := 11) (pc' := 18) (same := false) rfl (hb hby own_d_tx_11) rfl (decide_eq_false fun q => hc11_39 (Value.ref.inj q)) (by decide) (by decide) ?_
        show Steps p.tables e below (T38.setTop (mkF m 18 #[.val (.ref a0)] [])) _
        refine XS.iconst X38.here hx rfl (hb hby own_d_tx_18) ?_
        show Steps p.tables e below (T38.setTop (mkF m 19 #[.val (.ref a0)] [(.int (0 : Int32))])) _
        exact retN X38 hx (t := .boolean) Bd.returns (by simp) (hb hby own_d_tx_19) hr
      · show Q_tx Z a0 w_CHAR w_UNICODE_CHAR h0 n0 _ T38.heap _
        refine ⟨?_, N0, e38⟩
        rw [F_tx, if_neg hc4_36, if_neg hc11_39]
theorem own_d_asN_0 : decode prog_120_method_7_code 0 = .ok (.aload_n 0, 1) := by decide +kernel
theorem own_d_asN_1 : decode prog_120_method_7_code 1 = .ok (.getfield 66, 3) := by decide +kernel
theorem own_d_asN_4 : decode prog_120_method_7_code 4 = .ok (.areturn, 1) := by decide +kernel
theorem own_ef_asN (m : MethodId) (a0 : Addr) : entryFrame m #[(.ref a0)] 1 = mkF m 0 #[.val (.ref a0)] [] := by first | (simp [entryFrame, mkF, argsToLocals, Value.category]; done) | rfl
def Q_asN (Z : State) (a0 : Addr) (h0 : Heap) (n0 : Nat) (v : Option Value) (h : Heap) (L : List Loc) : Prop := v = some .null ∧ Fr n0 L ∧ h = h0
set_option maxRecDepth 65536 in
set_option maxHeartbeats 40000000 in
theorem rm_asN (l : Launch) (Z : State) (a0' : Array Value) (hw : ∀ d ∈ tables_1, d.before a0' Z = true) (ws : List Jvm.Cond) (a0 : Addr) (h0 : Heap) (n0 : Nat) (Z0 : n0 ≤ h0.size) (FX : Fld Z h0 a0 "com/example/starquarry/starquarry/model/ColumnType" "arraysize" "Ljava/lang/String;" .null) :
    MetFree l (⟨"com/example/starquarry/starquarry/model/ColumnType", "arraysize", "()Ljava/lang/String;"⟩ : MethodName) (head1 (Jvm.Cond.code (⟨"com/example/starquarry/starquarry/model/ColumnType", "arraysize", "()Ljava/lang/String;"⟩ : MethodName) prog_120_method_7_code 1 (some (.object "java/lang/String")) :: ws) ({ frames := 0, cells := 0, slots := 0, locals := 0 } : Room)) (fun a U => a = #[(.ref a0)] ∧ Z.Warmed39 U.vm ∧ U.heap = h0) (fun _ _ _ _ _ => True) (fun _ U o U' => ∃ v L, o = .returned v ∧ Q_asN Z a0 h0 n0 v U'.heap L ∧ FrameEnd U o U' L ({ frames := 0, cells := 0, slots := 0, locals := 0 } : Room).cells ({ frames := 0, cells := 0, slots := 0, locals := 0 } : Room).slots) := by
  refine MetFree.of_bodySF (plainFor_of_name own_pn1) hisR ?_
  intro p e s m args below meth c s₁ Bd hml0 hP hK
  obtain ⟨rfl, hZ, hh⟩ := hP
  have hx := Bd.exec
  have hby := Bd.bytes
  have hml : c.maxLocals = 1 := hml0
  have hown : s.vm.findClass "com/example/starquarry/starquarry/model/ColumnType" = some m.cls := findClass_of_methodNamed Bd.named
  have hnm := (name_of_methodNamed Bd.named Bd.method).1
  have X0 : Stand p l e ({ frames := 0, cells := 0, slots := 0, locals := 0 } : Room) s m #[(.ref a0)] below meth c s₁ [] 0 0 := Stand.of_body Bd
  have e0 : s₁.heap = h0 := by rw [← hh, Bd.state]; rfl
  have N0 := Fr.nil n0
  have pre0 : ∀ t, Steps p.tables e below (s₁.setTop (mkF m 0 #[.val (.ref a0)] [])) t → Steps p.tables e below (s₁.setTop (entryFrame m #[(.ref a0)] 1)) t := fun t k => castTop (own_ef_asN m a0) k
  obtain ⟨T41, X41, e41, st41⟩ := getF X0 hx hZ hown (host := "") (Or.inl (hw _ (List.mem_of_getElem? (i := 21) rfl))) Via.refl e0 FX (g := (mkF m 1 #[.val (.ref a0)] [(.ref a0)])) rfl rfl (hb hby own_d_asN_1)
  obtain ⟨fs, hr, hrun, hended, hW, hsame⟩ := X41.leave (v := some .null) (fun h => by rw [Bd.returns] at h; cases h)
  refine ⟨_, _, pre0 _ ?_, hrun, hended, _, _, rfl, ?_, ⟨_, rfl⟩, hW, hsame.mono (by decide) (by decide)⟩
  · show Steps p.tables e below (s₁.setTop (mkF m 0 #[.val (.ref a0)] [])) _
    refine XS.aloadN X0.here hx rfl (hb hby own_d_asN_0) rfl rfl ?_
    show Steps p.tables e below (s₁.setTop (mkF m 1 #[.val (.ref a0)] [(.ref a0)])) _
    refine st41 _ ?_
    show Steps p.tables e below (T41.setTop (mkF m 4 #[.val (.ref a0)] [.null])) _
    exact own_retA X41 hx Bd.returns rfl rfl rfl (hb hby own_d_asN_4) hr
  · show Q_asN Z a0 h0 n0 _ T41.heap _
    refine ⟨?_, N0, e41⟩
    rfl
theorem own_d_asR_0 : decode prog_120_method_7_code 0 = .ok (.aload_n 0, 1) := by decide +kernel
theorem own_d_asR_1 : decode prog_120_method_7_code 1 = .ok (.getfield 66, 3) := by decide +kernel
theorem own_d_asR_4 : decode prog_120_method_7_code 4 = .ok (.areturn, 1) := by decide +kernel
def F_asR (r : Addr) : Addr := r
theorem own_ef_asR (m : MethodId) (a0 : Addr) : entryFrame m #[(.ref a0)] 1 = mkF m 0 #[.val (.ref a0)] [] := by first | (simp [entryFrame, mkF, argsToLocals, Value.category]; done) | rfl
def Q_asR (Z : State) (a0 : Addr) (r : Addr) (h0 : Heap) (n0 : Nat) (v : Option Value) (h : Heap) (L : List Loc) : Prop := v = some (.ref (F_asR r)) ∧ Fr n0 L ∧ h = h0
set_option maxRecDepth 65536 in
set_option maxHeartbeats 40000000 in
theorem rm_asR (l : Launch) (Z : State) (a0' : Array Value) (hw : ∀ d ∈ tables_1, d.before a0' Z = true) (ws : List Jvm.Cond) (a0 : Addr) (r : Addr) (h0 : Heap) (n0 : Nat) (Z0 : n0 ≤ h0.size) (FX : Fld Z h0 a0 "com/example/starquarry/starquarry/model/ColumnType" "arraysize" "Ljava/lang/String;" (.ref r)) :
    MetFree l (⟨"com/example/starquarry/starquarry/model/ColumnType", "arraysize", "()Ljava/lang/String;"⟩ : MethodName) (head1 (Jvm.Cond.code (⟨"com/example/starquarry/starquarry/model/ColumnType", "arraysize", "()Ljava/lang/String;"⟩ : MethodName) prog_120_method_7_code 1 (some (.object "java/lang/String")) :: ws) ({ frames := 0, cells := 0, slots := 0, locals := 0 } : Room)) (fun a U => a = #[(.ref a0)] ∧ Z.Warmed39 U.vm ∧ U.heap = h0) (fun _ _ _ _ _ => True) (fun _ U o U' => ∃ v L, o = .returned v ∧ Q_asR Z a0 r h0 n0 v U'.heap L ∧ FrameEnd U o U' L ({ frames := 0, cells := 0, slots := 0, locals := 0 } : Room).cells ({ frames := 0, cells := 0, slots := 0, locals := 0 } : Room).slots) := by
  refine MetFree.of_bodySF (plainFor_of_name own_pn1) hisR ?_
  intro p e s m args below meth c s₁ Bd hml0 hP hK
  obtain ⟨rfl, hZ, hh⟩ := hP
  have hx := Bd.exec
  have hby := Bd.bytes
  have hml : c.maxLocals = 1 := hml0
  have hown : s.vm.findClass "com/example/starquarry/starquarry/model/ColumnType" = some m.cls := findClass_of_methodNamed Bd.named
  have hnm := (name_of_methodNamed Bd.named Bd.method).1
  have X0 : Stand p l e ({ frames := 0, cells := 0, slots := 0, locals := 0 } : Room) s m #[(.ref a0)] below meth c s₁ [] 0 0 := Stand.of_body Bd
  have e0 : s₁.heap = h0 := by rw [← hh, Bd.state]; rfl
  have N0 := Fr.nil n0
  have pre0 : ∀ t, Steps p.tables e below (s₁.setTop (mkF m 0 #[.val (.ref a0)] [])) t → Steps p.tables e below (s₁.setTop (entryFrame m #[(.ref a0)] 1)) t := fun t k => castTop (own_ef_asR m a0) k
  obtain ⟨T42, X42, e42, st42⟩ := getF X0 hx hZ hown (host := "") (Or.inl (hw _ (List.mem_of_getElem? (i := 21) rfl))) Via.refl e0 FX (g := (mkF m 1 #[.val (.ref a0)] [(.ref a0)])) rfl rfl (hb hby own_d_asR_1)
  obtain ⟨fs, hr, hrun, hended, hW, hsame⟩ := X42.leave (v := some (.ref r)) (fun h => by rw [Bd.returns] at h; cases h)
  refine ⟨_, _, pre0 _ ?_, hrun, hended, _, _, rfl, ?_, ⟨_, rfl⟩, hW, hsame.mono (by decide) (by decide)⟩
  · show Steps p.tables e below (s₁.setTop (mkF m 0 #[.val (.ref a0)] [])) _
    refine XS.aloadN X0.here hx rfl (hb hby own_d_asR_0) rfl rfl ?_
    show Steps p.tables e below (s₁.setTop (mkF m 1 #[.val (.ref a0)] [(.ref a0)])) _
    refine st42 _ ?_
    show Steps p.tables e below (T42.setTop (mkF m 4 #[.val (.ref a0)] [(.ref r)])) _
    exact own_retA X42 hx Bd.returns rfl rfl rfl (hb hby own_d_asR_4) hr
  · show Q_asR Z a0 r h0 n0 _ T42.heap _
    refine ⟨?_, N0, e42⟩
    rw [F_asR]
theorem own_pn2 : plainName "java/lang/StringLatin1" = true := by first | (simp [plainName, overriddenIn]; done) | decide +kernel
theorem own_d_leq_0 : decode jdk_43_method_13_code 0 = .ok (.aload_n 0, 1) := by decide +kernel
theorem own_d_leq_1 : decode jdk_43_method_13_code 1 = .ok (.arraylength, 1) := by decide +kernel
theorem own_d_leq_2 : decode jdk_43_method_13_code 2 = .ok (.aload_n 1, 1) := by decide +kernel
theorem own_d_leq_3 : decode jdk_43_method_13_code 3 = .ok (.arraylength, 1) := by decide +kernel
theorem own_d_leq_4 : decode jdk_43_method_13_code 4 = .ok (.if_icmp .ne 30, 3) := by decide +kernel
theorem own_d_leq_7 : decode jdk_43_method_13_code 7 = .ok (.iconst 0, 1) := by decide +kernel
theorem own_d_leq_8 : decode jdk_43_method_13_code 8 = .ok (.istore_n 2, 1) := by decide +kernel
theorem own_d_leq_9 : decode jdk_43_method_13_code 9 = .ok (.iload_n 2, 1) := by decide +kernel
theorem own_d_leq_10 : decode jdk_43_method_13_code 10 = .ok (.aload_n 0, 1) := by decide +kernel
theorem own_d_leq_11 : decode jdk_43_method_13_code 11 = .ok (.arraylength, 1) := by decide +kernel
theorem own_d_leq_12 : decode jdk_43_method_13_code 12 = .ok (.if_icmp .ge 20, 3) := by decide +kernel
theorem own_d_leq_15 : decode jdk_43_method_13_code 15 = .ok (.aload_n 0, 1) := by decide +kernel
theorem own_d_leq_16 : decode jdk_43_method_13_code 16 = .ok (.iload_n 2, 1) := by decide +kernel
theorem own_d_leq_17 : decode jdk_43_method_13_code 17 = .ok (.baload, 1) := by decide +kernel
theorem own_d_leq_18 : decode jdk_43_method_13_code 18 = .ok (.aload_n 1, 1) := by decide +kernel
theorem own_d_leq_19 : decode jdk_43_method_13_code 19 = .ok (.iload_n 2, 1) := by decide +kernel
theorem own_d_leq_20 : decode jdk_43_method_13_code 20 = .ok (.baload, 1) := by decide +kernel
theorem own_d_leq_21 : decode jdk_43_method_13_code 21 = .ok (.if_icmp .eq 5, 3) := by decide +kernel
theorem own_d_leq_26 : decode jdk_43_method_13_code 26 = .ok (.iinc 2 1, 3) := by decide +kernel
theorem own_d_leq_29 : decode jdk_43_method_13_code 29 = .ok (.goto (-20), 3) := by decide +kernel
theorem own_d_leq_32 : decode jdk_43_method_13_code 32 = .ok (.iconst 1, 1) := by decide +kernel
theorem own_d_leq_33 : decode jdk_43_method_13_code 33 = .ok (.ireturn, 1) := by decide +kernel
theorem own_d_leq_24 : decode jdk_43_method_13_code 24 = .ok (.iconst 0, 1) := by decide +kernel
theorem own_d_leq_25 : decode jdk_43_method_13_code 25 = .ok (.ireturn, 1) := by decide +kernel
def F_leq (c0 : Int32) (c1 : Int32) : Int32 := (if c0 = c1 then (1 : Int32) else (0 : Int32))
theorem own_ef_leq (m : MethodId) (a0 : Addr) (a1 : Addr) : entryFrame m #[(.ref a0), (.ref a1)] 3 = mkF m 0 #[.val (.ref a0), .val (.ref a1), .unset] [] := by first | (simp [entryFrame, mkF, argsToLocals, Value.category]; done) | rfl
def Q_leq (Z : State) (a0 : Addr) (a1 : Addr) (cl0 : Cell) (cl1 : Cell) (c0 : Int32) (c1 : Int32) (h0 : Heap) (n0 : Nat) (v : Option Value) (h : Heap) (L : List Loc) : Prop := v = some (.int (F_leq c0 c1)) ∧ Fr n0 L ∧ h = h0
set_option maxRecDepth 65536 in
set_option maxHeartbeats 40000000 in
theorem rm_leq (l : Launch) (Z : State) (a0' : Array Value) (hw : ∀ d ∈ tables_1, d.before a0' Z = true) (ws : List Jvm.Cond) (a0 : Addr) (a1 : Addr) (cl0 : Cell) (cl1 : Cell) (c0 : Int32) (c1 : Int32) (h0 : Heap) (n0 : Nat) (Z0 : n0 ≤ h0.size) (A0 : Arr Z h0 a0 cl0 .byte) (A1 : Arr Z h0 a1 cl1 .byte) (z0 : cl0.slots.size = (1 : Int32).toNatClampNeg) (z1 : cl1.slots.size = (1 : Int32).toNatClampNeg) (t0 : cl0.slots[(0 : Int32).toNatClampNeg]? = some (.int c0)) (t1 : cl1.slots[(0 : Int32).toNatClampNeg]? = some (.int c1)) :
    MetFree l (⟨"java/lang/StringLatin1", "equals", "([B[B)Z"⟩ : MethodName) (head1 (Jvm.Cond.code (⟨"java/lang/StringLatin1", "equals", "([B[B)Z"⟩ : MethodName) jdk_43_method_13_code 3 (some .boolean) :: ws) ({ frames := 0, cells := 0, slots := 0, locals := 0 } : Room)) (fun a U => a = #[(.ref a0), (.ref a1)] ∧ Z.Warmed39 U.vm ∧ U.heap = h0) (fun _ _ _ _ _ => True) (fun _ U o U' => ∃ v L, o = .returned v ∧ Q_leq Z a0 a1 cl0 cl1 c0 c1 h0 n0 v U'.heap L ∧ FrameEnd U o U' L ({ frames := 0, cells := 0, slots := 0, locals := 0 } : Room).cells ({ frames := 0, cells := 0, slots := 0, locals := 0 } : Room).slots) := by
  refine MetFree.of_bodySF (plainFor_of_name own_pn2) hisR ?_
  intro p e s m args below meth c s₁ Bd hml0 hP hK
  obtain ⟨rfl, hZ, hh⟩ := hP
  have hx := Bd.exec
  have hby := Bd.bytes
  have hml : c.maxLocals = 3 := hml0
  have hown : s.vm.findClass "java/lang/StringLatin1" = some m.cls := findClass_of_methodNamed Bd.named
  have hnm := (name_of_methodNamed Bd.named Bd.method).1
  have X0 : Stand p l e ({ frames := 0, cells := 0, slots := 0, locals := 0 } : Room) s m #[(.ref a0), (.ref a1)] below meth c s₁ [] 0 0 := Stand.of_body Bd
  have e0 : s₁.heap = h0 := by rw [← hh, Bd.state]; rfl
  have N0 := Fr.nil n0
  have pre0 : ∀ t, Steps p.tables e below (s₁.setTop (mkF m 0 #[.val (.ref a0), .val (.ref a1), .unset] [])) t → Steps p.tables e below (s₁.setTop (entryFrame m #[(.ref a0), (.ref a1)] 3)) t := fun t k => castTop (own_ef_leq m a0 a1) k
  have pre44 : ∀ t, Steps p.tables e below (s₁.setTop (mkF m 21 #[.val (.ref a0), .val (.ref a1), .val (.int (0 : Int32))] [(.int c1), (.int c0)])) t → Steps p.tables e below (s₁.setTop (entryFrame m #[(.ref a0), (.ref a1)] 3)) t := fun t k => pre0 t (by
    show Steps p.tables e below (s₁.setTop (mkF m 0 #[.val (.ref a0), .val (.ref a1), .unset] [])) _
    refine XS.aloadN X0.here hx rfl (hb hby own_d_leq_0) rfl rfl ?_
    show Steps p.tables e below (s₁.setTop (mkF m 1 #[.val (.ref a0), .val (.ref a1), .unset] [(.ref a0)])) _
    refine X0.arraylength hx (by rw [e0]; exact A0.1) (State.isArrayOf_alike hZ.alike A0.2.1) (g := (mkF m 1 #[.val (.ref a0), .val (.ref a1), .unset] [(.ref a0)])) rfl rfl (hb hby own_d_leq_1) _ ?_
    rw [len_of z0 (by decide)]
    show Steps p.tables e below (s₁.setTop (mkF m 2 #[.val (.ref a0), .val (.ref a1), .unset] [(.int (1 : Int32))])) _
    refine XS.aloadN X0.here hx rfl (hb hby own_d_leq_2) rfl rfl ?_
    show Steps p.tables e below (s₁.setTop (mkF m 3 #[.val (.ref a0), .val (.ref a1), .unset] [(.ref a1), (.int (1 : Int32))])) _
    refine X0.arraylength hx (by rw [e0]; exact A1.1) (State.isArrayOf_alike hZ.alike A1.2.1) (g := (mkF m 3 #[.val (.ref a0), .val (.ref a1), .unset] [(.ref a1), (.int (1 : Int32))])) rfl rfl (hb hby own_d_leq_3) _ ?_
    rw [len_of z1 (by decide)]
    show Steps p.tables e below (s₁.setTop (mkF m 4 #[.val (.ref a0), .val (.ref a1), .unset] [(.int (1 : Int32)), (.int (1 : Int32))])) _
    refine XS.icmpNo X0.here hx rfl (hb hby own_d_leq_4) rfl (teq (by decide : (1 : Int32) = (1 : Int32))).2 ?_
    show Steps p.tables e below (s₁.setTop (mkF m 7 #[.val (.ref a0), .val (.ref a1), .unset] [])) _
    refine XS.iconst X0.here hx rfl (hb hby own_d_leq_7) ?_
    show Steps p.tables e below (s₁.setTop (mkF m 8 #[.val (.ref a0), .val (.ref a1), .unset] [(.int (0 : Int32))])) _
    refine XS.istoreN X0.here hx rfl (hb hby own_d_leq_8) rfl (l' := #[.val (.ref a0), .val (.ref a1), .val (.int (0 : Int32))]) rfl ?_
    show Steps p.tables e below (s₁.setTop (mkF m 9 #[.val (.ref a0), .val (.ref a1), .val (.int (0 : Int32))] [])) _
    refine XS.iloadN X0.here hx rfl (hb hby own_d_leq_9) rfl ?_
    show Steps p.tables e below (s₁.setTop (mkF m 10 #[.val (.ref a0), .val (.ref a1), .val (.int (0 : Int32))] [(.int (0 : Int32))])) _
    refine XS.aloadN X0.here hx rfl (hb hby own_d_leq_10) rfl rfl ?_
    show Steps p.tables e below (s₁.setTop (mkF m 11 #[.val (.ref a0), .val (.ref a1), .val (.int (0 : Int32))] [(.ref a0), (.int (0 : Int32))])) _
    refine X0.arraylength hx (by rw [e0]; exact A0.1) (State.isArrayOf_alike hZ.alike A0.2.1) (g := (mkF m 11 #[.val (.ref a0), .val (.ref a1), .val (.int (0 : Int32))] [(.ref a0), (.int (0 : Int32))])) rfl rfl (hb hby own_d_leq_11) _ ?_
    rw [len_of z0 (by decide)]
    show Steps p.tables e below (s₁.setTop (mkF m 12 #[.val (.ref a0), .val (.ref a1), .val (.int (0 : Int32))] [(.int (1 : Int32)), (.int (0 : Int32))])) _
    refine XS.icmpNo X0.here hx rfl (hb hby own_d_leq_12) rfl (tlt (by decide : (0 : Int32) < (1 : Int32))).2.1 ?_
    show Steps p.tables e below (s₁.setTop (mkF m 15 #[.val (.ref a0), .val (.ref a1), .val (.int (0 : Int32))] [])) _
    refine XS.aloadN X0.here hx rfl (hb hby own_d_leq_15) rfl rfl ?_
    show Steps p.tables e below (s₁.setTop (mkF m 16 #[.val (.ref a0), .val (.ref a1), .val (.int (0 : Int32))] [(.ref a0)])) _
    refine XS.iloadN X0.here hx rfl (hb hby own_d_leq_16) rfl ?_
    show Steps p.tables e below (s₁.setTop (mkF m 17 #[.val (.ref a0), .val (.ref a1), .val (.int (0 : Int32))] [(.int (0 : Int32)), (.ref a0)])) _
    refine X0.baloadBytes hx (j := (0 : Int32)) (v := (.int c0)) (by rw [e0]; exact A0.1) (State.isArrayOf_alike hZ.alike A0.2.1) A0.2.2 (inb_of z0 ⟨by decide, by decide⟩) t0 (g := (mkF m 17 #[.val (.ref a0), .val (.ref a1), .val (.int (0 : Int32))] [(.int (0 : Int32)), (.ref a0)])) rfl rfl (hb hby own_d_leq_17) _ ?_
    show Steps p.tables e below (s₁.setTop (mkF m 18 #[.val (.ref a0), .val (.ref a1), .val (.int (0 : Int32))] [(.int c0)])) _
    refine XS.aloadN X0.here hx rfl (hb hby own_d_leq_18) rfl rfl ?_
    show Steps p.tables e below (s₁.setTop (mkF m 19 #[.val (.ref a0), .val (.ref a1), .val (.int (0 : Int32))] [(.ref a1), (.int c0)])) _
    refine XS.iloadN X0.here hx rfl (hb hby own_d_leq_19) rfl ?_
    show Steps p.tables e below (s₁.setTop (mkF m 20 #[.val (.ref a0), .val (.ref a1), .val (.int (0 : Int32))] [(.int (0 : Int32)), (.ref a1), (.int c0)])) _
    refine X0.baloadBytes hx (j := (0 : Int32)) (v := (.int c1)) (by rw [e0]; exact A1.1) (State.isArrayOf_alike hZ.alike A1.2.1) A1.2.2 (inb_of z1 ⟨by decide, by decide⟩) t1 (g := (mkF m 20 #[.val (.ref a0), .val (.ref a1), .val (.int (0 : Int32))] [(.int (0 : Int32)), (.ref a1), (.int c0)])) rfl rfl (hb hby own_d_leq_20) _ ?_
    exact k)
  by_cases hc21_43 : c0 = c1
  · obtain ⟨fs, hr, hrun, hended, hW, hsame⟩ := X0.leave (v := some (.int (1 : Int32))) (fun h => by rw [Bd.returns] at h; cases h)
    refine ⟨_, _, pre44 _ ?_, hrun, hended, _, _, rfl, ?_, ⟨_, rfl⟩, hW, hsame.mono (by decide) (by decide)⟩
    · show Steps p.tables e below (s₁.setTop (mkF m 21 #[.val (.ref a0), .val (.ref a1), .val (.int (0 : Int32))] [(.int c1), (.int c0)])) _
      refine XS.icmpYes X0.here hx rfl (pc0 := 21) (pc' := 26) rfl (hb hby own_d_leq_21) rfl (teq hc21_43).1 (by decide) (by decide) ?_
      show Steps p.tables e below (s₁.setTop (mkF m 26 #[.val (.ref a0), .val (.ref a1), .val (.int (0 : Int32))] [])) _
      refine XS.iinc X0.here hx rfl (hb hby own_d_leq_26) rfl (l' := #[.val (.ref a0), .val (.ref a1), .val (.int ((0 : Int32) + (1 : Int32)))]) rfl ?_
      show Steps p.tables e below (s₁.setTop (mkF m 29 #[.val (.ref a0), .val (.ref a1), .val (.int ((0 : Int32) + (1 : Int32)))] [])) _
      refine XS.goto X0.here hx rfl (pc0 := 29) (pc' := 9) rfl (hb hby own_d_leq_29) (by decide) (by decide) ?_
      show Steps p.tables e below (s₁.setTop (mkF m 9 #[.val (.ref a0), .val (.ref a1), .val (.int ((0 : Int32) + (1 : Int32)))] [])) _
      refine XS.iloadN X0.here hx rfl (hb hby own_d_leq_9) rfl ?_
      show Steps p.tables e below (s₁.setTop (mkF m 10 #[.val (.ref a0), .val (.ref a1), .val (.int ((0 : Int32) + (1 : Int32)))] [(.int ((0 : Int32) + (1 : Int32)))])) _
      refine XS.aloadN X0.here hx rfl (hb hby own_d_leq_10) rfl rfl ?_
      show Steps p.tables e below (s₁.setTop (mkF m 11 #[.val (.ref a0), .val (.ref a1), .val (.int ((0 : Int32) + (1 : Int32)))] [(.ref a0), (.int ((0 : Int32) + (1 : Int32)))])) _
      refine X0.arraylength hx (by rw [e0]; exact A0.1) (State.isArrayOf_alike hZ.alike A0.2.1) (g := (mkF m 11 #[.val (.ref a0), .val (.ref a1), .val (.int ((0 : Int32) + (1 : Int32)))] [(.ref a0), (.int ((0 : Int32) + (1 : Int32)))])) rfl rfl (hb hby own_d_leq_11) _ ?_
      rw [len_of z0 (by decide)]
      show Steps p.tables e below (s₁.setTop (mkF m 12 #[.val (.ref a0), .val (.ref a1), .val (.int ((0 : Int32) + (1 : Int32)))] [(.int (1 : Int32)), (.int ((0 : Int32) + (1 : Int32)))])) _
      refine XS.icmpYes X0.here hx rfl (pc0 := 12) (pc' := 32) rfl (hb hby own_d_leq_12) rfl (flt (by decide : ¬ (((0 : Int32) + (1 : Int32)) < (1 : Int32)))).2.1 (by decide) (by decide) ?_
      show Steps p.tables e below (s₁.setTop (mkF m 32 #[.val (.ref a0), .val (.ref a1), .val (.int ((0 : Int32) + (1 : Int32)))] [])) _
      refine XS.iconst X0.here hx rfl (hb hby own_d_leq_32) ?_
      show Steps p.tables e below (s₁.setTop (mkF m 33 #[.val (.ref a0), .val (.ref a1), .val (.int ((0 : Int32) + (1 : Int32)))] [(.int (1 : Int32))])) _
      exact retN X0 hx (t := .boolean) Bd.returns (by simp) (hb hby own_d_leq_33) hr
    · show Q_leq Z a0 a1 cl0 cl1 c0 c1 h0 n0 _ s₁.heap _
      refine ⟨?_, N0, e0⟩
      rw [F_leq, if_pos hc21_43]
  · obtain ⟨fs, hr, hrun, hended, hW, hsame⟩ := X0.leave (v := some (.int (0 : Int32))) (fun h => by rw [Bd.returns] at h; cases h)
    refine ⟨_, _, pre44 _ ?_, hrun, hended, _, _, rfl, ?_, ⟨_, rfl⟩, hW, hsame.mono (by decide) (by decide)⟩
    · show Steps p.tables e below (s₁.setTop (mkF m 21 #[.val (.ref a0), .val (.ref a1), .val (.int (0 : Int32))] [(.int c1), (.int c0)])) _
      refine XS.icmpNo X0.here hx rfl (hb hby own_d_leq_21) rfl (feq hc21_43).1 ?_
      show Steps p.tables e below (s₁.setTop (mkF m 24 #[.val (.ref a0), .val (.ref a1), .val (.int (0 : Int32))] [])) _
      refine XS.iconst X0.here hx rfl (hb hby own_d_leq_24) ?_
      show Steps p.tables e below (s₁.setTop (mkF m 25 #[.val (.ref a0), .val (.ref a1), .val (.int (0 : Int32))] [(.int (0 : Int32))])) _
      exact retN X0 hx (t := .boolean) Bd.returns (by simp) (hb hby own_d_leq_25) hr
    · show Q_leq Z a0 a1 cl0 cl1 c0 c1 h0 n0 _ s₁.heap _
      refine ⟨?_, N0, e0⟩
      rw [F_leq, if_neg hc21_43]
theorem own_pn3 : plainName "java/lang/String" = true := by first | (simp [plainName, overriddenIn]; done) | decide +kernel
theorem own_d_seqN_0 : decode jdk_42_method_66_code 0 = .ok (.aload_n 0, 1) := by decide +kernel
theorem own_d_seqN_1 : decode jdk_42_method_66_code 1 = .ok (.aload_n 1, 1) := by decide +kernel
theorem own_d_seqN_2 : decode jdk_42_method_66_code 2 = .ok (.if_acmp .ne 5, 3) := by decide +kernel
theorem own_d_seqN_7 : decode jdk_42_method_66_code 7 = .ok (.aload_n 1, 1) := by decide +kernel
theorem own_d_seqN_8 : decode jdk_42_method_66_code 8 = .ok (.instanceof 10, 3) := by decide +kernel
theorem own_d_seqN_11 : decode jdk_42_method_66_code 11 = .ok (.ifCond .eq 43, 3) := by decide +kernel
theorem own_d_seqN_54 : decode jdk_42_method_66_code 54 = .ok (.iconst 0, 1) := by decide +kernel
theorem own_d_seqN_55 : decode jdk_42_method_66_code 55 = .ok (.ireturn, 1) := by decide +kernel
def F_seqN  : Int32 := (0 : Int32)
theorem own_ef_seqN (m : MethodId) (a0 : Addr) : entryFrame m #[(.ref a0), .null] 3 = mkF m 0 #[.val (.ref a0), .val .null, .unset] [] := by first | (simp [entryFrame, mkF, argsToLocals, Value.category]; done) | rfl
def Q_seqN (Z : State) (a0 : Addr) (h0 : Heap) (n0 : Nat) (v : Option Value) (h : Heap) (L : List Loc) : Prop := v = some (.int F_seqN) ∧ Fr n0 L ∧ h = h0
set_option maxRecDepth 65536 in
set_option maxHeartbeats 40000000 in
theorem rm_seqN (l : Launch) (Z : State) (a0' : Array Value) (hw : ∀ d ∈ tables_1, d.before a0' Z = true) (ws : List Jvm.Cond) (a0 : Addr) (h0 : Heap) (n0 : Nat) (Z0 : n0 ≤ h0.size) :
    MetFree l (⟨"java/lang/String", "equals", "(Ljava/lang/Object;)Z"⟩ : MethodName) (head1 (Jvm.Cond.code (⟨"java/lang/String", "equals", "(Ljava/lang/Object;)Z"⟩ : MethodName) jdk_42_method_66_code 3 (some .boolean) :: ws) ({ frames := 0, cells := 0, slots := 0, locals := 0 } : Room)) (fun a U => a = #[(.ref a0), .null] ∧ Z.Warmed39 U.vm ∧ U.heap = h0) (fun _ _ _ _ _ => True) (fun _ U o U' => ∃ v L, o = .returned v ∧ Q_seqN Z a0 h0 n0 v U'.heap L ∧ FrameEnd U o U' L ({ frames := 0, cells := 0, slots := 0, locals := 0 } : Room).cells ({ frames := 0, cells := 0, slots := 0, locals := 0 } : Room).slots) := by
  refine MetFree.of_bodySF (plainFor_of_name own_pn3) hisR ?_
  intro p e s m args below meth c s₁ Bd hml0 hP hK
  obtain ⟨rfl, hZ, hh⟩ := hP
  have hx := Bd.exec
  have hby := Bd.bytes
  have hml : c.maxLocals = 3 := hml0
  have hown : s.vm.findClass "java/lang/String" = some m.cls := findClass_of_methodNamed Bd.named
  have hnm := (name_of_methodNamed Bd.named Bd.method).1
  have X0 : Stand p l e ({ frames := 0, cells := 0, slots := 0, locals := 0 } : Room) s m #[(.ref a0), .null] below meth c s₁ [] 0 0 := Stand.of_body Bd
  have e0 : s₁.heap = h0 := by rw [← hh, Bd.state]; rfl
  have N0 := Fr.nil n0
  have pre0 : ∀ t, Steps p.tables e below (s₁.setTop (mkF m 0 #[.val (.ref a0), .val .null, .unset] [])) t → Steps p.tables e below (s₁.setTop (entryFrame m #[(.ref a0), .null] 3)) t := fun t k => castTop (own_ef_seqN m a0) k
  obtain ⟨fs, hr, hrun, hended, hW, hsame⟩ := X0.leave (v := some (.int (0 : Int32))) (fun h => by rw [Bd.returns] at h; cases h)
  refine ⟨_, _, pre0 _ ?_, hrun, hended, _, _, rfl, ?_, ⟨_, rfl⟩, hW, hsame.mono (by decide) (by decide)⟩
  · show Steps p.tables e below (s₁.setTop (mkF m 0 #[.val (.ref a0), .val .null, .unset] [])) _
    refine XS.aloadN X0.here hx rfl (hb hby own_d_seqN_0) rfl rfl ?_
    show Steps p.tables e below (s₁.setTop (mkF m 1 #[.val (.ref a0), .val .null, .unset] [(.ref a0)])) _
    refine XS.aloadN X0.here hx rfl (hb hby own_d_seqN_1) rfl rfl ?_
    show Steps p.tables e below (s₁.setTop (mkF m 2 #[.val (.ref a0), .val .null, .unset] [.null, (.ref a0)])) _
    refine Jvm.RoadKit.acmp (g := (mkF m 2 #[.val (.ref a0), .val .null, .unset] [.null, (.ref a0)])) X0 hx rfl rfl rfl (pc0 := 2) (pc' := 7) (same := false) rfl (hb hby own_d_seqN_2) rfl (decide_eq_false nofun) (by decide) (by decide) ?_
    show Steps p.tables e below (s₁.setTop (mkF m 7 #[.val (.ref a0), .val .null, .unset] [])) _
    refine XS.aloadN X0.here hx rfl (hb hby own_d_seqN_7) rfl rfl ?_
    show Steps p.tables e below (s₁.setTop (mkF m 8 #[.val (.ref a0), .val .null, .unset] [.null])) _
    refine X0.instanceofNull hx (g := (mkF m 8 #[.val (.ref a0), .val .null, .unset] [.null])) rfl rfl (hb hby own_d_seqN_8) _ ?_
    show Steps p.tables e below (s₁.setTop (mkF m 11 #[.val (.ref a0), .val .null, .unset] [(.int (0 : Int32))])) _
    refine XS.ifYes X0.here hx rfl (pc0 := 11) (pc' := 54) rfl (hb hby own_d_seqN_11) rfl ((if0 _ _).trans (teq (by decide : (0 : Int32) = (0 : Int32))).1) (by decide) (by decide) ?_
    show Steps p.tables e below (s₁.setTop (mkF m 54 #[.val (.ref a0), .val .null, .unset] [])) _
    refine XS.iconst X0.here hx rfl (hb hby own_d_seqN_54) ?_
    show Steps p.tables e below (s₁.setTop (mkF m 55 #[.val (.ref a0), .val .null, .unset] [(.int (0 : Int32))])) _
    exact retN X0 hx (t := .boolean) Bd.returns (by simp) (hb hby own_d_seqN_55) hr
  · show Q_seqN Z a0 h0 n0 _ s₁.heap _
    refine ⟨?_, N0, e0⟩
    rw [F_seqN]
theorem own_d_seqR_0 : decode jdk_42_method_66_code 0 = .ok (.aload_n 0, 1) := by decide +kernel
theorem own_d_seqR_1 : decode jdk_42_method_66_code 1 = .ok (.aload_n 1, 1) := by decide +kernel
theorem own_d_seqR_2 : decode jdk_42_method_66_code 2 = .ok (.if_acmp .ne 5, 3) := by decide +kernel
theorem own_d_seqR_5 : decode jdk_42_method_66_code 5 = .ok (.iconst 1, 1) := by decide +kernel
theorem own_d_seqR_6 : decode jdk_42_method_66_code 6 = .ok (.ireturn, 1) := by decide +kernel
theorem own_d_seqR_7 : decode jdk_42_method_66_code 7 = .ok (.aload_n 1, 1) := by decide +kernel
theorem own_d_seqR_8 : decode jdk_42_method_66_code 8 = .ok (.instanceof 10, 3) := by decide +kernel
theorem own_d_seqR_11 : decode jdk_42_method_66_code 11 = .ok (.ifCond .eq 43, 3) := by decide +kernel
theorem own_d_seqR_14 : decode jdk_42_method_66_code 14 = .ok (.aload_n 1, 1) := by decide +kernel
theorem own_d_seqR_15 : decode jdk_42_method_66_code 15 = .ok (.checkcast 10, 3) := by decide +kernel
theorem own_d_seqR_18 : decode jdk_42_method_66_code 18 = .ok (.astore_n 2, 1) := by decide +kernel
theorem own_d_seqR_19 : decode jdk_42_method_66_code 19 = .ok (.getstatic 38, 3) := by decide +kernel
theorem own_d_seqR_22 : decode jdk_42_method_66_code 22 = .ok (.ifCond .eq 14, 3) := by decide +kernel
theorem own_d_seqR_25 : decode jdk_42_method_66_code 25 = .ok (.aload_n 0, 1) := by decide +kernel
theorem own_d_seqR_26 : decode jdk_42_method_66_code 26 = .ok (.getfield 15, 3) := by decide +kernel
theorem own_d_seqR_29 : decode jdk_42_method_66_code 29 = .ok (.aload_n 2, 1) := by decide +kernel
theorem own_d_seqR_30 : decode jdk_42_method_66_code 30 = .ok (.getfield 15, 3) := by decide +kernel
theorem own_d_seqR_33 : decode jdk_42_method_66_code 33 = .ok (.if_icmp .ne 21, 3) := by decide +kernel
theorem own_d_seqR_36 : decode jdk_42_method_66_code 36 = .ok (.aload_n 0, 1) := by decide +kernel
theorem own_d_seqR_37 : decode jdk_42_method_66_code 37 = .ok (.getfield 9, 3) := by decide +kernel
theorem own_d_seqR_40 : decode jdk_42_method_66_code 40 = .ok (.aload_n 2, 1) := by decide +kernel
theorem own_d_seqR_41 : decode jdk_42_method_66_code 41 = .ok (.getfield 9, 3) := by decide +kernel
theorem own_d_seqR_44 : decode jdk_42_method_66_code 44 = .ok (.invokestatic 541, 3) := by decide +kernel
theorem own_pd0 : parseMethodDescriptor "([B[B)Z" = some ⟨[(.array .byte), (.array .byte)], some .boolean⟩ := by decide +kernel
theorem own_d_seqR_47 : decode jdk_42_method_66_code 47 = .ok (.ifCond .eq 7, 3) := by decide +kernel
theorem own_d_seqR_54 : decode jdk_42_method_66_code 54 = .ok (.iconst 0, 1) := by decide +kernel
theorem own_d_seqR_55 : decode jdk_42_method_66_code 55 = .ok (.ireturn, 1) := by decide +kernel
theorem own_d_seqR_50 : decode jdk_42_method_66_code 50 = .ok (.iconst 1, 1) := by decide +kernel
theorem own_d_seqR_51 : decode jdk_42_method_66_code 51 = .ok (.goto 4, 3) := by decide +kernel
def F_seqR (c0 : Int32) (c1 : Int32) : Int32 := (if c0 = c1 then (1 : Int32) else (0 : Int32))
theorem own_ef_seqR (m : MethodId) (a0 : Addr) (a1 : Addr) : entryFrame m #[(.ref a0), (.ref a1)] 3 = mkF m 0 #[.val (.ref a0), .val (.ref a1), .unset] [] := by first | (simp [entryFrame, mkF, argsToLocals, Value.category]; done) | rfl
def Q_seqR (Z : State) (a0 : Addr) (a1 : Addr) (v0 : Addr) (v1 : Addr) (cl0 : Cell) (cl1 : Cell) (c0 : Int32) (c1 : Int32) (kc : Int32) (h0 : Heap) (n0 : Nat) (v : Option Value) (h : Heap) (L : List Loc) : Prop := v = some (.int (F_seqR c0 c1)) ∧ Fr n0 L ∧ h = h0
set_option maxRecDepth 65536 in
set_option maxHeartbeats 40000000 in
theorem rm_seqR (l : Launch) (Z : State) (a0' : Array Value) (hw : ∀ d ∈ tables_1, d.before a0' Z = true) (ws : List Jvm.Cond) (a0 : Addr) (a1 : Addr) (v0 : Addr) (v1 : Addr) (cl0 : Cell) (cl1 : Cell) (c0 : Int32) (c1 : Int32) (kc : Int32) (h0 : Heap) (n0 : Nat) (Z0 : n0 ≤ h0.size) (E1 : Exa Z h0 a1 "java/lang/String") (C0 : Fld Z h0 a0 "java/lang/String" "coder" "B" (.int (0 : Int32))) (C1 : Fld Z h0 a1 "java/lang/String" "coder" "B" (.int (0 : Int32))) (V0 : Fld Z h0 a0 "java/lang/String" "value" "[B" (.ref v0)) (V1 : Fld Z h0 a1 "java/lang/String" "value" "[B" (.ref v1)) (A0 : Arr Z h0 v0 cl0 .byte) (A1 : Arr Z h0 v1 cl1 .byte) (z0 : cl0.slots.size = (1 : Int32).toNatClampNeg) (z1 : cl1.slots.size = (1 : Int32).toNatClampNeg) (t0 : cl0.slots[(0 : Int32).toNatClampNeg]? = some (.int c0)) (t1 : cl1.slots[(0 : Int32).toNatClampNeg]? = some (.int c1)) (S_cs : Sta Z h0 "java/lang/String" "COMPACT_STRINGS" "Z" (.int kc)) (hkc : ¬ (kc = (0 : Int32))) :
    MetFree l (⟨"java/lang/String", "equals", "(Ljava/lang/Object;)Z"⟩ : MethodName) (head1 (Jvm.Cond.code (⟨"java/lang/String", "equals", "(Ljava/lang/Object;)Z"⟩ : MethodName) jdk_42_method_66_code 3 (some .boolean) :: ws) ({ frames := 1, cells := 0, slots := 0, locals := 14 } : Room)) (fun a U => a = #[(.ref a0), (.ref a1)] ∧ Z.Warmed39 U.vm ∧ U.heap = h0) (fun _ _ _ _ _ => True) (fun _ U o U' => ∃ v L, o = .returned v ∧ Q_seqR Z a0 a1 v0 v1 cl0 cl1 c0 c1 kc h0 n0 v U'.heap L ∧ FrameEnd U o U' L ({ frames := 1, cells := 0, slots := 0, locals := 14 } : Room).cells ({ frames := 1, cells := 0, slots := 0, locals := 14 } : Room).slots) := by
  refine MetFree.of_bodySF (plainFor_of_name own_pn3) hisR ?_
  intro p e s m args below meth c s₁ Bd hml0 hP hK
  obtain ⟨rfl, hZ, hh⟩ := hP
  have hx := Bd.exec
  have hby := Bd.bytes
  have hml : c.maxLocals = 3 := hml0
  have hown : s.vm.findClass "java/lang/String" = some m.cls := findClass_of_methodNamed Bd.named
  have hnm := (name_of_methodNamed Bd.named Bd.method).1
  have X0 : Stand p l e ({ frames := 1, cells := 0, slots := 0, locals := 14 } : Room) s m #[(.ref a0), (.ref a1)] below meth c s₁ [] 0 0 := Stand.of_body Bd
  have e0 : s₁.heap = h0 := by rw [← hh, Bd.state]; rfl
  have N0 := Fr.nil n0
  have pre0 : ∀ t, Steps p.tables e below (s₁.setTop (mkF m 0 #[.val (.ref a0), .val (.ref a1), .unset] [])) t → Steps p.tables e below (s₁.setTop (entryFrame m #[(.ref a0), (.ref a1)] 3)) t := fun t k => castTop (own_ef_seqR m a0 a1) k
  have pre46 : ∀ t, Steps p.tables e below (s₁.setTop (mkF m 2 #[.val (.ref a0), .val (.ref a1), .unset] [(.ref a1), (.ref a0)])) t → Steps p.tables e below (s₁.setTop (entryFrame m #[(.ref a0), (.ref a1)] 3)) t := fun t k => pre0 t (by
    show Steps p.tables e below (s₁.setTop (mkF m 0 #[.val (.ref a0), .val (.ref a1), .unset] [])) _
    refine XS.aloadN X0.here hx rfl (hb hby own_d_seqR_0) rfl rfl ?_
    show Steps p.tables e below (s₁.setTop (mkF m 1 #[.val (.ref a0), .val (.ref a1), .unset] [(.ref a0)])) _
    refine XS.aloadN X0.here hx rfl (hb hby own_d_seqR_1) rfl rfl ?_
    exact k)
  by_cases hc2_45 : a0 = a1
  · obtain ⟨fs, hr, hrun, hended, hW, hsame⟩ := X0.leave (v := some (.int (1 : Int32))) (fun h => by rw [Bd.returns] at h; cases h)
    refine ⟨_, _, pre46 _ ?_, hrun, hended, _, _, rfl, ?_, ⟨_, rfl⟩, hW, hsame.mono (by decide) (by decide)⟩
    · show Steps p.tables e below (s₁.setTop (mkF m 2 #[.val (.ref a0), .val (.ref a1), .unset] [(.ref a1), (.ref a0)])) _
      refine Jvm.RoadKit.acmp (g := (mkF m 2 #[.val (.ref a0), .val (.ref a1), .unset] [(.ref a1), (.ref a0)])) X0 hx rfl rfl rfl (pc0 := 2) (pc' := 5) (same := true) rfl (hb hby own_d_seqR_2) rfl (decide_eq_true (congrArg Value.ref hc2_45)) (by decide) (by decide) ?_
      show Steps p.tables e below (s₁.setTop (mkF m 5 #[.val (.ref a0), .val (.ref a1), .unset] [])) _
      refine XS.iconst X0.here hx rfl (hb hby own_d_seqR_5) ?_
      show Steps p.tables e below (s₁.setTop (mkF m 6 #[.val (.ref a0), .val (.ref a1), .unset] [(.int (1 : Int32))])) _
      exact retN X0 hx (t := .boolean) Bd.returns (by simp) (hb hby own_d_seqR_6) hr
    · show Q_seqR Z a0 a1 v0 v1 cl0 cl1 c0 c1 kc h0 n0 _ s₁.heap _
      refine ⟨?_, N0, e0⟩
      subst hc2_45
      rw [F_seqR, if_pos (own_same V0 V1 A0 A1 t0 t1)]
  · obtain ⟨T47, X47, e47, st47⟩ := instY X0 hx hZ hown (hw _ (List.mem_of_getElem? (i := 45) rfl)) e0 (Ins.self E1) (g := (mkF m 8 #[.val (.ref a0), .val (.ref a1), .unset] [(.ref a1)])) rfl rfl (hb hby own_d_seqR_8)
    obtain ⟨T48, X48, e48, st48⟩ := castY X47 hx hZ hown (hw _ (List.mem_of_getElem? (i := 45) rfl)) e47 (Ins.self E1) (g := (mkF m 15 #[.val (.ref a0), .val (.ref a1), .unset] [(.ref a1)])) rfl rfl (hb hby own_d_seqR_15)
    obtain ⟨T49, X49, e49, st49⟩ := getS2 X48 hx hZ hown (host := "") (Or.inl (hw _ (List.mem_of_getElem? (i := 47) rfl))) Via.refl e48 S_cs (g := (mkF m 19 #[.val (.ref a0), .val (.ref a1), .val (.ref a1)] [])) rfl (hb hby own_d_seqR_19)
    obtain ⟨T50, X50, e50, st50⟩ := getF X49 hx hZ hown (host := "") (Or.inl (hw _ (List.mem_of_getElem? (i := 48) rfl))) Via.refl e49 C0 (g := (mkF m 26 #[.val (.ref a0), .val (.ref a1), .val (.ref a1)] [(.ref a0)])) rfl rfl (hb hby own_d_seqR_26)
    obtain ⟨T51, X51, e51, st51⟩ := getF X50 hx hZ hown (host := "") (Or.inl (hw _ (List.mem_of_getElem? (i := 48) rfl))) Via.refl e50 C1 (g := (mkF m 30 #[.val (.ref a0), .val (.ref a1), .val (.ref a1)] [(.ref a1), (.int (0 : Int32))])) rfl rfl (hb hby own_d_seqR_30)
    obtain ⟨T52, X52, e52, st52⟩ := getF X51 hx hZ hown (host := "") (Or.inl (hw _ (List.mem_of_getElem? (i := 49) rfl))) Via.refl e51 V0 (g := (mkF m 37 #[.val (.ref a0), .val (.ref a1), .val (.ref a1)] [(.ref a0)])) rfl rfl (hb hby own_d_seqR_37)
    obtain ⟨T53, X53, e53, st53⟩ := getF X52 hx hZ hown (host := "") (Or.inl (hw _ (List.mem_of_getElem? (i := 49) rfl))) Via.refl e52 V1 (g := (mkF m 41 #[.val (.ref a0), .val (.ref a1), .val (.ref a1)] [(.ref a1), (.ref v0)])) rfl rfl (hb hby own_d_seqR_41)
    obtain ⟨_, _, ⟨T54, L54, k54, n54⟩, -, X54, ⟨Lc54, hQ54, l54, y54, z54⟩, st54⟩ := Jvm.LawKit.callS X53 hx (y := (⟨"java/lang/StringLatin1", "equals", "([B[B)Z"⟩ : MethodName)) hown (mvT hZ (hw _ (List.mem_of_getElem? (i := 50) rfl))) (mvT hZ (hw _ (List.mem_of_getElem? (i := 51) rfl))) (mvT hZ (hw _ (List.mem_of_getElem? (i := 52) rfl))) (mvT hZ (hw _ (List.mem_of_getElem? (i := 53) rfl))) (by decide) (backOf (W := 0) (rm_leq l Z a0' hw [] v0 v1 cl0 cl1 c0 c1 h0 n0 Z0 A0 A1 z0 z1 t0 t1) hZ (hw _ (List.mem_of_getElem? (i := 53) rfl)) (hw _ (List.mem_of_getElem? (i := 52) rfl)) (by decide) (by decide)) (g := (mkF m 44 #[.val (.ref a0), .val (.ref a1), .val (.ref a1)] [(.ref v1), (.ref v0)])) rfl (by rw [hml]; rfl) (argsL := [(.ref v0), (.ref v1)]) (rest := []) (lenOf own_pd0 rfl) rfl (by show 2 * 0 + _ ≤ _; exact Nat.le_of_eq rfl) (hb hby own_d_seqR_44) (fun _ _ => ⟨rfl, e53, (by decide : 0 + 0 ≤ _), (by decide : 0 + 0 ≤ _)⟩)
    dsimp only [Pt.U, Pt.locs, Pt.cells, Pt.slots] at X54 l54 y54 z54 st54 hQ54
    subst l54 y54 z54
    obtain ⟨rfl, N54q, e54⟩ := hQ54
    have N54 := Fr.app N0 N54q
    have pre56 : ∀ t, Steps p.tables e below (T54.setTop (mkF m 47 #[.val (.ref a0), .val (.ref a1), .val (.ref a1)] [(.int (F_leq c0 c1))])) t → Steps p.tables e below (s₁.setTop (entryFrame m #[(.ref a0), (.ref a1)] 3)) t := fun t k => pre46 t (by
      show Steps p.tables e below (s₁.setTop (mkF m 2 #[.val (.ref a0), .val (.ref a1), .unset] [(.ref a1), (.ref a0)])) _
      refine Jvm.RoadKit.acmp (g := (mkF m 2 #[.val (.ref a0), .val (.ref a1), .unset] [(.ref a1), (.ref a0)])) X0 hx rfl rfl rfl (pc0 := 2) (pc' := 7) (same := false) rfl (hb hby own_d_seqR_2) rfl (decide_eq_false fun q => hc2_45 (Value.ref.inj q)) (by decide) (by decide) ?_
      show Steps p.tables e below (s₁.setTop (mkF m 7 #[.val (.ref a0), .val (.ref a1), .unset] [])) _
      refine XS.aloadN X0.here hx rfl (hb hby own_d_seqR_7) rfl rfl ?_
      show Steps p.tables e below (s₁.setTop (mkF m 8 #[.val (.ref a0), .val (.ref a1), .unset] [(.ref a1)])) _
      refine st47 _ ?_
      show Steps p.tables e below (T47.setTop (mkF m 11 #[.val (.ref a0), .val (.ref a1), .unset] [(.int (1 : Int32))])) _
      refine XS.ifNo X47.here hx rfl (hb hby own_d_seqR_11) rfl ((if0 _ _).trans (feq (by decide : ¬ ((1 : Int32) = (0 : Int32)))).1) ?_
      show Steps p.tables e below (T47.setTop (mkF m 14 #[.val (.ref a0), .val (.ref a1), .unset] [])) _
      refine XS.aloadN X47.here hx rfl (hb hby own_d_seqR_14) rfl rfl ?_
      show Steps p.tables e below (T47.setTop (mkF m 15 #[.val (.ref a0), .val (.ref a1), .unset] [(.ref a1)])) _
      refine st48 _ ?_
      show Steps p.tables e below (T48.setTop (mkF m 18 #[.val (.ref a0), .val (.ref a1), .unset] [(.ref a1)])) _
      refine XS.astoreN X48.here hx rfl (hb hby own_d_seqR_18) rfl rfl (l' := #[.val (.ref a0), .val (.ref a1), .val (.ref a1)]) rfl ?_
      show Steps p.tables e below (T48.setTop (mkF m 19 #[.val (.ref a0), .val (.ref a1), .val (.ref a1)] [])) _
      refine st49 _ ?_
      show Steps p.tables e below (T49.setTop (mkF m 22 #[.val (.ref a0), .val (.ref a1), .val (.ref a1)] [(.int kc)])) _
      refine XS.ifNo X49.here hx rfl (hb hby own_d_seqR_22) rfl ((if0 _ _).trans (feq hkc).1) ?_
      show Steps p.tables e below (T49.setTop (mkF m 25 #[.val (.ref a0), .val (.ref a1), .val (.ref a1)] [])) _
      refine XS.aloadN X49.here hx rfl (hb hby own_d_seqR_25) rfl rfl ?_
      show Steps p.tables e below (T49.setTop (mkF m 26 #[.val (.ref a0), .val (.ref a1), .val (.ref a1)] [(.ref a0)])) _
      refine st50 _ ?_
      show Steps p.tables e below (T50.setTop (mkF m 29 #[.val (.ref a0), .val (.ref a1), .val (.ref a1)] [(.int (0 : Int32))])) _
      refine XS.aloadN X50.here hx rfl (hb hby own_d_seqR_29) rfl rfl ?_
      show Steps p.tables e below (T50.setTop (mkF m 30 #[.val (.ref a0), .val (.ref a1), .val (.ref a1)] [(.ref a1), (.int (0 : Int32))])) _
      refine st51 _ ?_
      show Steps p.tables e below (T51.setTop (mkF m 33 #[.val (.ref a0), .val (.ref a1), .val (.ref a1)] [(.int (0 : Int32)), (.int (0 : Int32))])) _
      refine XS.icmpNo X51.here hx rfl (hb hby own_d_seqR_33) rfl (teq (by decide : (0 : Int32) = (0 : Int32))).2 ?_
      show Steps p.tables e below (T51.setTop (mkF m 36 #[.val (.ref a0), .val (.ref a1), .val (.ref a1)] [])) _
      refine XS.aloadN X51.here hx rfl (hb hby own_d_seqR_36) rfl rfl ?_
      show Steps p.tables e below (T51.setTop (mkF m 37 #[.val (.ref a0), .val (.ref a1), .val (.ref a1)] [(.ref a0)])) _
      refine st52 _ ?_
      show Steps p.tables e below (T52.setTop (mkF m 40 #[.val (.ref a0), .val (.ref a1), .val (.ref a1)] [(.ref v0)])) _
      refine XS.aloadN X52.here hx rfl (hb hby own_d_seqR_40) rfl rfl ?_
      show Steps p.tables e below (T52.setTop (mkF m 41 #[.val (.ref a0), .val (.ref a1), .val (.ref a1)] [(.ref a1), (.ref v0)])) _
      refine st53 _ ?_
      show Steps p.tables e below (T53.setTop (mkF m 44 #[.val (.ref a0), .val (.ref a1), .val (.ref a1)] [(.ref v1), (.ref v0)])) _
      refine st54 _ ?_
      exact k)
    by_cases hc47_55 : (F_leq c0 c1) = (0 : Int32)
    · obtain ⟨fs, hr, hrun, hended, hW, hsame⟩ := X54.leave (v := some (.int (0 : Int32))) (fun h => by rw [Bd.returns] at h; cases h)
      refine ⟨_, _, pre56 _ ?_, hrun, hended, _, _, rfl, ?_, ⟨_, rfl⟩, hW, hsame.mono (by decide) (by decide)⟩
      · show Steps p.tables e below (T54.setTop (mkF m 47 #[.val (.ref a0), .val (.ref a1), .val (.ref a1)] [(.int (F_leq c0 c1))])) _
        refine XS.ifYes X54.here hx rfl (pc0 := 47) (pc' := 54) rfl (hb hby own_d_seqR_47) rfl ((if0 _ _).trans (teq hc47_55).1) (by decide) (by decide) ?_
        show Steps p.tables e below (T54.setTop (mkF m 54 #[.val (.ref a0), .val (.ref a1), .val (.ref a1)] [])) _
        refine XS.iconst X54.here hx rfl (hb hby own_d_seqR_54) ?_
        show Steps p.tables e below (T54.setTop (mkF m 55 #[.val (.ref a0), .val (.ref a1), .val (.ref a1)] [(.int (0 : Int32))])) _
        exact retN X54 hx (t := .boolean) Bd.returns (by simp) (hb hby own_d_seqR_55) hr
      · show Q_seqR Z a0 a1 v0 v1 cl0 cl1 c0 c1 kc h0 n0 _ T54.heap _
        refine ⟨?_, N54, e54⟩
        unfold F_seqR; unfold F_leq at hc47_55; by_cases hq : c0 = c1 <;> simp_all
    · obtain ⟨fs, hr, hrun, hended, hW, hsame⟩ := X54.leave (v := some (.int (1 : Int32))) (fun h => by rw [Bd.returns] at h; cases h)
      refine ⟨_, _, pre56 _ ?_, hrun, hended, _, _, rfl, ?_, ⟨_, rfl⟩, hW, hsame.mono (by decide) (by decide)⟩
      · show Steps p.tables e below (T54.setTop (mkF m 47 #[.val (.ref a0), .val (.ref a1), .val (.ref a1)] [(.int (F_leq c0 c1))])) _
        refine XS.ifNo X54.here hx rfl (hb hby own_d_seqR_47) rfl ((if0 _ _).trans (feq hc47_55).1) ?_
        show Steps p.tables e below (T54.setTop (mkF m 50 #[.val (.ref a0), .val (.ref a1), .val (.ref a1)] [])) _
        refine XS.iconst X54.here hx rfl (hb hby own_d_seqR_50) ?_
        show Steps p.tables e below (T54.setTop (mkF m 51 #[.val (.ref a0), .val (.ref a1), .val (.ref a1)] [(.int (1 : Int32))])) _
        refine XS.goto X54.here hx rfl (pc0 := 51) (pc' := 55) rfl (hb hby own_d_seqR_51) (by decide) (by decide) ?_
        show Steps p.tables e below (T54.setTop (mkF m 55 #[.val (.ref a0), .val (.ref a1), .val (.ref a1)] [(.int (1 : Int32))])) _
        exact retN X54 hx (t := .boolean) Bd.returns (by simp) (hb hby own_d_seqR_55) hr
      · show Q_seqR Z a0 a1 v0 v1 cl0 cl1 c0 c1 kc h0 n0 _ T54.heap _
        refine ⟨?_, N54, e54⟩
        unfold F_seqR; unfold F_leq at hc47_55; by_cases hq : c0 = c1 <;> simp_all
theorem own_pd1 : parseMethodDescriptor "(I)Lcom/example/starquarry/starquarry/model/ColumnType;" = some ⟨[.int], some (.object "com/example/starquarry/starquarry/model/ColumnType")⟩ := by decide +kernel
theorem own_pd2 : parseMethodDescriptor "()Ljava/lang/String;" = some ⟨[], some (.object "java/lang/String")⟩ := by decide +kernel
theorem own_pd3 : parseMethodDescriptor "(Ljava/lang/Object;)Z" = some ⟨[(.object "java/lang/Object")], some .boolean⟩ := by decide +kernel
theorem own_pd4 : parseMethodDescriptor "()Z" = some ⟨[], some .boolean⟩ := by decide +kernel
def F_law (p0 : Int32) : Int32 := (if ((p0 &&& (2147483647 : Int32)) % (12 : Int32)) = (0 : Int32) then (1 : Int32) else (if ((p0 &&& (2147483647 : Int32)) % (12 : Int32)) = (1 : Int32) then (1 : Int32) else (if ((p0 &&& (2147483647 : Int32)) % (12 : Int32)) = (2 : Int32) then (1 : Int32) else (if ((p0 &&& (2147483647 : Int32)) % (12 : Int32)) = (3 : Int32) then (1 : Int32) else (if ((p0 &&& (2147483647 : Int32)) % (12 : Int32)) = (4 : Int32) then (1 : Int32) else (if ((p0 &&& (2147483647 : Int32)) % (12 : Int32)) = (5 : Int32) then (1 : Int32) else (if ((p0 &&& (2147483647 : Int32)) % (12 : Int32)) = (6 : Int32) then (1 : Int32) else (if ((p0 &&& (2147483647 : Int32)) % (12 : Int32)) = (7 : Int32) then (1 : Int32) else (if ((p0 &&& (2147483647 : Int32)) % (12 : Int32)) = (8 : Int32) then (1 : Int32) else (if ((p0 &&& (2147483647 : Int32)) % (12 : Int32)) = (9 : Int32) then (1 : Int32) else (if ((p0 &&& (2147483647 : Int32)) % (12 : Int32)) = (10 : Int32) then (1 : Int32) else (1 : Int32))))))))))))
theorem own_ef_law (m : MethodId) (p0 : Int32) : entryFrame m #[(.int p0)] maxLocals = mkF m 0 #[.val (.int p0), .unset, .unset, .unset, .unset, .unset] [] := by first | (simp [entryFrame, mkF, argsToLocals, Value.category, maxLocals]; done) | rfl
def Q_law (Z : State) (p0 : Int32) (w_BIT : Addr) (w_BOOLEAN : Addr) (w_UNSIGNED_BYTE : Addr) (w_SHORT : Addr) (w_INT : Addr) (w_LONG : Addr) (w_FLOAT : Addr) (w_DOUBLE : Addr) (w_CHAR : Addr) (w_UNICODE_CHAR : Addr) (w_POINT : Addr) (w_CIRCLE : Addr) (kc : Int32) (l_CHAR : Addr) (v_CHAR : Addr) (cl_CHAR : Cell) (l_POINT : Addr) (v_POINT : Addr) (cl_POINT : Cell) (l_CIRCLE : Addr) (v_CIRCLE : Addr) (cl_CIRCLE : Cell) (h0 : Heap) (n0 : Nat) (v : Option Value) (h : Heap) (L : List Loc) : Prop := v = some (.int (F_law p0)) ∧ Fr n0 L ∧ True
set_option maxRecDepth 65536 in
set_option maxHeartbeats 40000000 in
theorem rm_law (l : Launch) (Z : State) (a0' : Array Value) (hw : ∀ d ∈ tables_1, d.before a0' Z = true) (ws : List Jvm.Cond) (p0 : Int32) (w_BIT : Addr) (w_BOOLEAN : Addr) (w_UNSIGNED_BYTE : Addr) (w_SHORT : Addr) (w_INT : Addr) (w_LONG : Addr) (w_FLOAT : Addr) (w_DOUBLE : Addr) (w_CHAR : Addr) (w_UNICODE_CHAR : Addr) (w_POINT : Addr) (w_CIRCLE : Addr) (kc : Int32) (l_CHAR : Addr) (v_CHAR : Addr) (cl_CHAR : Cell) (l_POINT : Addr) (v_POINT : Addr) (cl_POINT : Cell) (l_CIRCLE : Addr) (v_CIRCLE : Addr) (cl_CIRCLE : Cell) (h0 : Heap) (n0 : Nat) (Z0 : n0 ≤ h0.size) (hn0 : h0.size ≤ n0) (HCH : Jvm.Lit.constHeld Z "com/example/starquarry/starquarry/model/ColumnTypeIsTextPinLaw" 53) (hcw : Jvm.Lit.compactW.before a0' Z = true) (S_BIT : Sta Z h0 "com/example/starquarry/starquarry/model/ColumnType" "BIT" "Lcom/example/starquarry/starquarry/model/ColumnType;" (.ref w_BIT)) (E_BIT : Exa Z h0 w_BIT "com/example/starquarry/starquarry/model/ColumnType") (S_BOOLEAN : Sta Z h0 "com/example/starquarry/starquarry/model/ColumnType" "BOOLEAN" "Lcom/example/starquarry/starquarry/model/ColumnType;" (.ref w_BOOLEAN)) (E_BOOLEAN : Exa Z h0 w_BOOLEAN "com/example/starquarry/starquarry/model/ColumnType") (S_UNSIGNED_BYTE : Sta Z h0 "com/example/starquarry/starquarry/model/ColumnType" "UNSIGNED_BYTE" "Lcom/example/starquarry/starquarry/model/ColumnType;" (.ref w_UNSIGNED_BYTE)) (E_UNSIGNED_BYTE : Exa Z h0 w_UNSIGNED_BYTE "com/example/starquarry/starquarry/model/ColumnType") (S_SHORT : Sta Z h0 "com/example/starquarry/starquarry/model/ColumnType" "SHORT" "Lcom/example/starquarry/starquarry/model/ColumnType;" (.ref w_SHORT)) (E_SHORT : Exa Z h0 w_SHORT "com/example/starquarry/starquarry/model/ColumnType") (S_INT : Sta Z h0 "com/example/starquarry/starquarry/model/ColumnType" "INT" "Lcom/example/starquarry/starquarry/model/ColumnType;" (.ref w_INT)) (E_INT : Exa Z h0 w_INT "com/example/starquarry/starquarry/model/ColumnType") (S_LONG : Sta Z h0 "com/example/starquarry/starquarry/model/ColumnType" "LONG" "Lcom/example/starquarry/starquarry/model/ColumnType;" (.ref w_LONG)) (E_LONG : Exa Z h0 w_LONG "com/example/starquarry/starquarry/model/ColumnType") (S_FLOAT : Sta Z h0 "com/example/starquarry/starquarry/model/ColumnType" "FLOAT" "Lcom/example/starquarry/starquarry/model/ColumnType;" (.ref w_FLOAT)) (E_FLOAT : Exa Z h0 w_FLOAT "com/example/starquarry/starquarry/model/ColumnType") (S_DOUBLE : Sta Z h0 "com/example/starquarry/starquarry/model/ColumnType" "DOUBLE" "Lcom/example/starquarry/starquarry/model/ColumnType;" (.ref w_DOUBLE)) (E_DOUBLE : Exa Z h0 w_DOUBLE "com/example/starquarry/starquarry/model/ColumnType") (S_CHAR : Sta Z h0 "com/example/starquarry/starquarry/model/ColumnType" "CHAR" "Lcom/example/starquarry/starquarry/model/ColumnType;" (.ref w_CHAR)) (E_CHAR : Exa Z h0 w_CHAR "com/example/starquarry/starquarry/model/ColumnType") (S_UNICODE_CHAR : Sta Z h0 "com/example/starquarry/starquarry/model/ColumnType" "UNICODE_CHAR" "Lcom/example/starquarry/starquarry/model/ColumnType;" (.ref w_UNICODE_CHAR)) (E_UNICODE_CHAR : Exa Z h0 w_UNICODE_CHAR "com/example/starquarry/starquarry/model/ColumnType") (S_POINT : Sta Z h0 "com/example/starquarry/starquarry/model/ColumnType" "POINT" "Lcom/example/starquarry/starquarry/model/ColumnType;" (.ref w_POINT)) (E_POINT : Exa Z h0 w_POINT "com/example/starquarry/starquarry/model/ColumnType") (S_CIRCLE : Sta Z h0 "com/example/starquarry/starquarry/model/ColumnType" "CIRCLE" "Lcom/example/starquarry/starquarry/model/ColumnType;" (.ref w_CIRCLE)) (E_CIRCLE : Exa Z h0 w_CIRCLE "com/example/starquarry/starquarry/model/ColumnType") (ne_BIT_CHAR : ¬ (w_BIT = w_CHAR)) (ne_BIT_UNICODE_CHAR : ¬ (w_BIT = w_UNICODE_CHAR)) (ne_BOOLEAN_CHAR : ¬ (w_BOOLEAN = w_CHAR)) (ne_BOOLEAN_UNICODE_CHAR : ¬ (w_BOOLEAN = w_UNICODE_CHAR)) (ne_UNSIGNED_BYTE_CHAR : ¬ (w_UNSIGNED_BYTE = w_CHAR)) (ne_UNSIGNED_BYTE_UNICODE_CHAR : ¬ (w_UNSIGNED_BYTE = w_UNICODE_CHAR)) (ne_SHORT_CHAR : ¬ (w_SHORT = w_CHAR)) (ne_SHORT_UNICODE_CHAR : ¬ (w_SHORT = w_UNICODE_CHAR)) (ne_INT_CHAR : ¬ (w_INT = w_CHAR)) (ne_INT_UNICODE_CHAR : ¬ (w_INT = w_UNICODE_CHAR)) (ne_LONG_CHAR : ¬ (w_LONG = w_CHAR)) (ne_LONG_UNICODE_CHAR : ¬ (w_LONG = w_UNICODE_CHAR)) (ne_FLOAT_CHAR : ¬ (w_FLOAT = w_CHAR)) (ne_FLOAT_UNICODE_CHAR : ¬ (w_FLOAT = w_UNICODE_CHAR)) (ne_DOUBLE_CHAR : ¬ (w_DOUBLE = w_CHAR)) (ne_DOUBLE_UNICODE_CHAR : ¬ (w_DOUBLE = w_UNICODE_CHAR)) (ne_UNICODE_CHAR_CHAR : ¬ (w_UNICODE_CHAR = w_CHAR)) (ne_POINT_CHAR : ¬ (w_POINT = w_CHAR)) (ne_POINT_UNICODE_CHAR : ¬ (w_POINT = w_UNICODE_CHAR)) (ne_CIRCLE_CHAR : ¬ (w_CIRCLE = w_CHAR)) (ne_CIRCLE_UNICODE_CHAR : ¬ (w_CIRCLE = w_UNICODE_CHAR)) (S_cs : Sta Z h0 "java/lang/String" "COMPACT_STRINGS" "Z" (.int kc)) (hkc : ¬ (kc = (0 : Int32))) (HL_CHAR : Fld Z h0 w_CHAR "com/example/starquarry/starquarry/model/ColumnType" "arraysize" "Ljava/lang/String;" (.ref l_CHAR)) (EL_CHAR : Exa Z h0 l_CHAR "java/lang/String") (HC_CHAR : Fld Z h0 l_CHAR "java/lang/String" "coder" "B" (.int (0 : Int32))) (HV_CHAR : Fld Z h0 l_CHAR "java/lang/String" "value" "[B" (.ref v_CHAR)) (Ar_CHAR : Arr Z h0 v_CHAR cl_CHAR .byte) (hsz_CHAR : cl_CHAR.slots.size = (1 : Int32).toNatClampNeg) (hat_CHAR : cl_CHAR.slots[(0 : Int32).toNatClampNeg]? = some (.int (42 : Int32))) (HL_POINT : Fld Z h0 w_POINT "com/example/starquarry/starquarry/model/ColumnType" "arraysize" "Ljava/lang/String;" (.ref l_POINT)) (EL_POINT : Exa Z h0 l_POINT "java/lang/String") (HC_POINT : Fld Z h0 l_POINT "java/lang/String" "coder" "B" (.int (0 : Int32))) (HV_POINT : Fld Z h0 l_POINT "java/lang/String" "value" "[B" (.ref v_POINT)) (Ar_POINT : Arr Z h0 v_POINT cl_POINT .byte) (hsz_POINT : cl_POINT.slots.size = (1 : Int32).toNatClampNeg) (hat_POINT : cl_POINT.slots[(0 : Int32).toNatClampNeg]? = some (.int (50 : Int32))) (HL_CIRCLE : Fld Z h0 w_CIRCLE "com/example/starquarry/starquarry/model/ColumnType" "arraysize" "Ljava/lang/String;" (.ref l_CIRCLE)) (EL_CIRCLE : Exa Z h0 l_CIRCLE "java/lang/String") (HC_CIRCLE : Fld Z h0 l_CIRCLE "java/lang/String" "coder" "B" (.int (0 : Int32))) (HV_CIRCLE : Fld Z h0 l_CIRCLE "java/lang/String" "value" "[B" (.ref v_CIRCLE)) (Ar_CIRCLE : Arr Z h0 v_CIRCLE cl_CIRCLE .byte) (hsz_CIRCLE : cl_CIRCLE.slots.size = (1 : Int32).toNatClampNeg) (hat_CIRCLE : cl_CIRCLE.slots[(0 : Int32).toNatClampNeg]? = some (.int (51 : Int32))) (FX_BIT : Fld Z h0 w_BIT "com/example/starquarry/starquarry/model/ColumnType" "arraysize" "Ljava/lang/String;" .null) (FX_SHORT : Fld Z h0 w_SHORT "com/example/starquarry/starquarry/model/ColumnType" "arraysize" "Ljava/lang/String;" .null) (FX_UNSIGNED_BYTE : Fld Z h0 w_UNSIGNED_BYTE "com/example/starquarry/starquarry/model/ColumnType" "arraysize" "Ljava/lang/String;" .null) (FX_DOUBLE : Fld Z h0 w_DOUBLE "com/example/starquarry/starquarry/model/ColumnType" "arraysize" "Ljava/lang/String;" .null) (FX_INT : Fld Z h0 w_INT "com/example/starquarry/starquarry/model/ColumnType" "arraysize" "Ljava/lang/String;" .null) (FX_BOOLEAN : Fld Z h0 w_BOOLEAN "com/example/starquarry/starquarry/model/ColumnType" "arraysize" "Ljava/lang/String;" .null) (FX_FLOAT : Fld Z h0 w_FLOAT "com/example/starquarry/starquarry/model/ColumnType" "arraysize" "Ljava/lang/String;" .null) (FX_LONG : Fld Z h0 w_LONG "com/example/starquarry/starquarry/model/ColumnType" "arraysize" "Ljava/lang/String;" .null) (FX_UNICODE_CHAR : Fld Z h0 w_UNICODE_CHAR "com/example/starquarry/starquarry/model/ColumnType" "arraysize" "Ljava/lang/String;" (.ref l_CHAR)) :
    MetFree l x (head1 (Jvm.Cond.code x code maxLocals ret :: ws) room_1) (fun a U => a = #[(.int p0)] ∧ Z.Warmed39 U.vm ∧ U.heap = h0 ∧ U = Z) (fun _ _ _ _ _ => True) (fun _ U o U' => ∃ v L, o = .returned v ∧ Q_law Z p0 w_BIT w_BOOLEAN w_UNSIGNED_BYTE w_SHORT w_INT w_LONG w_FLOAT w_DOUBLE w_CHAR w_UNICODE_CHAR w_POINT w_CIRCLE kc l_CHAR v_CHAR cl_CHAR l_POINT v_POINT cl_POINT l_CIRCLE v_CIRCLE cl_CIRCLE h0 n0 v U'.heap L ∧ ReturnedEndW U o U' L room_1.cells room_1.slots) := by
  refine MetFree.of_bodySF (plainFor_of_name own_pn0) hisR ?_
  intro p e s m args below meth c s₁ Bd hml0 hP hK
  obtain ⟨rfl, hZ, hh, hUZ⟩ := hP
  have hx := Bd.exec
  have hby := Bd.bytes
  have hml : c.maxLocals = 6 := hml0
  have hown : s.vm.findClass "com/example/starquarry/starquarry/model/ColumnTypeIsTextPinLaw" = some m.cls := findClass_of_methodNamed Bd.named
  have hnm := (name_of_methodNamed Bd.named Bd.method).1
  have X0 : Stand p l e room_1 s m #[(.int p0)] below meth c s₁ [] 0 0 := Stand.of_body Bd
  have e0 : s₁.heap = h0 := by rw [← hh, Bd.state]; rfl
  have N0 := Fr.nil n0
  have pre0 : ∀ t, Steps p.tables e below (s₁.setTop (mkF m 0 #[.val (.int p0), .unset, .unset, .unset, .unset, .unset] [])) t → Steps p.tables e below (s₁.setTop (entryFrame m #[(.int p0)] maxLocals)) t := fun t k => castTop (own_ef_law m p0) k
  obtain ⟨_, _, ⟨T57, L57, k57, n57⟩, -, X57, ⟨Lc57, hQ57, l57, y57, z57⟩, st57⟩ := Jvm.LawKit.callS X0 hx (y := (⟨"com/example/starquarry/starquarry/model/ColumnTypeIsTextPinLaw", "pick", "(I)Lcom/example/starquarry/starquarry/model/ColumnType;"⟩ : MethodName)) hown (mvT hZ (hw _ (List.mem_of_getElem? (i := 1) rfl))) (mvT hZ (hw _ (List.mem_of_getElem? (i := 2) rfl))) (mvT hZ (hw _ (List.mem_of_getElem? (i := 3) rfl))) (mvT hZ (hw _ (List.mem_of_getElem? (i := 4) rfl))) (by decide) (backOf (W := 0) (rm_pick l Z a0' hw [] ((p0 &&& (2147483647 : Int32)) % (12 : Int32)) w_BIT w_BOOLEAN w_UNSIGNED_BYTE w_SHORT w_INT w_LONG w_FLOAT w_DOUBLE w_CHAR w_UNICODE_CHAR w_POINT w_CIRCLE h0 n0 Z0 S_BIT S_BOOLEAN S_UNSIGNED_BYTE S_SHORT S_INT S_LONG S_FLOAT S_DOUBLE S_CHAR S_UNICODE_CHAR S_POINT S_CIRCLE) hZ (hw _ (List.mem_of_getElem? (i := 4) rfl)) (hw _ (List.mem_of_getElem? (i := 3) rfl)) (by decide) (by decide)) (g := (mkF m 9 #[.val (.int p0), .val (.int ((p0 &&& (2147483647 : Int32)) % (12 : Int32))), .unset, .unset, .unset, .unset] [(.int ((p0 &&& (2147483647 : Int32)) % (12 : Int32)))])) rfl (by rw [hml]; rfl) (argsL := [(.int ((p0 &&& (2147483647 : Int32)) % (12 : Int32)))]) (rest := []) (lenOf own_pd1 rfl) rfl (by show 2 * 0 + _ ≤ _; exact Nat.le_of_eq rfl) (hb hby at_9) (fun _ _ => ⟨rfl, e0, (by decide : 0 + 0 ≤ _), (by decide : 0 + 0 ≤ _)⟩)
  dsimp only [Pt.U, Pt.locs, Pt.cells, Pt.slots] at X57 l57 y57 z57 st57 hQ57
  subst l57 y57 z57
  obtain ⟨rfl, N57q, e57⟩ := hQ57
  have N57 := Fr.app N0 N57q
  have pre58 : ∀ t, Steps p.tables e below (s₁.setTop (mkF m 9 #[.val (.int p0), .val (.int ((p0 &&& (2147483647 : Int32)) % (12 : Int32))), .unset, .unset, .unset, .unset] [(.int ((p0 &&& (2147483647 : Int32)) % (12 : Int32)))])) t → Steps p.tables e below (s₁.setTop (entryFrame m #[(.int p0)] maxLocals)) t := fun t k => pre0 t (by
    show Steps p.tables e below (s₁.setTop (mkF m 0 #[.val (.int p0), .unset, .unset, .unset, .unset, .unset] [])) _
    refine XS.iloadN X0.here hx rfl (hb hby at_0) rfl ?_
    show Steps p.tables e below (s₁.setTop (mkF m 1 #[.val (.int p0), .unset, .unset, .unset, .unset, .unset] [(.int p0)])) _
    refine X0.ldcInt hx hown (mvT hZ (hw _ (List.mem_of_getElem? (i := 0) rfl))) (g := (mkF m 1 #[.val (.int p0), .unset, .unset, .unset, .unset, .unset] [(.int p0)])) rfl (hb hby at_1) _ ?_
    show Steps p.tables e below (s₁.setTop (mkF m 3 #[.val (.int p0), .unset, .unset, .unset, .unset, .unset] [(.int (2147483647 : Int32)), (.int p0)])) _
    refine XS.iand X0.here hx rfl (hb hby at_3) rfl ?_
    show Steps p.tables e below (s₁.setTop (mkF m 4 #[.val (.int p0), .unset, .unset, .unset, .unset, .unset] [(.int (p0 &&& (2147483647 : Int32)))])) _
    refine XS.bipush X0.here hx rfl (hb hby at_4) ?_
    show Steps p.tables e below (s₁.setTop (mkF m 6 #[.val (.int p0), .unset, .unset, .unset, .unset, .unset] [(.int (12 : Int32)), (.int (p0 &&& (2147483647 : Int32)))])) _
    refine iremM X0 hx rfl (hb hby at_6) rfl (by decide) ?_
    show Steps p.tables e below (s₁.setTop (mkF m 7 #[.val (.int p0), .unset, .unset, .unset, .unset, .unset] [(.int ((p0 &&& (2147483647 : Int32)) % (12 : Int32)))])) _
    refine XS.istoreN X0.here hx rfl (hb hby at_7) rfl (l' := #[.val (.int p0), .val (.int ((p0 &&& (2147483647 : Int32)) % (12 : Int32))), .unset, .unset, .unset, .unset]) rfl ?_
    show Steps p.tables e below (s₁.setTop (mkF m 8 #[.val (.int p0), .val (.int ((p0 &&& (2147483647 : Int32)) % (12 : Int32))), .unset, .unset, .unset, .unset] [])) _
    refine XS.iloadN X0.here hx rfl (hb hby at_8) rfl ?_
    exact k)
  by_cases hs_59 : ((p0 &&& (2147483647 : Int32)) % (12 : Int32)) = (0 : Int32)
  · have q57 : (F_pick ((p0 &&& (2147483647 : Int32)) % (12 : Int32)) w_BIT w_BOOLEAN w_UNSIGNED_BYTE w_SHORT w_INT w_LONG w_FLOAT w_DOUBLE w_CHAR w_UNICODE_CHAR w_POINT w_CIRCLE) = w_BIT := by rw [F_pick, if_pos hs_59]
    rw [q57] at st57
    have wS60 : ∀ a ∈ Bundle.stringAtoms, a.before a0' Z = true := own_strAtoms (hw _ (List.mem_of_getElem? (i := 9) rfl)) (hw _ (List.mem_of_getElem? (i := 10) rfl)) (hw _ (List.mem_of_getElem? (i := 11) rfl)) (hw _ (List.mem_of_getElem? (i := 12) rfl)) (hw _ (List.mem_of_getElem? (i := 13) rfl)) (hw _ (List.mem_of_getElem? (i := 14) rfl)) (hw _ (List.mem_of_getElem? (i := 15) rfl))
    obtain ⟨s61, T61, h61, k61, bv61, kv61, X61, e61, E61, hS61, hk61, hZ, hown, Es61, Cs61, Vs61, As61, -, -, -, st61⟩ := ldcSV (s := s) (vm0 := s.vm) (Ts := []) X57 hx hZ hown (hw _ (List.mem_of_getElem? (i := 8) rfl)) wS60 e57 (k0 := 0) ((State.WarmedH.refl s).since 0) (Nat.zero_le _) (fun y hy => Nat.le_trans (by rw [hh]; exact hn0) (N57 y hy)) (fun b cl q => by rw [hUZ]; exact q) (show IB Z s.vm [] by rw [hUZ]; exact IB.start) (by simp) HCH hcw (vs := [.int 42]) (z := 1) ⟨by decide, by decide⟩ (by decide) rfl (g := (mkF m 31 #[.val (.int p0), .val (.int ((p0 &&& (2147483647 : Int32)) % (12 : Int32))), .val (.ref w_BIT), .val (.int (0 : Int32)), .unset, .unset] [])) rfl (hb hby at_31) (n := 4) (by decide) (by decide) (by decide) (by decide)
    have EX61 : Ext h0 h61 := E61
    have Z61 : n0 ≤ h61.size := Nat.le_trans Z0 EX61.1
    obtain ⟨cq62, kq62, q62a, q62b, q62c⟩ := isOf hZ e61 (E_BIT.ext EX61)
    obtain ⟨_, _, ⟨T62, L62, k62, n62⟩, -, X62, ⟨Lc62, hQ62, l62, y62, z62⟩, st62⟩ := X61.virtualBack hx (y := (⟨"com/example/starquarry/starquarry/model/ColumnType", "arraysize", "()Ljava/lang/String;"⟩ : MethodName)) (z := (⟨"com/example/starquarry/starquarry/model/ColumnType", "arraysize", "()Ljava/lang/String;"⟩ : MethodName)) hown (mvT hZ (hw _ (List.mem_of_getElem? (i := 16) rfl))) (mvT hZ (hw _ (List.mem_of_getElem? (i := 17) rfl))) (notFace_of_selects (args := #[]) (mvT hZ (hw _ (List.mem_of_getElem? (i := 19) rfl)))) (mvT hZ (hw _ (List.mem_of_getElem? (i := 19) rfl))) (mvT hZ (hw _ (List.mem_of_getElem? (i := 18) rfl))) (by decide) (backOf (W := 1) (rm_asN l Z a0' hw [] w_BIT h61 n0 Z61 (FX_BIT.ext EX61)) hZ (hw _ (List.mem_of_getElem? (i := 20) rfl)) (hw _ (List.mem_of_getElem? (i := 6) rfl)) (by decide) (by decide)) q62a q62c (g := (mkF m 34 #[.val (.int p0), .val (.int ((p0 &&& (2147483647 : Int32)) % (12 : Int32))), .val (.ref w_BIT), .val (.int (0 : Int32)), .unset, .unset] [(.ref w_BIT), (.ref s61)])) rfl (by rw [hml]; rfl) (Steps.refl _) (argsL := []) (rest := [(.ref s61)]) (lenOf own_pd2 rfl) rfl (by show 2 * 0 + _ ≤ _; exact Nat.le_of_eq rfl) (hb hby at_34) (fun _ _ => ⟨rfl, e61, (by decide : 2 + 0 ≤ _), (by decide : 8 + 0 ≤ _)⟩)
    dsimp only [Pt.U, Pt.locs, Pt.cells, Pt.slots] at X62 l62 y62 z62 st62 hQ62
    subst l62 y62 z62
    obtain ⟨rfl, N62q, e62⟩ := hQ62
    have N62 := Fr.app N57 N62q
    obtain ⟨cq63, kq63, q63a, q63b, q63c⟩ := isOf hZ e62 Es61
    obtain ⟨_, _, ⟨T63, L63, k63, n63⟩, -, X63, ⟨Lc63, hQ63, l63, y63, z63⟩, st63⟩ := X62.virtualBack hx (y := (⟨"java/lang/String", "equals", "(Ljava/lang/Object;)Z"⟩ : MethodName)) (z := (⟨"java/lang/String", "equals", "(Ljava/lang/Object;)Z"⟩ : MethodName)) hown (mvT hZ (hw _ (List.mem_of_getElem? (i := 23) rfl))) (mvT hZ (hw _ (List.mem_of_getElem? (i := 24) rfl))) (notFace_of_selects (args := #[]) (mvT hZ (hw _ (List.mem_of_getElem? (i := 26) rfl)))) (mvT hZ (hw _ (List.mem_of_getElem? (i := 26) rfl))) (mvT hZ (hw _ (List.mem_of_getElem? (i := 25) rfl))) (by decide) (backOf (W := 0) (rm_seqN l Z a0' hw [] s61 h61 n0 Z61) hZ (hw _ (List.mem_of_getElem? (i := 27) rfl)) (hw _ (List.mem_of_getElem? (i := 9) rfl)) (by decide) (by decide)) q63a q63c (g := (mkF m 37 #[.val (.int p0), .val (.int ((p0 &&& (2147483647 : Int32)) % (12 : Int32))), .val (.ref w_BIT), .val (.int (0 : Int32)), .unset, .unset] [.null, (.ref s61)])) rfl (by rw [hml]; rfl) (Steps.refl _) (argsL := [.null]) (rest := []) (lenOf own_pd3 rfl) rfl (by show 2 * 0 + _ ≤ _; exact Nat.le_of_eq rfl) (hb hby at_37) (fun _ _ => ⟨rfl, e62, (by decide : 2 + 0 ≤ _), (by decide : 8 + 0 ≤ _)⟩)
    dsimp only [Pt.U, Pt.locs, Pt.cells, Pt.slots] at X63 l63 y63 z63 st63 hQ63
    subst l63 y63 z63
    obtain ⟨rfl, N63q, e63⟩ := hQ63
    have N63 := Fr.app N62 N63q
    obtain ⟨cq64, kq64, q64a, q64b, q64c⟩ := isOf hZ e63 (E_BIT.ext EX61)
    obtain ⟨_, _, ⟨T64, L64, k64, n64⟩, -, X64, ⟨Lc64, hQ64, l64, y64, z64⟩, st64⟩ := X63.virtualBack hx (y := (⟨"com/example/starquarry/starquarry/model/ColumnType", "isText", "()Z"⟩ : MethodName)) (z := (⟨"com/example/starquarry/starquarry/model/ColumnType", "isText", "()Z"⟩ : MethodName)) hown (mvT hZ (hw _ (List.mem_of_getElem? (i := 28) rfl))) (mvT hZ (hw _ (List.mem_of_getElem? (i := 29) rfl))) (notFace_of_selects (args := #[]) (mvT hZ (hw _ (List.mem_of_getElem? (i := 31) rfl)))) (mvT hZ (hw _ (List.mem_of_getElem? (i := 31) rfl))) (mvT hZ (hw _ (List.mem_of_getElem? (i := 30) rfl))) (by decide) (backOf (W := 0) (rm_tx l Z a0' hw [] w_BIT w_CHAR w_UNICODE_CHAR h61 n0 Z61 (S_CHAR.ext EX61) (S_UNICODE_CHAR.ext EX61)) hZ (hw _ (List.mem_of_getElem? (i := 32) rfl)) (hw _ (List.mem_of_getElem? (i := 6) rfl)) (by decide) (by decide)) q64a q64c (g := (mkF m 43 #[.val (.int p0), .val (.int ((p0 &&& (2147483647 : Int32)) % (12 : Int32))), .val (.ref w_BIT), .val (.int (0 : Int32)), .val (.int (0 : Int32)), .unset] [(.ref w_BIT)])) rfl (by rw [hml]; rfl) (Steps.refl _) (argsL := []) (rest := []) (lenOf own_pd4 rfl) rfl (by show 2 * 0 + _ ≤ _; exact Nat.le_of_eq rfl) (hb hby at_43) (fun _ _ => ⟨rfl, e63, (by decide : 2 + 0 ≤ _), (by decide : 8 + 0 ≤ _)⟩)
    dsimp only [Pt.U, Pt.locs, Pt.cells, Pt.slots] at X64 l64 y64 z64 st64 hQ64
    subst l64 y64 z64
    obtain ⟨rfl, N64q, e64⟩ := hQ64
    have N64 := Fr.app N63 N64q
    have q64 : (F_tx w_BIT w_CHAR w_UNICODE_CHAR) = (0 : Int32) := by rw [F_tx, if_neg ne_BIT_CHAR, if_neg ne_BIT_UNICODE_CHAR]
    rw [q64] at st64
    obtain ⟨fs, hr, hrun, hended, hE⟩ := X64.leaveW hS61 (by rw [e64]; exact hk61) (v := some (.int (1 : Int32))) (fun h => by rw [Bd.returns] at h; cases h)
    refine ⟨_, _, pre58 _ ?_, hrun, hended, _, _, rfl, ?_, own_wmono hE (by decide) (by decide)⟩
    · show Steps p.tables e below (s₁.setTop (mkF m 9 #[.val (.int p0), .val (.int ((p0 &&& (2147483647 : Int32)) % (12 : Int32))), .unset, .unset, .unset, .unset] [(.int ((p0 &&& (2147483647 : Int32)) % (12 : Int32)))])) _
      refine st57 _ ?_
      show Steps p.tables e below (T57.setTop (mkF m 12 #[.val (.int p0), .val (.int ((p0 &&& (2147483647 : Int32)) % (12 : Int32))), .unset, .unset, .unset, .unset] [(.ref w_BIT)])) _
      refine XS.astoreN X57.here hx rfl (hb hby at_12) rfl rfl (l' := #[.val (.int p0), .val (.int ((p0 &&& (2147483647 : Int32)) % (12 : Int32))), .val (.ref w_BIT), .unset, .unset, .unset]) rfl ?_
      show Steps p.tables e below (T57.setTop (mkF m 13 #[.val (.int p0), .val (.int ((p0 &&& (2147483647 : Int32)) % (12 : Int32))), .val (.ref w_BIT), .unset, .unset, .unset] [])) _
      refine XS.iloadN X57.here hx rfl (hb hby at_13) rfl ?_
      show Steps p.tables e below (T57.setTop (mkF m 14 #[.val (.int p0), .val (.int ((p0 &&& (2147483647 : Int32)) % (12 : Int32))), .val (.ref w_BIT), .unset, .unset, .unset] [(.int ((p0 &&& (2147483647 : Int32)) % (12 : Int32)))])) _
      refine XS.bipush X57.here hx rfl (hb hby at_14) ?_
      show Steps p.tables e below (T57.setTop (mkF m 16 #[.val (.int p0), .val (.int ((p0 &&& (2147483647 : Int32)) % (12 : Int32))), .val (.ref w_BIT), .unset, .unset, .unset] [(.int (8 : Int32)), (.int ((p0 &&& (2147483647 : Int32)) % (12 : Int32)))])) _
      refine XS.icmpNo X57.here hx rfl (hb hby at_16) rfl (feq (fun q => absurd (hs_59.symm.trans q) (by decide))).1 ?_
      show Steps p.tables e below (T57.setTop (mkF m 19 #[.val (.int p0), .val (.int ((p0 &&& (2147483647 : Int32)) % (12 : Int32))), .val (.ref w_BIT), .unset, .unset, .unset] [])) _
      refine XS.iloadN X57.here hx rfl (hb hby at_19) rfl ?_
      show Steps p.tables e below (T57.setTop (mkF m 20 #[.val (.int p0), .val (.int ((p0 &&& (2147483647 : Int32)) % (12 : Int32))), .val (.ref w_BIT), .unset, .unset, .unset] [(.int ((p0 &&& (2147483647 : Int32)) % (12 : Int32)))])) _
      refine XS.bipush X57.here hx rfl (hb hby at_20) ?_
      show Steps p.tables e below (T57.setTop (mkF m 22 #[.val (.int p0), .val (.int ((p0 &&& (2147483647 : Int32)) % (12 : Int32))), .val (.ref w_BIT), .unset, .unset, .unset] [(.int (9 : Int32)), (.int ((p0 &&& (2147483647 : Int32)) % (12 : Int32)))])) _
      refine XS.icmpYes X57.here hx rfl (pc0 := 22) (pc' := 29) rfl (hb hby at_22) rfl (feq (fun q => absurd (hs_59.symm.trans q) (by decide))).2 (by decide) (by decide) ?_
      show Steps p.tables e below (T57.setTop (mkF m 29 #[.val (.int p0), .val (.int ((p0 &&& (2147483647 : Int32)) % (12 : Int32))), .val (.ref w_BIT), .unset, .unset, .unset] [])) _
      refine XS.iconst X57.here hx rfl (hb hby at_29) ?_
      show Steps p.tables e below (T57.setTop (mkF m 30 #[.val (.int p0), .val (.int ((p0 &&& (2147483647 : Int32)) % (12 : Int32))), .val (.ref w_BIT), .unset, .unset, .unset] [(.int (0 : Int32))])) _
      refine XS.istoreN X57.here hx rfl (hb hby at_30) rfl (l' := #[.val (.int p0), .val (.int ((p0 &&& (2147483647 : Int32)) % (12 : Int32))), .val (.ref w_BIT), .val (.int (0 : Int32)), .unset, .unset]) rfl ?_
      show Steps p.tables e below (T57.setTop (mkF m 31 #[.val (.int p0), .val (.int ((p0 &&& (2147483647 : Int32)) % (12 : Int32))), .val (.ref w_BIT), .val (.int (0 : Int32)), .unset, .unset] [])) _
      refine st61 _ ?_
      show Steps p.tables e below (T61.setTop (mkF m 33 #[.val (.int p0), .val (.int ((p0 &&& (2147483647 : Int32)) % (12 : Int32))), .val (.ref w_BIT), .val (.int (0 : Int32)), .unset, .unset] [(.ref s61)])) _
      refine XS.aloadN X61.here hx rfl (hb hby at_33) rfl rfl ?_
      show Steps p.tables e below (T61.setTop (mkF m 34 #[.val (.int p0), .val (.int ((p0 &&& (2147483647 : Int32)) % (12 : Int32))), .val (.ref w_BIT), .val (.int (0 : Int32)), .unset, .unset] [(.ref w_BIT), (.ref s61)])) _
      refine st62.trans ?_
      show Steps p.tables e below (T62.setTop (mkF m 37 #[.val (.int p0), .val (.int ((p0 &&& (2147483647 : Int32)) % (12 : Int32))), .val (.ref w_BIT), .val (.int (0 : Int32)), .unset, .unset] [.null, (.ref s61)])) _
      refine st63.trans ?_
      show Steps p.tables e below (T63.setTop (mkF m 40 #[.val (.int p0), .val (.int ((p0 &&& (2147483647 : Int32)) % (12 : Int32))), .val (.ref w_BIT), .val (.int (0 : Int32)), .unset, .unset] [(.int (0 : Int32))])) _
      refine XS.istore X63.here hx rfl (hb hby at_40) rfl (l' := #[.val (.int p0), .val (.int ((p0 &&& (2147483647 : Int32)) % (12 : Int32))), .val (.ref w_BIT), .val (.int (0 : Int32)), .val (.int (0 : Int32)), .unset]) rfl ?_
      show Steps p.tables e below (T63.setTop (mkF m 42 #[.val (.int p0), .val (.int ((p0 &&& (2147483647 : Int32)) % (12 : Int32))), .val (.ref w_BIT), .val (.int (0 : Int32)), .val (.int (0 : Int32)), .unset] [])) _
      refine XS.aloadN X63.here hx rfl (hb hby at_42) rfl rfl ?_
      show Steps p.tables e below (T63.setTop (mkF m 43 #[.val (.int p0), .val (.int ((p0 &&& (2147483647 : Int32)) % (12 : Int32))), .val (.ref w_BIT), .val (.int (0 : Int32)), .val (.int (0 : Int32)), .unset] [(.ref w_BIT)])) _
      refine st64.trans ?_
      show Steps p.tables e below (T64.setTop (mkF m 46 #[.val (.int p0), .val (.int ((p0 &&& (2147483647 : Int32)) % (12 : Int32))), .val (.ref w_BIT), .val (.int (0 : Int32)), .val (.int (0 : Int32)), .unset] [(.int (0 : Int32))])) _
      refine XS.istore X64.here hx rfl (hb hby at_46) rfl (l' := #[.val (.int p0), .val (.int ((p0 &&& (2147483647 : Int32)) % (12 : Int32))), .val (.ref w_BIT), .val (.int (0 : Int32)), .val (.int (0 : Int32)), .val (.int (0 : Int32))]) rfl ?_
      show Steps p.tables e below (T64.setTop (mkF m 48 #[.val (.int p0), .val (.int ((p0 &&& (2147483647 : Int32)) % (12 : Int32))), .val (.ref w_BIT), .val (.int (0 : Int32)), .val (.int (0 : Int32)), .val (.int (0 : Int32))] [])) _
      refine XS.iload X64.here hx rfl (hb hby at_48) rfl ?_
      show Steps p.tables e below (T64.setTop (mkF m 50 #[.val (.int p0), .val (.int ((p0 &&& (2147483647 : Int32)) % (12 : Int32))), .val (.ref w_BIT), .val (.int (0 : Int32)), .val (.int (0 : Int32)), .val (.int (0 : Int32))] [(.int (0 : Int32))])) _
      refine XS.iloadN X64.here hx rfl (hb hby at_50) rfl ?_
      show Steps p.tables e below (T64.setTop (mkF m 51 #[.val (.int p0), .val (.int ((p0 &&& (2147483647 : Int32)) % (12 : Int32))), .val (.ref w_BIT), .val (.int (0 : Int32)), .val (.int (0 : Int32)), .val (.int (0 : Int32))] [(.int (0 : Int32)), (.int (0 : Int32))])) _
      refine XS.icmpNo X64.here hx rfl (hb hby at_51) rfl (teq (by decide : (0 : Int32) = (0 : Int32))).2 ?_
      show Steps p.tables e below (T64.setTop (mkF m 54 #[.val (.int p0), .val (.int ((p0 &&& (2147483647 : Int32)) % (12 : Int32))), .val (.ref w_BIT), .val (.int (0 : Int32)), .val (.int (0 : Int32)), .val (.int (0 : Int32))] [])) _
      refine XS.iload X64.here hx rfl (hb hby at_54) rfl ?_
      show Steps p.tables e below (T64.setTop (mkF m 56 #[.val (.int p0), .val (.int ((p0 &&& (2147483647 : Int32)) % (12 : Int32))), .val (.ref w_BIT), .val (.int (0 : Int32)), .val (.int (0 : Int32)), .val (.int (0 : Int32))] [(.int (0 : Int32))])) _
      refine XS.iload X64.here hx rfl (hb hby at_56) rfl ?_
      show Steps p.tables e below (T64.setTop (mkF m 58 #[.val (.int p0), .val (.int ((p0 &&& (2147483647 : Int32)) % (12 : Int32))), .val (.ref w_BIT), .val (.int (0 : Int32)), .val (.int (0 : Int32)), .val (.int (0 : Int32))] [(.int (0 : Int32)), (.int (0 : Int32))])) _
      refine XS.icmpNo X64.here hx rfl (hb hby at_58) rfl (teq (by decide : (0 : Int32) = (0 : Int32))).2 ?_
      show Steps p.tables e below (T64.setTop (mkF m 61 #[.val (.int p0), .val (.int ((p0 &&& (2147483647 : Int32)) % (12 : Int32))), .val (.ref w_BIT), .val (.int (0 : Int32)), .val (.int (0 : Int32)), .val (.int (0 : Int32))] [])) _
      refine XS.iconst X64.here hx rfl (hb hby at_61) ?_
      show Steps p.tables e below (T64.setTop (mkF m 62 #[.val (.int p0), .val (.int ((p0 &&& (2147483647 : Int32)) % (12 : Int32))), .val (.ref w_BIT), .val (.int (0 : Int32)), .val (.int (0 : Int32)), .val (.int (0 : Int32))] [(.int (1 : Int32))])) _
      refine XS.goto X64.here hx rfl (pc0 := 62) (pc' := 66) rfl (hb hby at_62) (by decide) (by decide) ?_
      show Steps p.tables e below (T64.setTop (mkF m 66 #[.val (.int p0), .val (.int ((p0 &&& (2147483647 : Int32)) % (12 : Int32))), .val (.ref w_BIT), .val (.int (0 : Int32)), .val (.int (0 : Int32)), .val (.int (0 : Int32))] [(.int (1 : Int32))])) _
      exact retN X64 hx (t := .boolean) Bd.returns (by simp) (hb hby at_66) hr
    · show Q_law Z p0 w_BIT w_BOOLEAN w_UNSIGNED_BYTE w_SHORT w_INT w_LONG w_FLOAT w_DOUBLE w_CHAR w_UNICODE_CHAR w_POINT w_CIRCLE kc l_CHAR v_CHAR cl_CHAR l_POINT v_POINT cl_POINT l_CIRCLE v_CIRCLE cl_CIRCLE h0 n0 _ T64.heap _
      refine ⟨?_, N64, trivial⟩
      rw [F_law, if_pos hs_59]
  · by_cases hs_65 : ((p0 &&& (2147483647 : Int32)) % (12 : Int32)) = (1 : Int32)
    · have q57 : (F_pick ((p0 &&& (2147483647 : Int32)) % (12 : Int32)) w_BIT w_BOOLEAN w_UNSIGNED_BYTE w_SHORT w_INT w_LONG w_FLOAT w_DOUBLE w_CHAR w_UNICODE_CHAR w_POINT w_CIRCLE) = w_BOOLEAN := by rw [F_pick, if_neg hs_59, if_pos hs_65]
      rw [q57] at st57
      have wS66 : ∀ a ∈ Bundle.stringAtoms, a.before a0' Z = true := own_strAtoms (hw _ (List.mem_of_getElem? (i := 9) rfl)) (hw _ (List.mem_of_getElem? (i := 10) rfl)) (hw _ (List.mem_of_getElem? (i := 11) rfl)) (hw _ (List.mem_of_getElem? (i := 12) rfl)) (hw _ (List.mem_of_getElem? (i := 13) rfl)) (hw _ (List.mem_of_getElem? (i := 14) rfl)) (hw _ (List.mem_of_getElem? (i := 15) rfl))
      obtain ⟨s67, T67, h67, k67, bv67, kv67, X67, e67, E67, hS67, hk67, hZ, hown, Es67, Cs67, Vs67, As67, -, -, -, st67⟩ := ldcSV (s := s) (vm0 := s.vm) (Ts := []) X57 hx hZ hown (hw _ (List.mem_of_getElem? (i := 8) rfl)) wS66 e57 (k0 := 0) ((State.WarmedH.refl s).since 0) (Nat.zero_le _) (fun y hy => Nat.le_trans (by rw [hh]; exact hn0) (N57 y hy)) (fun b cl q => by rw [hUZ]; exact q) (show IB Z s.vm [] by rw [hUZ]; exact IB.start) (by simp) HCH hcw (vs := [.int 42]) (z := 1) ⟨by decide, by decide⟩ (by decide) rfl (g := (mkF m 31 #[.val (.int p0), .val (.int ((p0 &&& (2147483647 : Int32)) % (12 : Int32))), .val (.ref w_BOOLEAN), .val (.int (0 : Int32)), .unset, .unset] [])) rfl (hb hby at_31) (n := 4) (by decide) (by decide) (by decide) (by decide)
      have EX67 : Ext h0 h67 := E67
      have Z67 : n0 ≤ h67.size := Nat.le_trans Z0 EX67.1
      obtain ⟨cq68, kq68, q68a, q68b, q68c⟩ := isOf hZ e67 (E_BOOLEAN.ext EX67)
      obtain ⟨_, _, ⟨T68, L68, k68, n68⟩, -, X68, ⟨Lc68, hQ68, l68, y68, z68⟩, st68⟩ := X67.virtualBack hx (y := (⟨"com/example/starquarry/starquarry/model/ColumnType", "arraysize", "()Ljava/lang/String;"⟩ : MethodName)) (z := (⟨"com/example/starquarry/starquarry/model/ColumnType", "arraysize", "()Ljava/lang/String;"⟩ : MethodName)) hown (mvT hZ (hw _ (List.mem_of_getElem? (i := 16) rfl))) (mvT hZ (hw _ (List.mem_of_getElem? (i := 17) rfl))) (notFace_of_selects (args := #[]) (mvT hZ (hw _ (List.mem_of_getElem? (i := 19) rfl)))) (mvT hZ (hw _ (List.mem_of_getElem? (i := 19) rfl))) (mvT hZ (hw _ (List.mem_of_getElem? (i := 18) rfl))) (by decide) (backOf (W := 1) (rm_asN l Z a0' hw [] w_BOOLEAN h67 n0 Z67 (FX_BOOLEAN.ext EX67)) hZ (hw _ (List.mem_of_getElem? (i := 20) rfl)) (hw _ (List.mem_of_getElem? (i := 6) rfl)) (by decide) (by decide)) q68a q68c (g := (mkF m 34 #[.val (.int p0), .val (.int ((p0 &&& (2147483647 : Int32)) % (12 : Int32))), .val (.ref w_BOOLEAN), .val (.int (0 : Int32)), .unset, .unset] [(.ref w_BOOLEAN), (.ref s67)])) rfl (by rw [hml]; rfl) (Steps.refl _) (argsL := []) (rest := [(.ref s67)]) (lenOf own_pd2 rfl) rfl (by show 2 * 0 + _ ≤ _; exact Nat.le_of_eq rfl) (hb hby at_34) (fun _ _ => ⟨rfl, e67, (by decide : 2 + 0 ≤ _), (by decide : 8 + 0 ≤ _)⟩)
      dsimp only [Pt.U, Pt.locs, Pt.cells, Pt.slots] at X68 l68 y68 z68 st68 hQ68
      subst l68 y68 z68
      obtain ⟨rfl, N68q, e68⟩ := hQ68
      have N68 := Fr.app N57 N68q
      obtain ⟨cq69, kq69, q69a, q69b, q69c⟩ := isOf hZ e68 Es67
      obtain ⟨_, _, ⟨T69, L69, k69, n69⟩, -, X69, ⟨Lc69, hQ69, l69, y69, z69⟩, st69⟩ := X68.virtualBack hx (y := (⟨"java/lang/String", "equals", "(Ljava/lang/Object;)Z"⟩ : MethodName)) (z := (⟨"java/lang/String", "equals", "(Ljava/lang/Object;)Z"⟩ : MethodName)) hown (mvT hZ (hw _ (List.mem_of_getElem? (i := 23) rfl))) (mvT hZ (hw _ (List.mem_of_getElem? (i := 24) rfl))) (notFace_of_selects (args := #[]) (mvT hZ (hw _ (List.mem_of_getElem? (i := 26) rfl)))) (mvT hZ (hw _ (List.mem_of_getElem? (i := 26) rfl))) (mvT hZ (hw _ (List.mem_of_getElem? (i := 25) rfl))) (by decide) (backOf (W := 0) (rm_seqN l Z a0' hw [] s67 h67 n0 Z67) hZ (hw _ (List.mem_of_getElem? (i := 27) rfl)) (hw _ (List.mem_of_getElem? (i := 9) rfl)) (by decide) (by decide)) q69a q69c (g := (mkF m 37 #[.val (.int p0), .val (.int ((p0 &&& (2147483647 : Int32)) % (12 : Int32))), .val (.ref w_BOOLEAN), .val (.int (0 : Int32)), .unset, .unset] [.null, (.ref s67)])) rfl (by rw [hml]; rfl) (Steps.refl _) (argsL := [.null]) (rest := []) (lenOf own_pd3 rfl) rfl (by show 2 * 0 + _ ≤ _; exact Nat.le_of_eq rfl) (hb hby at_37) (fun _ _ => ⟨rfl, e68, (by decide : 2 + 0 ≤ _), (by decide : 8 + 0 ≤ _)⟩)
      dsimp only [Pt.U, Pt.locs, Pt.cells, Pt.slots] at X69 l69 y69 z69 st69 hQ69
      subst l69 y69 z69
      obtain ⟨rfl, N69q, e69⟩ := hQ69
      have N69 := Fr.app N68 N69q
      obtain ⟨cq70, kq70, q70a, q70b, q70c⟩ := isOf hZ e69 (E_BOOLEAN.ext EX67)
      obtain ⟨_, _, ⟨T70, L70, k70, n70⟩, -, X70, ⟨Lc70, hQ70, l70, y70, z70⟩, st70⟩ := X69.virtualBack hx (y := (⟨"com/example/starquarry/starquarry/model/ColumnType", "isText", "()Z"⟩ : MethodName)) (z := (⟨"com/example/starquarry/starquarry/model/ColumnType", "isText", "()Z"⟩ : MethodName)) hown (mvT hZ (hw _ (List.mem_of_getElem? (i := 28) rfl))) (mvT hZ (hw _ (List.mem_of_getElem? (i := 29) rfl))) (notFace_of_selects (args := #[]) (mvT hZ (hw _ (List.mem_of_getElem? (i := 31) rfl)))) (mvT hZ (hw _ (List.mem_of_getElem? (i := 31) rfl))) (mvT hZ (hw _ (List.mem_of_getElem? (i := 30) rfl))) (by decide) (backOf (W := 0) (rm_tx l Z a0' hw [] w_BOOLEAN w_CHAR w_UNICODE_CHAR h67 n0 Z67 (S_CHAR.ext EX67) (S_UNICODE_CHAR.ext EX67)) hZ (hw _ (List.mem_of_getElem? (i := 32) rfl)) (hw _ (List.mem_of_getElem? (i := 6) rfl)) (by decide) (by decide)) q70a q70c (g := (mkF m 43 #[.val (.int p0), .val (.int ((p0 &&& (2147483647 : Int32)) % (12 : Int32))), .val (.ref w_BOOLEAN), .val (.int (0 : Int32)), .val (.int (0 : Int32)), .unset] [(.ref w_BOOLEAN)])) rfl (by rw [hml]; rfl) (Steps.refl _) (argsL := []) (rest := []) (lenOf own_pd4 rfl) rfl (by show 2 * 0 + _ ≤ _; exact Nat.le_of_eq rfl) (hb hby at_43) (fun _ _ => ⟨rfl, e69, (by decide : 2 + 0 ≤ _), (by decide : 8 + 0 ≤ _)⟩)
      dsimp only [Pt.U, Pt.locs, Pt.cells, Pt.slots] at X70 l70 y70 z70 st70 hQ70
      subst l70 y70 z70
      obtain ⟨rfl, N70q, e70⟩ := hQ70
      have N70 := Fr.app N69 N70q
      have q70 : (F_tx w_BOOLEAN w_CHAR w_UNICODE_CHAR) = (0 : Int32) := by rw [F_tx, if_neg ne_BOOLEAN_CHAR, if_neg ne_BOOLEAN_UNICODE_CHAR]
      rw [q70] at st70
      obtain ⟨fs, hr, hrun, hended, hE⟩ := X70.leaveW hS67 (by rw [e70]; exact hk67) (v := some (.int (1 : Int32))) (fun h => by rw [Bd.returns] at h; cases h)
      refine ⟨_, _, pre58 _ ?_, hrun, hended, _, _, rfl, ?_, own_wmono hE (by decide) (by decide)⟩
      · show Steps p.tables e below (s₁.setTop (mkF m 9 #[.val (.int p0), .val (.int ((p0 &&& (2147483647 : Int32)) % (12 : Int32))), .unset, .unset, .unset, .unset] [(.int ((p0 &&& (2147483647 : Int32)) % (12 : Int32)))])) _
        refine st57 _ ?_
        show Steps p.tables e below (T57.setTop (mkF m 12 #[.val (.int p0), .val (.int ((p0 &&& (2147483647 : Int32)) % (12 : Int32))), .unset, .unset, .unset, .unset] [(.ref w_BOOLEAN)])) _
        refine XS.astoreN X57.here hx rfl (hb hby at_12) rfl rfl (l' := #[.val (.int p0), .val (.int ((p0 &&& (2147483647 : Int32)) % (12 : Int32))), .val (.ref w_BOOLEAN), .unset, .unset, .unset]) rfl ?_
        show Steps p.tables e below (T57.setTop (mkF m 13 #[.val (.int p0), .val (.int ((p0 &&& (2147483647 : Int32)) % (12 : Int32))), .val (.ref w_BOOLEAN), .unset, .unset, .unset] [])) _
        refine XS.iloadN X57.here hx rfl (hb hby at_13) rfl ?_
        show Steps p.tables e below (T57.setTop (mkF m 14 #[.val (.int p0), .val (.int ((p0 &&& (2147483647 : Int32)) % (12 : Int32))), .val (.ref w_BOOLEAN), .unset, .unset, .unset] [(.int ((p0 &&& (2147483647 : Int32)) % (12 : Int32)))])) _
        refine XS.bipush X57.here hx rfl (hb hby at_14) ?_
        show Steps p.tables e below (T57.setTop (mkF m 16 #[.val (.int p0), .val (.int ((p0 &&& (2147483647 : Int32)) % (12 : Int32))), .val (.ref w_BOOLEAN), .unset, .unset, .unset] [(.int (8 : Int32)), (.int ((p0 &&& (2147483647 : Int32)) % (12 : Int32)))])) _
        refine XS.icmpNo X57.here hx rfl (hb hby at_16) rfl (feq (fun q => absurd (hs_65.symm.trans q) (by decide))).1 ?_
        show Steps p.tables e below (T57.setTop (mkF m 19 #[.val (.int p0), .val (.int ((p0 &&& (2147483647 : Int32)) % (12 : Int32))), .val (.ref w_BOOLEAN), .unset, .unset, .unset] [])) _
        refine XS.iloadN X57.here hx rfl (hb hby at_19) rfl ?_
        show Steps p.tables e below (T57.setTop (mkF m 20 #[.val (.int p0), .val (.int ((p0 &&& (2147483647 : Int32)) % (12 : Int32))), .val (.ref w_BOOLEAN), .unset, .unset, .unset] [(.int ((p0 &&& (2147483647 : Int32)) % (12 : Int32)))])) _
        refine XS.bipush X57.here hx rfl (hb hby at_20) ?_
        show Steps p.tables e below (T57.setTop (mkF m 22 #[.val (.int p0), .val (.int ((p0 &&& (2147483647 : Int32)) % (12 : Int32))), .val (.ref w_BOOLEAN), .unset, .unset, .unset] [(.int (9 : Int32)), (.int ((p0 &&& (2147483647 : Int32)) % (12 : Int32)))])) _
        refine XS.icmpYes X57.here hx rfl (pc0 := 22) (pc' := 29) rfl (hb hby at_22) rfl (feq (fun q => absurd (hs_65.symm.trans q) (by decide))).2 (by decide) (by decide) ?_
        show Steps p.tables e below (T57.setTop (mkF m 29 #[.val (.int p0), .val (.int ((p0 &&& (2147483647 : Int32)) % (12 : Int32))), .val (.ref w_BOOLEAN), .unset, .unset, .unset] [])) _
        refine XS.iconst X57.here hx rfl (hb hby at_29) ?_
        show Steps p.tables e below (T57.setTop (mkF m 30 #[.val (.int p0), .val (.int ((p0 &&& (2147483647 : Int32)) % (12 : Int32))), .val (.ref w_BOOLEAN), .unset, .unset, .unset] [(.int (0 : Int32))])) _
        refine XS.istoreN X57.here hx rfl (hb hby at_30) rfl (l' := #[.val (.int p0), .val (.int ((p0 &&& (2147483647 : Int32)) % (12 : Int32))), .val (.ref w_BOOLEAN), .val (.int (0 : Int32)), .unset, .unset]) rfl ?_
        show Steps p.tables e below (T57.setTop (mkF m 31 #[.val (.int p0), .val (.int ((p0 &&& (2147483647 : Int32)) % (12 : Int32))), .val (.ref w_BOOLEAN), .val (.int (0 : Int32)), .unset, .unset] [])) _
        refine st67 _ ?_
        show Steps p.tables e below (T67.setTop (mkF m 33 #[.val (.int p0), .val (.int ((p0 &&& (2147483647 : Int32)) % (12 : Int32))), .val (.ref w_BOOLEAN), .val (.int (0 : Int32)), .unset, .unset] [(.ref s67)])) _
        refine XS.aloadN X67.here hx rfl (hb hby at_33) rfl rfl ?_
        show Steps p.tables e below (T67.setTop (mkF m 34 #[.val (.int p0), .val (.int ((p0 &&& (2147483647 : Int32)) % (12 : Int32))), .val (.ref w_BOOLEAN), .val (.int (0 : Int32)), .unset, .unset] [(.ref w_BOOLEAN), (.ref s67)])) _
        refine st68.trans ?_
        show Steps p.tables e below (T68.setTop (mkF m 37 #[.val (.int p0), .val (.int ((p0 &&& (2147483647 : Int32)) % (12 : Int32))), .val (.ref w_BOOLEAN), .val (.int (0 : Int32)), .unset, .unset] [.null, (.ref s67)])) _
        refine st69.trans ?_
        show Steps p.tables e below (T69.setTop (mkF m 40 #[.val (.int p0), .val (.int ((p0 &&& (2147483647 : Int32)) % (12 : Int32))), .val (.ref w_BOOLEAN), .val (.int (0 : Int32)), .unset, .unset] [(.int (0 : Int32))])) _
        refine XS.istore X69.here hx rfl (hb hby at_40) rfl (l' := #[.val (.int p0), .val (.int ((p0 &&& (2147483647 : Int32)) % (12 : Int32))), .val (.ref w_BOOLEAN), .val (.int (0 : Int32)), .val (.int (0 : Int32)), .unset]) rfl ?_
        show Steps p.tables e below (T69.setTop (mkF m 42 #[.val (.int p0), .val (.int ((p0 &&& (2147483647 : Int32)) % (12 : Int32))), .val (.ref w_BOOLEAN), .val (.int (0 : Int32)), .val (.int (0 : Int32)), .unset] [])) _
        refine XS.aloadN X69.here hx rfl (hb hby at_42) rfl rfl ?_
        show Steps p.tables e below (T69.setTop (mkF m 43 #[.val (.int p0), .val (.int ((p0 &&& (2147483647 : Int32)) % (12 : Int32))), .val (.ref w_BOOLEAN), .val (.int (0 : Int32)), .val (.int (0 : Int32)), .unset] [(.ref w_BOOLEAN)])) _
        refine st70.trans ?_
        show Steps p.tables e below (T70.setTop (mkF m 46 #[.val (.int p0), .val (.int ((p0 &&& (2147483647 : Int32)) % (12 : Int32))), .val (.ref w_BOOLEAN), .val (.int (0 : Int32)), .val (.int (0 : Int32)), .unset] [(.int (0 : Int32))])) _
        refine XS.istore X70.here hx rfl (hb hby at_46) rfl (l' := #[.val (.int p0), .val (.int ((p0 &&& (2147483647 : Int32)) % (12 : Int32))), .val (.ref w_BOOLEAN), .val (.int (0 : Int32)), .val (.int (0 : Int32)), .val (.int (0 : Int32))]) rfl ?_
        show Steps p.tables e below (T70.setTop (mkF m 48 #[.val (.int p0), .val (.int ((p0 &&& (2147483647 : Int32)) % (12 : Int32))), .val (.ref w_BOOLEAN), .val (.int (0 : Int32)), .val (.int (0 : Int32)), .val (.int (0 : Int32))] [])) _
        refine XS.iload X70.here hx rfl (hb hby at_48) rfl ?_
        show Steps p.tables e below (T70.setTop (mkF m 50 #[.val (.int p0), .val (.int ((p0 &&& (2147483647 : Int32)) % (12 : Int32))), .val (.ref w_BOOLEAN), .val (.int (0 : Int32)), .val (.int (0 : Int32)), .val (.int (0 : Int32))] [(.int (0 : Int32))])) _
        refine XS.iloadN X70.here hx rfl (hb hby at_50) rfl ?_
        show Steps p.tables e below (T70.setTop (mkF m 51 #[.val (.int p0), .val (.int ((p0 &&& (2147483647 : Int32)) % (12 : Int32))), .val (.ref w_BOOLEAN), .val (.int (0 : Int32)), .val (.int (0 : Int32)), .val (.int (0 : Int32))] [(.int (0 : Int32)), (.int (0 : Int32))])) _
        refine XS.icmpNo X70.here hx rfl (hb hby at_51) rfl (teq (by decide : (0 : Int32) = (0 : Int32))).2 ?_
        show Steps p.tables e below (T70.setTop (mkF m 54 #[.val (.int p0), .val (.int ((p0 &&& (2147483647 : Int32)) % (12 : Int32))), .val (.ref w_BOOLEAN), .val (.int (0 : Int32)), .val (.int (0 : Int32)), .val (.int (0 : Int32))] [])) _
        refine XS.iload X70.here hx rfl (hb hby at_54) rfl ?_
        show Steps p.tables e below (T70.setTop (mkF m 56 #[.val (.int p0), .val (.int ((p0 &&& (2147483647 : Int32)) % (12 : Int32))), .val (.ref w_BOOLEAN), .val (.int (0 : Int32)), .val (.int (0 : Int32)), .val (.int (0 : Int32))] [(.int (0 : Int32))])) _
        refine XS.iload X70.here hx rfl (hb hby at_56) rfl ?_
        show Steps p.tables e below (T70.setTop (mkF m 58 #[.val (.int p0), .val (.int ((p0 &&& (2147483647 : Int32)) % (12 : Int32))), .val (.ref w_BOOLEAN), .val (.int (0 : Int32)), .val (.int (0 : Int32)), .val (.int (0 : Int32))] [(.int (0 : Int32)), (.int (0 : Int32))])) _
        refine XS.icmpNo X70.here hx rfl (hb hby at_58) rfl (teq (by decide : (0 : Int32) = (0 : Int32))).2 ?_
        show Steps p.tables e below (T70.setTop (mkF m 61 #[.val (.int p0), .val (.int ((p0 &&& (2147483647 : Int32)) % (12 : Int32))), .val (.ref w_BOOLEAN), .val (.int (0 : Int32)), .val (.int (0 : Int32)), .val (.int (0 : Int32))] [])) _
        refine XS.iconst X70.here hx rfl (hb hby at_61) ?_
        show Steps p.tables e below (T70.setTop (mkF m 62 #[.val (.int p0), .val (.int ((p0 &&& (2147483647 : Int32)) % (12 : Int32))), .val (.ref w_BOOLEAN), .val (.int (0 : Int32)), .val (.int (0 : Int32)), .val (.int (0 : Int32))] [(.int (1 : Int32))])) _
        refine XS.goto X70.here hx rfl (pc0 := 62) (pc' := 66) rfl (hb hby at_62) (by decide) (by decide) ?_
        show Steps p.tables e below (T70.setTop (mkF m 66 #[.val (.int p0), .val (.int ((p0 &&& (2147483647 : Int32)) % (12 : Int32))), .val (.ref w_BOOLEAN), .val (.int (0 : Int32)), .val (.int (0 : Int32)), .val (.int (0 : Int32))] [(.int (1 : Int32))])) _
        exact retN X70 hx (t := .boolean) Bd.returns (by simp) (hb hby at_66) hr
      · show Q_law Z p0 w_BIT w_BOOLEAN w_UNSIGNED_BYTE w_SHORT w_INT w_LONG w_FLOAT w_DOUBLE w_CHAR w_UNICODE_CHAR w_POINT w_CIRCLE kc l_CHAR v_CHAR cl_CHAR l_POINT v_POINT cl_POINT l_CIRCLE v_CIRCLE cl_CIRCLE h0 n0 _ T70.heap _
        refine ⟨?_, N70, trivial⟩
        rw [F_law, if_neg hs_59, if_pos hs_65]
    · by_cases hs_71 : ((p0 &&& (2147483647 : Int32)) % (12 : Int32)) = (2 : Int32)
      · have q57 : (F_pick ((p0 &&& (2147483647 : Int32)) % (12 : Int32)) w_BIT w_BOOLEAN w_UNSIGNED_BYTE w_SHORT w_INT w_LONG w_FLOAT w_DOUBLE w_CHAR w_UNICODE_CHAR w_POINT w_CIRCLE) = w_UNSIGNED_BYTE := by rw [F_pick, if_neg hs_59, if_neg hs_65, if_pos hs_71]
        rw [q57] at st57
        have wS72 : ∀ a ∈ Bundle.stringAtoms, a.before a0' Z = true := own_strAtoms (hw _ (List.mem_of_getElem? (i := 9) rfl)) (hw _ (List.mem_of_getElem? (i := 10) rfl)) (hw _ (List.mem_of_getElem? (i := 11) rfl)) (hw _ (List.mem_of_getElem? (i := 12) rfl)) (hw _ (List.mem_of_getElem? (i := 13) rfl)) (hw _ (List.mem_of_getElem? (i := 14) rfl)) (hw _ (List.mem_of_getElem? (i := 15) rfl))
        obtain ⟨s73, T73, h73, k73, bv73, kv73, X73, e73, E73, hS73, hk73, hZ, hown, Es73, Cs73, Vs73, As73, -, -, -, st73⟩ := ldcSV (s := s) (vm0 := s.vm) (Ts := []) X57 hx hZ hown (hw _ (List.mem_of_getElem? (i := 8) rfl)) wS72 e57 (k0 := 0) ((State.WarmedH.refl s).since 0) (Nat.zero_le _) (fun y hy => Nat.le_trans (by rw [hh]; exact hn0) (N57 y hy)) (fun b cl q => by rw [hUZ]; exact q) (show IB Z s.vm [] by rw [hUZ]; exact IB.start) (by simp) HCH hcw (vs := [.int 42]) (z := 1) ⟨by decide, by decide⟩ (by decide) rfl (g := (mkF m 31 #[.val (.int p0), .val (.int ((p0 &&& (2147483647 : Int32)) % (12 : Int32))), .val (.ref w_UNSIGNED_BYTE), .val (.int (0 : Int32)), .unset, .unset] [])) rfl (hb hby at_31) (n := 4) (by decide) (by decide) (by decide) (by decide)
        have EX73 : Ext h0 h73 := E73
        have Z73 : n0 ≤ h73.size := Nat.le_trans Z0 EX73.1
        obtain ⟨cq74, kq74, q74a, q74b, q74c⟩ := isOf hZ e73 (E_UNSIGNED_BYTE.ext EX73)
        obtain ⟨_, _, ⟨T74, L74, k74, n74⟩, -, X74, ⟨Lc74, hQ74, l74, y74, z74⟩, st74⟩ := X73.virtualBack hx (y := (⟨"com/example/starquarry/starquarry/model/ColumnType", "arraysize", "()Ljava/lang/String;"⟩ : MethodName)) (z := (⟨"com/example/starquarry/starquarry/model/ColumnType", "arraysize", "()Ljava/lang/String;"⟩ : MethodName)) hown (mvT hZ (hw _ (List.mem_of_getElem? (i := 16) rfl))) (mvT hZ (hw _ (List.mem_of_getElem? (i := 17) rfl))) (notFace_of_selects (args := #[]) (mvT hZ (hw _ (List.mem_of_getElem? (i := 19) rfl)))) (mvT hZ (hw _ (List.mem_of_getElem? (i := 19) rfl))) (mvT hZ (hw _ (List.mem_of_getElem? (i := 18) rfl))) (by decide) (backOf (W := 1) (rm_asN l Z a0' hw [] w_UNSIGNED_BYTE h73 n0 Z73 (FX_UNSIGNED_BYTE.ext EX73)) hZ (hw _ (List.mem_of_getElem? (i := 20) rfl)) (hw _ (List.mem_of_getElem? (i := 6) rfl)) (by decide) (by decide)) q74a q74c (g := (mkF m 34 #[.val (.int p0), .val (.int ((p0 &&& (2147483647 : Int32)) % (12 : Int32))), .val (.ref w_UNSIGNED_BYTE), .val (.int (0 : Int32)), .unset, .unset] [(.ref w_UNSIGNED_BYTE), (.ref s73)])) rfl (by rw [hml]; rfl) (Steps.refl _) (argsL := []) (rest := [(.ref s73)]) (lenOf own_pd2 rfl) rfl (by show 2 * 0 + _ ≤ _; exact Nat.le_of_eq rfl) (hb hby at_34) (fun _ _ => ⟨rfl, e73, (by decide : 2 + 0 ≤ _), (by decide : 8 + 0 ≤ _)⟩)
        dsimp only [Pt.U, Pt.locs, Pt.cells, Pt.slots] at X74 l74 y74 z74 st74 hQ74
        subst l74 y74 z74
        obtain ⟨rfl, N74q, e74⟩ := hQ74
        have N74 := Fr.app N57 N74q
        obtain ⟨cq75, kq75, q75a, q75b, q75c⟩ := isOf hZ e74 Es73
        obtain ⟨_, _, ⟨T75, L75, k75, n75⟩, -, X75, ⟨Lc75, hQ75, l75, y75, z75⟩, st75⟩ := X74.virtualBack hx (y := (⟨"java/lang/String", "equals", "(Ljava/lang/Object;)Z"⟩ : MethodName)) (z := (⟨"java/lang/String", "equals", "(Ljava/lang/Object;)Z"⟩ : MethodName)) hown (mvT hZ (hw _ (List.mem_of_getElem? (i := 23) rfl))) (mvT hZ (hw _ (List.mem_of_getElem? (i := 24) rfl))) (notFace_of_selects (args := #[]) (mvT hZ (hw _ (List.mem_of_getElem? (i := 26) rfl)))) (mvT hZ (hw _ (List.mem_of_getElem? (i := 26) rfl))) (mvT hZ (hw _ (List.mem_of_getElem? (i := 25) rfl))) (by decide) (backOf (W := 0) (rm_seqN l Z a0' hw [] s73 h73 n0 Z73) hZ (hw _ (List.mem_of_getElem? (i := 27) rfl)) (hw _ (List.mem_of_getElem? (i := 9) rfl)) (by decide) (by decide)) q75a q75c (g := (mkF m 37 #[.val (.int p0), .val (.int ((p0 &&& (2147483647 : Int32)) % (12 : Int32))), .val (.ref w_UNSIGNED_BYTE), .val (.int (0 : Int32)), .unset, .unset] [.null, (.ref s73)])) rfl (by rw [hml]; rfl) (Steps.refl _) (argsL := [.null]) (rest := []) (lenOf own_pd3 rfl) rfl (by show 2 * 0 + _ ≤ _; exact Nat.le_of_eq rfl) (hb hby at_37) (fun _ _ => ⟨rfl, e74, (by decide : 2 + 0 ≤ _), (by decide : 8 + 0 ≤ _)⟩)
        dsimp only [Pt.U, Pt.locs, Pt.cells, Pt.slots] at X75 l75 y75 z75 st75 hQ75
        subst l75 y75 z75
        obtain ⟨rfl, N75q, e75⟩ := hQ75
        have N75 := Fr.app N74 N75q
        obtain ⟨cq76, kq76, q76a, q76b, q76c⟩ := isOf hZ e75 (E_UNSIGNED_BYTE.ext EX73)
        obtain ⟨_, _, ⟨T76, L76, k76, n76⟩, -, X76, ⟨Lc76, hQ76, l76, y76, z76⟩, st76⟩ := X75.virtualBack hx (y := (⟨"com/example/starquarry/starquarry/model/ColumnType", "isText", "()Z"⟩ : MethodName)) (z := (⟨"com/example/starquarry/starquarry/model/ColumnType", "isText", "()Z"⟩ : MethodName)) hown (mvT hZ (hw _ (List.mem_of_getElem? (i := 28) rfl))) (mvT hZ (hw _ (List.mem_of_getElem? (i := 29) rfl))) (notFace_of_selects (args := #[]) (mvT hZ (hw _ (List.mem_of_getElem? (i := 31) rfl)))) (mvT hZ (hw _ (List.mem_of_getElem? (i := 31) rfl))) (mvT hZ (hw _ (List.mem_of_getElem? (i := 30) rfl))) (by decide) (backOf (W := 0) (rm_tx l Z a0' hw [] w_UNSIGNED_BYTE w_CHAR w_UNICODE_CHAR h73 n0 Z73 (S_CHAR.ext EX73) (S_UNICODE_CHAR.ext EX73)) hZ (hw _ (List.mem_of_getElem? (i := 32) rfl)) (hw _ (List.mem_of_getElem? (i := 6) rfl)) (by decide) (by decide)) q76a q76c (g := (mkF m 43 #[.val (.int p0), .val (.int ((p0 &&& (2147483647 : Int32)) % (12 : Int32))), .val (.ref w_UNSIGNED_BYTE), .val (.int (0 : Int32)), .val (.int (0 : Int32)), .unset] [(.ref w_UNSIGNED_BYTE)])) rfl (by rw [hml]; rfl) (Steps.refl _) (argsL := []) (rest := []) (lenOf own_pd4 rfl) rfl (by show 2 * 0 + _ ≤ _; exact Nat.le_of_eq rfl) (hb hby at_43) (fun _ _ => ⟨rfl, e75, (by decide : 2 + 0 ≤ _), (by decide : 8 + 0 ≤ _)⟩)
        dsimp only [Pt.U, Pt.locs, Pt.cells, Pt.slots] at X76 l76 y76 z76 st76 hQ76
        subst l76 y76 z76
        obtain ⟨rfl, N76q, e76⟩ := hQ76
        have N76 := Fr.app N75 N76q
        have q76 : (F_tx w_UNSIGNED_BYTE w_CHAR w_UNICODE_CHAR) = (0 : Int32) := by rw [F_tx, if_neg ne_UNSIGNED_BYTE_CHAR, if_neg ne_UNSIGNED_BYTE_UNICODE_CHAR]
        rw [q76] at st76
        obtain ⟨fs, hr, hrun, hended, hE⟩ := X76.leaveW hS73 (by rw [e76]; exact hk73) (v := some (.int (1 : Int32))) (fun h => by rw [Bd.returns] at h; cases h)
        refine ⟨_, _, pre58 _ ?_, hrun, hended, _, _, rfl, ?_, own_wmono hE (by decide) (by decide)⟩
        · show Steps p.tables e below (s₁.setTop (mkF m 9 #[.val (.int p0), .val (.int ((p0 &&& (2147483647 : Int32)) % (12 : Int32))), .unset, .unset, .unset, .unset] [(.int ((p0 &&& (2147483647 : Int32)) % (12 : Int32)))])) _
          refine st57 _ ?_
          show Steps p.tables e below (T57.setTop (mkF m 12 #[.val (.int p0), .val (.int ((p0 &&& (2147483647 : Int32)) % (12 : Int32))), .unset, .unset, .unset, .unset] [(.ref w_UNSIGNED_BYTE)])) _
          refine XS.astoreN X57.here hx rfl (hb hby at_12) rfl rfl (l' := #[.val (.int p0), .val (.int ((p0 &&& (2147483647 : Int32)) % (12 : Int32))), .val (.ref w_UNSIGNED_BYTE), .unset, .unset, .unset]) rfl ?_
          show Steps p.tables e below (T57.setTop (mkF m 13 #[.val (.int p0), .val (.int ((p0 &&& (2147483647 : Int32)) % (12 : Int32))), .val (.ref w_UNSIGNED_BYTE), .unset, .unset, .unset] [])) _
          refine XS.iloadN X57.here hx rfl (hb hby at_13) rfl ?_
          show Steps p.tables e below (T57.setTop (mkF m 14 #[.val (.int p0), .val (.int ((p0 &&& (2147483647 : Int32)) % (12 : Int32))), .val (.ref w_UNSIGNED_BYTE), .unset, .unset, .unset] [(.int ((p0 &&& (2147483647 : Int32)) % (12 : Int32)))])) _
          refine XS.bipush X57.here hx rfl (hb hby at_14) ?_
          show Steps p.tables e below (T57.setTop (mkF m 16 #[.val (.int p0), .val (.int ((p0 &&& (2147483647 : Int32)) % (12 : Int32))), .val (.ref w_UNSIGNED_BYTE), .unset, .unset, .unset] [(.int (8 : Int32)), (.int ((p0 &&& (2147483647 : Int32)) % (12 : Int32)))])) _
          refine XS.icmpNo X57.here hx rfl (hb hby at_16) rfl (feq (fun q => absurd (hs_71.symm.trans q) (by decide))).1 ?_
          show Steps p.tables e below (T57.setTop (mkF m 19 #[.val (.int p0), .val (.int ((p0 &&& (2147483647 : Int32)) % (12 : Int32))), .val (.ref w_UNSIGNED_BYTE), .unset, .unset, .unset] [])) _
          refine XS.iloadN X57.here hx rfl (hb hby at_19) rfl ?_
          show Steps p.tables e below (T57.setTop (mkF m 20 #[.val (.int p0), .val (.int ((p0 &&& (2147483647 : Int32)) % (12 : Int32))), .val (.ref w_UNSIGNED_BYTE), .unset, .unset, .unset] [(.int ((p0 &&& (2147483647 : Int32)) % (12 : Int32)))])) _
          refine XS.bipush X57.here hx rfl (hb hby at_20) ?_
          show Steps p.tables e below (T57.setTop (mkF m 22 #[.val (.int p0), .val (.int ((p0 &&& (2147483647 : Int32)) % (12 : Int32))), .val (.ref w_UNSIGNED_BYTE), .unset, .unset, .unset] [(.int (9 : Int32)), (.int ((p0 &&& (2147483647 : Int32)) % (12 : Int32)))])) _
          refine XS.icmpYes X57.here hx rfl (pc0 := 22) (pc' := 29) rfl (hb hby at_22) rfl (feq (fun q => absurd (hs_71.symm.trans q) (by decide))).2 (by decide) (by decide) ?_
          show Steps p.tables e below (T57.setTop (mkF m 29 #[.val (.int p0), .val (.int ((p0 &&& (2147483647 : Int32)) % (12 : Int32))), .val (.ref w_UNSIGNED_BYTE), .unset, .unset, .unset] [])) _
          refine XS.iconst X57.here hx rfl (hb hby at_29) ?_
          show Steps p.tables e below (T57.setTop (mkF m 30 #[.val (.int p0), .val (.int ((p0 &&& (2147483647 : Int32)) % (12 : Int32))), .val (.ref w_UNSIGNED_BYTE), .unset, .unset, .unset] [(.int (0 : Int32))])) _
          refine XS.istoreN X57.here hx rfl (hb hby at_30) rfl (l' := #[.val (.int p0), .val (.int ((p0 &&& (2147483647 : Int32)) % (12 : Int32))), .val (.ref w_UNSIGNED_BYTE), .val (.int (0 : Int32)), .unset, .unset]) rfl ?_
          show Steps p.tables e below (T57.setTop (mkF m 31 #[.val (.int p0), .val (.int ((p0 &&& (2147483647 : Int32)) % (12 : Int32))), .val (.ref w_UNSIGNED_BYTE), .val (.int (0 : Int32)), .unset, .unset] [])) _
          refine st73 _ ?_
          show Steps p.tables e below (T73.setTop (mkF m 33 #[.val (.int p0), .val (.int ((p0 &&& (2147483647 : Int32)) % (12 : Int32))), .val (.ref w_UNSIGNED_BYTE), .val (.int (0 : Int32)), .unset, .unset] [(.ref s73)])) _
          refine XS.aloadN X73.here hx rfl (hb hby at_33) rfl rfl ?_
          show Steps p.tables e below (T73.setTop (mkF m 34 #[.val (.int p0), .val (.int ((p0 &&& (2147483647 : Int32)) % (12 : Int32))), .val (.ref w_UNSIGNED_BYTE), .val (.int (0 : Int32)), .unset, .unset] [(.ref w_UNSIGNED_BYTE), (.ref s73)])) _
          refine st74.trans ?_
          show Steps p.tables e below (T74.setTop (mkF m 37 #[.val (.int p0), .val (.int ((p0 &&& (2147483647 : Int32)) % (12 : Int32))), .val (.ref w_UNSIGNED_BYTE), .val (.int (0 : Int32)), .unset, .unset] [.null, (.ref s73)])) _
          refine st75.trans ?_
          show Steps p.tables e below (T75.setTop (mkF m 40 #[.val (.int p0), .val (.int ((p0 &&& (2147483647 : Int32)) % (12 : Int32))), .val (.ref w_UNSIGNED_BYTE), .val (.int (0 : Int32)), .unset, .unset] [(.int (0 : Int32))])) _
          refine XS.istore X75.here hx rfl (hb hby at_40) rfl (l' := #[.val (.int p0), .val (.int ((p0 &&& (2147483647 : Int32)) % (12 : Int32))), .val (.ref w_UNSIGNED_BYTE), .val (.int (0 : Int32)), .val (.int (0 : Int32)), .unset]) rfl ?_
          show Steps p.tables e below (T75.setTop (mkF m 42 #[.val (.int p0), .val (.int ((p0 &&& (2147483647 : Int32)) % (12 : Int32))), .val (.ref w_UNSIGNED_BYTE), .val (.int (0 : Int32)), .val (.int (0 : Int32)), .unset] [])) _
          refine XS.aloadN X75.here hx rfl (hb hby at_42) rfl rfl ?_
          show Steps p.tables e below (T75.setTop (mkF m 43 #[.val (.int p0), .val (.int ((p0 &&& (2147483647 : Int32)) % (12 : Int32))), .val (.ref w_UNSIGNED_BYTE), .val (.int (0 : Int32)), .val (.int (0 : Int32)), .unset] [(.ref w_UNSIGNED_BYTE)])) _
          refine st76.trans ?_
          show Steps p.tables e below (T76.setTop (mkF m 46 #[.val (.int p0), .val (.int ((p0 &&& (2147483647 : Int32)) % (12 : Int32))), .val (.ref w_UNSIGNED_BYTE), .val (.int (0 : Int32)), .val (.int (0 : Int32)), .unset] [(.int (0 : Int32))])) _
          refine XS.istore X76.here hx rfl (hb hby at_46) rfl (l' := #[.val (.int p0), .val (.int ((p0 &&& (2147483647 : Int32)) % (12 : Int32))), .val (.ref w_UNSIGNED_BYTE), .val (.int (0 : Int32)), .val (.int (0 : Int32)), .val (.int (0 : Int32))]) rfl ?_
          show Steps p.tables e below (T76.setTop (mkF m 48 #[.val (.int p0), .val (.int ((p0 &&& (2147483647 : Int32)) % (12 : Int32))), .val (.ref w_UNSIGNED_BYTE), .val (.int (0 : Int32)), .val (.int (0 : Int32)), .val (.int (0 : Int32))] [])) _
          refine XS.iload X76.here hx rfl (hb hby at_48) rfl ?_
          show Steps p.tables e below (T76.setTop (mkF m 50 #[.val (.int p0), .val (.int ((p0 &&& (2147483647 : Int32)) % (12 : Int32))), .val (.ref w_UNSIGNED_BYTE), .val (.int (0 : Int32)), .val (.int (0 : Int32)), .val (.int (0 : Int32))] [(.int (0 : Int32))])) _
          refine XS.iloadN X76.here hx rfl (hb hby at_50) rfl ?_
          show Steps p.tables e below (T76.setTop (mkF m 51 #[.val (.int p0), .val (.int ((p0 &&& (2147483647 : Int32)) % (12 : Int32))), .val (.ref w_UNSIGNED_BYTE), .val (.int (0 : Int32)), .val (.int (0 : Int32)), .val (.int (0 : Int32))] [(.int (0 : Int32)), (.int (0 : Int32))])) _
          refine XS.icmpNo X76.here hx rfl (hb hby at_51) rfl (teq (by decide : (0 : Int32) = (0 : Int32))).2 ?_
          show Steps p.tables e below (T76.setTop (mkF m 54 #[.val (.int p0), .val (.int ((p0 &&& (2147483647 : Int32)) % (12 : Int32))), .val (.ref w_UNSIGNED_BYTE), .val (.int (0 : Int32)), .val (.int (0 : Int32)), .val (.int (0 : Int32))] [])) _
          refine XS.iload X76.here hx rfl (hb hby at_54) rfl ?_
          show Steps p.tables e below (T76.setTop (mkF m 56 #[.val (.int p0), .val (.int ((p0 &&& (2147483647 : Int32)) % (12 : Int32))), .val (.ref w_UNSIGNED_BYTE), .val (.int (0 : Int32)), .val (.int (0 : Int32)), .val (.int (0 : Int32))] [(.int (0 : Int32))])) _
          refine XS.iload X76.here hx rfl (hb hby at_56) rfl ?_
          show Steps p.tables e below (T76.setTop (mkF m 58 #[.val (.int p0), .val (.int ((p0 &&& (2147483647 : Int32)) % (12 : Int32))), .val (.ref w_UNSIGNED_BYTE), .val (.int (0 : Int32)), .val (.int (0 : Int32)), .val (.int (0 : Int32))] [(.int (0 : Int32)), (.int (0 : Int32))])) _
          refine XS.icmpNo X76.here hx rfl (hb hby at_58) rfl (teq (by decide : (0 : Int32) = (0 : Int32))).2 ?_
          show Steps p.tables e below (T76.setTop (mkF m 61 #[.val (.int p0), .val (.int ((p0 &&& (2147483647 : Int32)) % (12 : Int32))), .val (.ref w_UNSIGNED_BYTE), .val (.int (0 : Int32)), .val (.int (0 : Int32)), .val (.int (0 : Int32))] [])) _
          refine XS.iconst X76.here hx rfl (hb hby at_61) ?_
          show Steps p.tables e below (T76.setTop (mkF m 62 #[.val (.int p0), .val (.int ((p0 &&& (2147483647 : Int32)) % (12 : Int32))), .val (.ref w_UNSIGNED_BYTE), .val (.int (0 : Int32)), .val (.int (0 : Int32)), .val (.int (0 : Int32))] [(.int (1 : Int32))])) _
          refine XS.goto X76.here hx rfl (pc0 := 62) (pc' := 66) rfl (hb hby at_62) (by decide) (by decide) ?_
          show Steps p.tables e below (T76.setTop (mkF m 66 #[.val (.int p0), .val (.int ((p0 &&& (2147483647 : Int32)) % (12 : Int32))), .val (.ref w_UNSIGNED_BYTE), .val (.int (0 : Int32)), .val (.int (0 : Int32)), .val (.int (0 : Int32))] [(.int (1 : Int32))])) _
          exact retN X76 hx (t := .boolean) Bd.returns (by simp) (hb hby at_66) hr
        · show Q_law Z p0 w_BIT w_BOOLEAN w_UNSIGNED_BYTE w_SHORT w_INT w_LONG w_FLOAT w_DOUBLE w_CHAR w_UNICODE_CHAR w_POINT w_CIRCLE kc l_CHAR v_CHAR cl_CHAR l_POINT v_POINT cl_POINT l_CIRCLE v_CIRCLE cl_CIRCLE h0 n0 _ T76.heap _
          refine ⟨?_, N76, trivial⟩
          rw [F_law, if_neg hs_59, if_neg hs_65, if_pos hs_71]
      · by_cases hs_77 : ((p0 &&& (2147483647 : Int32)) % (12 : Int32)) = (3 : Int32)
        · have q57 : (F_pick ((p0 &&& (2147483647 : Int32)) % (12 : Int32)) w_BIT w_BOOLEAN w_UNSIGNED_BYTE w_SHORT w_INT w_LONG w_FLOAT w_DOUBLE w_CHAR w_UNICODE_CHAR w_POINT w_CIRCLE) = w_SHORT := by rw [F_pick, if_neg hs_59, if_neg hs_65, if_neg hs_71, if_pos hs_77]
          rw [q57] at st57
          have wS78 : ∀ a ∈ Bundle.stringAtoms, a.before a0' Z = true := own_strAtoms (hw _ (List.mem_of_getElem? (i := 9) rfl)) (hw _ (List.mem_of_getElem? (i := 10) rfl)) (hw _ (List.mem_of_getElem? (i := 11) rfl)) (hw _ (List.mem_of_getElem? (i := 12) rfl)) (hw _ (List.mem_of_getElem? (i := 13) rfl)) (hw _ (List.mem_of_getElem? (i := 14) rfl)) (hw _ (List.mem_of_getElem? (i := 15) rfl))
          obtain ⟨s79, T79, h79, k79, bv79, kv79, X79, e79, E79, hS79, hk79, hZ, hown, Es79, Cs79, Vs79, As79, -, -, -, st79⟩ := ldcSV (s := s) (vm0 := s.vm) (Ts := []) X57 hx hZ hown (hw _ (List.mem_of_getElem? (i := 8) rfl)) wS78 e57 (k0 := 0) ((State.WarmedH.refl s).since 0) (Nat.zero_le _) (fun y hy => Nat.le_trans (by rw [hh]; exact hn0) (N57 y hy)) (fun b cl q => by rw [hUZ]; exact q) (show IB Z s.vm [] by rw [hUZ]; exact IB.start) (by simp) HCH hcw (vs := [.int 42]) (z := 1) ⟨by decide, by decide⟩ (by decide) rfl (g := (mkF m 31 #[.val (.int p0), .val (.int ((p0 &&& (2147483647 : Int32)) % (12 : Int32))), .val (.ref w_SHORT), .val (.int (0 : Int32)), .unset, .unset] [])) rfl (hb hby at_31) (n := 4) (by decide) (by decide) (by decide) (by decide)
          have EX79 : Ext h0 h79 := E79
          have Z79 : n0 ≤ h79.size := Nat.le_trans Z0 EX79.1
          obtain ⟨cq80, kq80, q80a, q80b, q80c⟩ := isOf hZ e79 (E_SHORT.ext EX79)
          obtain ⟨_, _, ⟨T80, L80, k80, n80⟩, -, X80, ⟨Lc80, hQ80, l80, y80, z80⟩, st80⟩ := X79.virtualBack hx (y := (⟨"com/example/starquarry/starquarry/model/ColumnType", "arraysize", "()Ljava/lang/String;"⟩ : MethodName)) (z := (⟨"com/example/starquarry/starquarry/model/ColumnType", "arraysize", "()Ljava/lang/String;"⟩ : MethodName)) hown (mvT hZ (hw _ (List.mem_of_getElem? (i := 16) rfl))) (mvT hZ (hw _ (List.mem_of_getElem? (i := 17) rfl))) (notFace_of_selects (args := #[]) (mvT hZ (hw _ (List.mem_of_getElem? (i := 19) rfl)))) (mvT hZ (hw _ (List.mem_of_getElem? (i := 19) rfl))) (mvT hZ (hw _ (List.mem_of_getElem? (i := 18) rfl))) (by decide) (backOf (W := 1) (rm_asN l Z a0' hw [] w_SHORT h79 n0 Z79 (FX_SHORT.ext EX79)) hZ (hw _ (List.mem_of_getElem? (i := 20) rfl)) (hw _ (List.mem_of_getElem? (i := 6) rfl)) (by decide) (by decide)) q80a q80c (g := (mkF m 34 #[.val (.int p0), .val (.int ((p0 &&& (2147483647 : Int32)) % (12 : Int32))), .val (.ref w_SHORT), .val (.int (0 : Int32)), .unset, .unset] [(.ref w_SHORT), (.ref s79)])) rfl (by rw [hml]; rfl) (Steps.refl _) (argsL := []) (rest := [(.ref s79)]) (lenOf own_pd2 rfl) rfl (by show 2 * 0 + _ ≤ _; exact Nat.le_of_eq rfl) (hb hby at_34) (fun _ _ => ⟨rfl, e79, (by decide : 2 + 0 ≤ _), (by decide : 8 + 0 ≤ _)⟩)
          dsimp only [Pt.U, Pt.locs, Pt.cells, Pt.slots] at X80 l80 y80 z80 st80 hQ80
          subst l80 y80 z80
          obtain ⟨rfl, N80q, e80⟩ := hQ80
          have N80 := Fr.app N57 N80q
          obtain ⟨cq81, kq81, q81a, q81b, q81c⟩ := isOf hZ e80 Es79
          obtain ⟨_, _, ⟨T81, L81, k81, n81⟩, -, X81, ⟨Lc81, hQ81, l81, y81, z81⟩, st81⟩ := X80.virtualBack hx (y := (⟨"java/lang/String", "equals", "(Ljava/lang/Object;)Z"⟩ : MethodName)) (z := (⟨"java/lang/String", "equals", "(Ljava/lang/Object;)Z"⟩ : MethodName)) hown (mvT hZ (hw _ (List.mem_of_getElem? (i := 23) rfl))) (mvT hZ (hw _ (List.mem_of_getElem? (i := 24) rfl))) (notFace_of_selects (args := #[]) (mvT hZ (hw _ (List.mem_of_getElem? (i := 26) rfl)))) (mvT hZ (hw _ (List.mem_of_getElem? (i := 26) rfl))) (mvT hZ (hw _ (List.mem_of_getElem? (i := 25) rfl))) (by decide) (backOf (W := 0) (rm_seqN l Z a0' hw [] s79 h79 n0 Z79) hZ (hw _ (List.mem_of_getElem? (i := 27) rfl)) (hw _ (List.mem_of_getElem? (i := 9) rfl)) (by decide) (by decide)) q81a q81c (g := (mkF m 37 #[.val (.int p0), .val (.int ((p0 &&& (2147483647 : Int32)) % (12 : Int32))), .val (.ref w_SHORT), .val (.int (0 : Int32)), .unset, .unset] [.null, (.ref s79)])) rfl (by rw [hml]; rfl) (Steps.refl _) (argsL := [.null]) (rest := []) (lenOf own_pd3 rfl) rfl (by show 2 * 0 + _ ≤ _; exact Nat.le_of_eq rfl) (hb hby at_37) (fun _ _ => ⟨rfl, e80, (by decide : 2 + 0 ≤ _), (by decide : 8 + 0 ≤ _)⟩)
          dsimp only [Pt.U, Pt.locs, Pt.cells, Pt.slots] at X81 l81 y81 z81 st81 hQ81
          subst l81 y81 z81
          obtain ⟨rfl, N81q, e81⟩ := hQ81
          have N81 := Fr.app N80 N81q
          obtain ⟨cq82, kq82, q82a, q82b, q82c⟩ := isOf hZ e81 (E_SHORT.ext EX79)
          obtain ⟨_, _, ⟨T82, L82, k82, n82⟩, -, X82, ⟨Lc82, hQ82, l82, y82, z82⟩, st82⟩ := X81.virtualBack hx (y := (⟨"com/example/starquarry/starquarry/model/ColumnType", "isText", "()Z"⟩ : MethodName)) (z := (⟨"com/example/starquarry/starquarry/model/ColumnType", "isText", "()Z"⟩ : MethodName)) hown (mvT hZ (hw _ (List.mem_of_getElem? (i := 28) rfl))) (mvT hZ (hw _ (List.mem_of_getElem? (i := 29) rfl))) (notFace_of_selects (args := #[]) (mvT hZ (hw _ (List.mem_of_getElem? (i := 31) rfl)))) (mvT hZ (hw _ (List.mem_of_getElem? (i := 31) rfl))) (mvT hZ (hw _ (List.mem_of_getElem? (i := 30) rfl))) (by decide) (backOf (W := 0) (rm_tx l Z a0' hw [] w_SHORT w_CHAR w_UNICODE_CHAR h79 n0 Z79 (S_CHAR.ext EX79) (S_UNICODE_CHAR.ext EX79)) hZ (hw _ (List.mem_of_getElem? (i := 32) rfl)) (hw _ (List.mem_of_getElem? (i := 6) rfl)) (by decide) (by decide)) q82a q82c (g := (mkF m 43 #[.val (.int p0), .val (.int ((p0 &&& (2147483647 : Int32)) % (12 : Int32))), .val (.ref w_SHORT), .val (.int (0 : Int32)), .val (.int (0 : Int32)), .unset] [(.ref w_SHORT)])) rfl (by rw [hml]; rfl) (Steps.refl _) (argsL := []) (rest := []) (lenOf own_pd4 rfl) rfl (by show 2 * 0 + _ ≤ _; exact Nat.le_of_eq rfl) (hb hby at_43) (fun _ _ => ⟨rfl, e81, (by decide : 2 + 0 ≤ _), (by decide : 8 + 0 ≤ _)⟩)
          dsimp only [Pt.U, Pt.locs, Pt.cells, Pt.slots] at X82 l82 y82 z82 st82 hQ82
          subst l82 y82 z82
          obtain ⟨rfl, N82q, e82⟩ := hQ82
          have N82 := Fr.app N81 N82q
          have q82 : (F_tx w_SHORT w_CHAR w_UNICODE_CHAR) = (0 : Int32) := by rw [F_tx, if_neg ne_SHORT_CHAR, if_neg ne_SHORT_UNICODE_CHAR]
          rw [q82] at st82
          obtain ⟨fs, hr, hrun, hended, hE⟩ := X82.leaveW hS79 (by rw [e82]; exact hk79) (v := some (.int (1 : Int32))) (fun h => by rw [Bd.returns] at h; cases h)
          refine ⟨_, _, pre58 _ ?_, hrun, hended, _, _, rfl, ?_, own_wmono hE (by decide) (by decide)⟩
          · show Steps p.tables e below (s₁.setTop (mkF m 9 #[.val (.int p0), .val (.int ((p0 &&& (2147483647 : Int32)) % (12 : Int32))), .unset, .unset, .unset, .unset] [(.int ((p0 &&& (2147483647 : Int32)) % (12 : Int32)))])) _
            refine st57 _ ?_
            show Steps p.tables e below (T57.setTop (mkF m 12 #[.val (.int p0), .val (.int ((p0 &&& (2147483647 : Int32)) % (12 : Int32))), .unset, .unset, .unset, .unset] [(.ref w_SHORT)])) _
            refine XS.astoreN X57.here hx rfl (hb hby at_12) rfl rfl (l' := #[.val (.int p0), .val (.int ((p0 &&& (2147483647 : Int32)) % (12 : Int32))), .val (.ref w_SHORT), .unset, .unset, .unset]) rfl ?_
            show Steps p.tables e below (T57.setTop (mkF m 13 #[.val (.int p0), .val (.int ((p0 &&& (2147483647 : Int32)) % (12 : Int32))), .val (.ref w_SHORT), .unset, .unset, .unset] [])) _
            refine XS.iloadN X57.here hx rfl (hb hby at_13) rfl ?_
            show Steps p.tables e below (T57.setTop (mkF m 14 #[.val (.int p0), .val (.int ((p0 &&& (2147483647 : Int32)) % (12 : Int32))), .val (.ref w_SHORT), .unset, .unset, .unset] [(.int ((p0 &&& (2147483647 : Int32)) % (12 : Int32)))])) _
            refine XS.bipush X57.here hx rfl (hb hby at_14) ?_
            show Steps p.tables e below (T57.setTop (mkF m 16 #[.val (.int p0), .val (.int ((p0 &&& (2147483647 : Int32)) % (12 : Int32))), .val (.ref w_SHORT), .unset, .unset, .unset] [(.int (8 : Int32)), (.int ((p0 &&& (2147483647 : Int32)) % (12 : Int32)))])) _
            refine XS.icmpNo X57.here hx rfl (hb hby at_16) rfl (feq (fun q => absurd (hs_77.symm.trans q) (by decide))).1 ?_
            show Steps p.tables e below (T57.setTop (mkF m 19 #[.val (.int p0), .val (.int ((p0 &&& (2147483647 : Int32)) % (12 : Int32))), .val (.ref w_SHORT), .unset, .unset, .unset] [])) _
            refine XS.iloadN X57.here hx rfl (hb hby at_19) rfl ?_
            show Steps p.tables e below (T57.setTop (mkF m 20 #[.val (.int p0), .val (.int ((p0 &&& (2147483647 : Int32)) % (12 : Int32))), .val (.ref w_SHORT), .unset, .unset, .unset] [(.int ((p0 &&& (2147483647 : Int32)) % (12 : Int32)))])) _
            refine XS.bipush X57.here hx rfl (hb hby at_20) ?_
            show Steps p.tables e below (T57.setTop (mkF m 22 #[.val (.int p0), .val (.int ((p0 &&& (2147483647 : Int32)) % (12 : Int32))), .val (.ref w_SHORT), .unset, .unset, .unset] [(.int (9 : Int32)), (.int ((p0 &&& (2147483647 : Int32)) % (12 : Int32)))])) _
            refine XS.icmpYes X57.here hx rfl (pc0 := 22) (pc' := 29) rfl (hb hby at_22) rfl (feq (fun q => absurd (hs_77.symm.trans q) (by decide))).2 (by decide) (by decide) ?_
            show Steps p.tables e below (T57.setTop (mkF m 29 #[.val (.int p0), .val (.int ((p0 &&& (2147483647 : Int32)) % (12 : Int32))), .val (.ref w_SHORT), .unset, .unset, .unset] [])) _
            refine XS.iconst X57.here hx rfl (hb hby at_29) ?_
            show Steps p.tables e below (T57.setTop (mkF m 30 #[.val (.int p0), .val (.int ((p0 &&& (2147483647 : Int32)) % (12 : Int32))), .val (.ref w_SHORT), .unset, .unset, .unset] [(.int (0 : Int32))])) _
            refine XS.istoreN X57.here hx rfl (hb hby at_30) rfl (l' := #[.val (.int p0), .val (.int ((p0 &&& (2147483647 : Int32)) % (12 : Int32))), .val (.ref w_SHORT), .val (.int (0 : Int32)), .unset, .unset]) rfl ?_
            show Steps p.tables e below (T57.setTop (mkF m 31 #[.val (.int p0), .val (.int ((p0 &&& (2147483647 : Int32)) % (12 : Int32))), .val (.ref w_SHORT), .val (.int (0 : Int32)), .unset, .unset] [])) _
            refine st79 _ ?_
            show Steps p.tables e below (T79.setTop (mkF m 33 #[.val (.int p0), .val (.int ((p0 &&& (2147483647 : Int32)) % (12 : Int32))), .val (.ref w_SHORT), .val (.int (0 : Int32)), .unset, .unset] [(.ref s79)])) _
            refine XS.aloadN X79.here hx rfl (hb hby at_33) rfl rfl ?_
            show Steps p.tables e below (T79.setTop (mkF m 34 #[.val (.int p0), .val (.int ((p0 &&& (2147483647 : Int32)) % (12 : Int32))), .val (.ref w_SHORT), .val (.int (0 : Int32)), .unset, .unset] [(.ref w_SHORT), (.ref s79)])) _
            refine st80.trans ?_
            show Steps p.tables e below (T80.setTop (mkF m 37 #[.val (.int p0), .val (.int ((p0 &&& (2147483647 : Int32)) % (12 : Int32))), .val (.ref w_SHORT), .val (.int (0 : Int32)), .unset, .unset] [.null, (.ref s79)])) _
            refine st81.trans ?_
            show Steps p.tables e below (T81.setTop (mkF m 40 #[.val (.int p0), .val (.int ((p0 &&& (2147483647 : Int32)) % (12 : Int32))), .val (.ref w_SHORT), .val (.int (0 : Int32)), .unset, .unset] [(.int (0 : Int32))])) _
            refine XS.istore X81.here hx rfl (hb hby at_40) rfl (l' := #[.val (.int p0), .val (.int ((p0 &&& (2147483647 : Int32)) % (12 : Int32))), .val (.ref w_SHORT), .val (.int (0 : Int32)), .val (.int (0 : Int32)), .unset]) rfl ?_
            show Steps p.tables e below (T81.setTop (mkF m 42 #[.val (.int p0), .val (.int ((p0 &&& (2147483647 : Int32)) % (12 : Int32))), .val (.ref w_SHORT), .val (.int (0 : Int32)), .val (.int (0 : Int32)), .unset] [])) _
            refine XS.aloadN X81.here hx rfl (hb hby at_42) rfl rfl ?_
            show Steps p.tables e below (T81.setTop (mkF m 43 #[.val (.int p0), .val (.int ((p0 &&& (2147483647 : Int32)) % (12 : Int32))), .val (.ref w_SHORT), .val (.int (0 : Int32)), .val (.int (0 : Int32)), .unset] [(.ref w_SHORT)])) _
            refine st82.trans ?_
            show Steps p.tables e below (T82.setTop (mkF m 46 #[.val (.int p0), .val (.int ((p0 &&& (2147483647 : Int32)) % (12 : Int32))), .val (.ref w_SHORT), .val (.int (0 : Int32)), .val (.int (0 : Int32)), .unset] [(.int (0 : Int32))])) _
            refine XS.istore X82.here hx rfl (hb hby at_46) rfl (l' := #[.val (.int p0), .val (.int ((p0 &&& (2147483647 : Int32)) % (12 : Int32))), .val (.ref w_SHORT), .val (.int (0 : Int32)), .val (.int (0 : Int32)), .val (.int (0 : Int32))]) rfl ?_
            show Steps p.tables e below (T82.setTop (mkF m 48 #[.val (.int p0), .val (.int ((p0 &&& (2147483647 : Int32)) % (12 : Int32))), .val (.ref w_SHORT), .val (.int (0 : Int32)), .val (.int (0 : Int32)), .val (.int (0 : Int32))] [])) _
            refine XS.iload X82.here hx rfl (hb hby at_48) rfl ?_
            show Steps p.tables e below (T82.setTop (mkF m 50 #[.val (.int p0), .val (.int ((p0 &&& (2147483647 : Int32)) % (12 : Int32))), .val (.ref w_SHORT), .val (.int (0 : Int32)), .val (.int (0 : Int32)), .val (.int (0 : Int32))] [(.int (0 : Int32))])) _
            refine XS.iloadN X82.here hx rfl (hb hby at_50) rfl ?_
            show Steps p.tables e below (T82.setTop (mkF m 51 #[.val (.int p0), .val (.int ((p0 &&& (2147483647 : Int32)) % (12 : Int32))), .val (.ref w_SHORT), .val (.int (0 : Int32)), .val (.int (0 : Int32)), .val (.int (0 : Int32))] [(.int (0 : Int32)), (.int (0 : Int32))])) _
            refine XS.icmpNo X82.here hx rfl (hb hby at_51) rfl (teq (by decide : (0 : Int32) = (0 : Int32))).2 ?_
            show Steps p.tables e below (T82.setTop (mkF m 54 #[.val (.int p0), .val (.int ((p0 &&& (2147483647 : Int32)) % (12 : Int32))), .val (.ref w_SHORT), .val (.int (0 : Int32)), .val (.int (0 : Int32)), .val (.int (0 : Int32))] [])) _
            refine XS.iload X82.here hx rfl (hb hby at_54) rfl ?_
            show Steps p.tables e below (T82.setTop (mkF m 56 #[.val (.int p0), .val (.int ((p0 &&& (2147483647 : Int32)) % (12 : Int32))), .val (.ref w_SHORT), .val (.int (0 : Int32)), .val (.int (0 : Int32)), .val (.int (0 : Int32))] [(.int (0 : Int32))])) _
            refine XS.iload X82.here hx rfl (hb hby at_56) rfl ?_
            show Steps p.tables e below (T82.setTop (mkF m 58 #[.val (.int p0), .val (.int ((p0 &&& (2147483647 : Int32)) % (12 : Int32))), .val (.ref w_SHORT), .val (.int (0 : Int32)), .val (.int (0 : Int32)), .val (.int (0 : Int32))] [(.int (0 : Int32)), (.int (0 : Int32))])) _
            refine XS.icmpNo X82.here hx rfl (hb hby at_58) rfl (teq (by decide : (0 : Int32) = (0 : Int32))).2 ?_
            show Steps p.tables e below (T82.setTop (mkF m 61 #[.val (.int p0), .val (.int ((p0 &&& (2147483647 : Int32)) % (12 : Int32))), .val (.ref w_SHORT), .val (.int (0 : Int32)), .val (.int (0 : Int32)), .val (.int (0 : Int32))] [])) _
            refine XS.iconst X82.here hx rfl (hb hby at_61) ?_
            show Steps p.tables e below (T82.setTop (mkF m 62 #[.val (.int p0), .val (.int ((p0 &&& (2147483647 : Int32)) % (12 : Int32))), .val (.ref w_SHORT), .val (.int (0 : Int32)), .val (.int (0 : Int32)), .val (.int (0 : Int32))] [(.int (1 : Int32))])) _
            refine XS.goto X82.here hx rfl (pc0 := 62) (pc' := 66) rfl (hb hby at_62) (by decide) (by decide) ?_
            show Steps p.tables e below (T82.setTop (mkF m 66 #[.val (.int p0), .val (.int ((p0 &&& (2147483647 : Int32)) % (12 : Int32))), .val (.ref w_SHORT), .val (.int (0 : Int32)), .val (.int (0 : Int32)), .val (.int (0 : Int32))] [(.int (1 : Int32))])) _
            exact retN X82 hx (t := .boolean) Bd.returns (by simp) (hb hby at_66) hr
          · show Q_law Z p0 w_BIT w_BOOLEAN w_UNSIGNED_BYTE w_SHORT w_INT w_LONG w_FLOAT w_DOUBLE w_CHAR w_UNICODE_CHAR w_POINT w_CIRCLE kc l_CHAR v_CHAR cl_CHAR l_POINT v_POINT cl_POINT l_CIRCLE v_CIRCLE cl_CIRCLE h0 n0 _ T82.heap _
            refine ⟨?_, N82, trivial⟩
            rw [F_law, if_neg hs_59, if_neg hs_65, if_neg hs_71, if_pos hs_77]
        · by_cases hs_83 : ((p0 &&& (2147483647 : Int32)) % (12 : Int32)) = (4 : Int32)
          · have q57 : (F_pick ((p0 &&& (2147483647 : Int32)) % (12 : Int32)) w_BIT w_BOOLEAN w_UNSIGNED_BYTE w_SHORT w_INT w_LONG w_FLOAT w_DOUBLE w_CHAR w_UNICODE_CHAR w_POINT w_CIRCLE) = w_INT := by rw [F_pick, if_neg hs_59, if_neg hs_65, if_neg hs_71, if_neg hs_77, if_pos hs_83]
            rw [q57] at st57
            have wS84 : ∀ a ∈ Bundle.stringAtoms, a.before a0' Z = true := own_strAtoms (hw _ (List.mem_of_getElem? (i := 9) rfl)) (hw _ (List.mem_of_getElem? (i := 10) rfl)) (hw _ (List.mem_of_getElem? (i := 11) rfl)) (hw _ (List.mem_of_getElem? (i := 12) rfl)) (hw _ (List.mem_of_getElem? (i := 13) rfl)) (hw _ (List.mem_of_getElem? (i := 14) rfl)) (hw _ (List.mem_of_getElem? (i := 15) rfl))
            obtain ⟨s85, T85, h85, k85, bv85, kv85, X85, e85, E85, hS85, hk85, hZ, hown, Es85, Cs85, Vs85, As85, -, -, -, st85⟩ := ldcSV (s := s) (vm0 := s.vm) (Ts := []) X57 hx hZ hown (hw _ (List.mem_of_getElem? (i := 8) rfl)) wS84 e57 (k0 := 0) ((State.WarmedH.refl s).since 0) (Nat.zero_le _) (fun y hy => Nat.le_trans (by rw [hh]; exact hn0) (N57 y hy)) (fun b cl q => by rw [hUZ]; exact q) (show IB Z s.vm [] by rw [hUZ]; exact IB.start) (by simp) HCH hcw (vs := [.int 42]) (z := 1) ⟨by decide, by decide⟩ (by decide) rfl (g := (mkF m 31 #[.val (.int p0), .val (.int ((p0 &&& (2147483647 : Int32)) % (12 : Int32))), .val (.ref w_INT), .val (.int (0 : Int32)), .unset, .unset] [])) rfl (hb hby at_31) (n := 4) (by decide) (by decide) (by decide) (by decide)
            have EX85 : Ext h0 h85 := E85
            have Z85 : n0 ≤ h85.size := Nat.le_trans Z0 EX85.1
            obtain ⟨cq86, kq86, q86a, q86b, q86c⟩ := isOf hZ e85 (E_INT.ext EX85)
            obtain ⟨_, _, ⟨T86, L86, k86, n86⟩, -, X86, ⟨Lc86, hQ86, l86, y86, z86⟩, st86⟩ := X85.virtualBack hx (y := (⟨"com/example/starquarry/starquarry/model/ColumnType", "arraysize", "()Ljava/lang/String;"⟩ : MethodName)) (z := (⟨"com/example/starquarry/starquarry/model/ColumnType", "arraysize", "()Ljava/lang/String;"⟩ : MethodName)) hown (mvT hZ (hw _ (List.mem_of_getElem? (i := 16) rfl))) (mvT hZ (hw _ (List.mem_of_getElem? (i := 17) rfl))) (notFace_of_selects (args := #[]) (mvT hZ (hw _ (List.mem_of_getElem? (i := 19) rfl)))) (mvT hZ (hw _ (List.mem_of_getElem? (i := 19) rfl))) (mvT hZ (hw _ (List.mem_of_getElem? (i := 18) rfl))) (by decide) (backOf (W := 1) (rm_asN l Z a0' hw [] w_INT h85 n0 Z85 (FX_INT.ext EX85)) hZ (hw _ (List.mem_of_getElem? (i := 20) rfl)) (hw _ (List.mem_of_getElem? (i := 6) rfl)) (by decide) (by decide)) q86a q86c (g := (mkF m 34 #[.val (.int p0), .val (.int ((p0 &&& (2147483647 : Int32)) % (12 : Int32))), .val (.ref w_INT), .val (.int (0 : Int32)), .unset, .unset] [(.ref w_INT), (.ref s85)])) rfl (by rw [hml]; rfl) (Steps.refl _) (argsL := []) (rest := [(.ref s85)]) (lenOf own_pd2 rfl) rfl (by show 2 * 0 + _ ≤ _; exact Nat.le_of_eq rfl) (hb hby at_34) (fun _ _ => ⟨rfl, e85, (by decide : 2 + 0 ≤ _), (by decide : 8 + 0 ≤ _)⟩)
            dsimp only [Pt.U, Pt.locs, Pt.cells, Pt.slots] at X86 l86 y86 z86 st86 hQ86
            subst l86 y86 z86
            obtain ⟨rfl, N86q, e86⟩ := hQ86
            have N86 := Fr.app N57 N86q
            obtain ⟨cq87, kq87, q87a, q87b, q87c⟩ := isOf hZ e86 Es85
            obtain ⟨_, _, ⟨T87, L87, k87, n87⟩, -, X87, ⟨Lc87, hQ87, l87, y87, z87⟩, st87⟩ := X86.virtualBack hx (y := (⟨"java/lang/String", "equals", "(Ljava/lang/Object;)Z"⟩ : MethodName)) (z := (⟨"java/lang/String", "equals", "(Ljava/lang/Object;)Z"⟩ : MethodName)) hown (mvT hZ (hw _ (List.mem_of_getElem? (i := 23) rfl))) (mvT hZ (hw _ (List.mem_of_getElem? (i := 24) rfl))) (notFace_of_selects (args := #[]) (mvT hZ (hw _ (List.mem_of_getElem? (i := 26) rfl)))) (mvT hZ (hw _ (List.mem_of_getElem? (i := 26) rfl))) (mvT hZ (hw _ (List.mem_of_getElem? (i := 25) rfl))) (by decide) (backOf (W := 0) (rm_seqN l Z a0' hw [] s85 h85 n0 Z85) hZ (hw _ (List.mem_of_getElem? (i := 27) rfl)) (hw _ (List.mem_of_getElem? (i := 9) rfl)) (by decide) (by decide)) q87a q87c (g := (mkF m 37 #[.val (.int p0), .val (.int ((p0 &&& (2147483647 : Int32)) % (12 : Int32))), .val (.ref w_INT), .val (.int (0 : Int32)), .unset, .unset] [.null, (.ref s85)])) rfl (by rw [hml]; rfl) (Steps.refl _) (argsL := [.null]) (rest := []) (lenOf own_pd3 rfl) rfl (by show 2 * 0 + _ ≤ _; exact Nat.le_of_eq rfl) (hb hby at_37) (fun _ _ => ⟨rfl, e86, (by decide : 2 + 0 ≤ _), (by decide : 8 + 0 ≤ _)⟩)
            dsimp only [Pt.U, Pt.locs, Pt.cells, Pt.slots] at X87 l87 y87 z87 st87 hQ87
            subst l87 y87 z87
            obtain ⟨rfl, N87q, e87⟩ := hQ87
            have N87 := Fr.app N86 N87q
            obtain ⟨cq88, kq88, q88a, q88b, q88c⟩ := isOf hZ e87 (E_INT.ext EX85)
            obtain ⟨_, _, ⟨T88, L88, k88, n88⟩, -, X88, ⟨Lc88, hQ88, l88, y88, z88⟩, st88⟩ := X87.virtualBack hx (y := (⟨"com/example/starquarry/starquarry/model/ColumnType", "isText", "()Z"⟩ : MethodName)) (z := (⟨"com/example/starquarry/starquarry/model/ColumnType", "isText", "()Z"⟩ : MethodName)) hown (mvT hZ (hw _ (List.mem_of_getElem? (i := 28) rfl))) (mvT hZ (hw _ (List.mem_of_getElem? (i := 29) rfl))) (notFace_of_selects (args := #[]) (mvT hZ (hw _ (List.mem_of_getElem? (i := 31) rfl)))) (mvT hZ (hw _ (List.mem_of_getElem? (i := 31) rfl))) (mvT hZ (hw _ (List.mem_of_getElem? (i := 30) rfl))) (by decide) (backOf (W := 0) (rm_tx l Z a0' hw [] w_INT w_CHAR w_UNICODE_CHAR h85 n0 Z85 (S_CHAR.ext EX85) (S_UNICODE_CHAR.ext EX85)) hZ (hw _ (List.mem_of_getElem? (i := 32) rfl)) (hw _ (List.mem_of_getElem? (i := 6) rfl)) (by decide) (by decide)) q88a q88c (g := (mkF m 43 #[.val (.int p0), .val (.int ((p0 &&& (2147483647 : Int32)) % (12 : Int32))), .val (.ref w_INT), .val (.int (0 : Int32)), .val (.int (0 : Int32)), .unset] [(.ref w_INT)])) rfl (by rw [hml]; rfl) (Steps.refl _) (argsL := []) (rest := []) (lenOf own_pd4 rfl) rfl (by show 2 * 0 + _ ≤ _; exact Nat.le_of_eq rfl) (hb hby at_43) (fun _ _ => ⟨rfl, e87, (by decide : 2 + 0 ≤ _), (by decide : 8 + 0 ≤ _)⟩)
            dsimp only [Pt.U, Pt.locs, Pt.cells, Pt.slots] at X88 l88 y88 z88 st88 hQ88
            subst l88 y88 z88
            obtain ⟨rfl, N88q, e88⟩ := hQ88
            have N88 := Fr.app N87 N88q
            have q88 : (F_tx w_INT w_CHAR w_UNICODE_CHAR) = (0 : Int32) := by rw [F_tx, if_neg ne_INT_CHAR, if_neg ne_INT_UNICODE_CHAR]
            rw [q88] at st88
            obtain ⟨fs, hr, hrun, hended, hE⟩ := X88.leaveW hS85 (by rw [e88]; exact hk85) (v := some (.int (1 : Int32))) (fun h => by rw [Bd.returns] at h; cases h)
            refine ⟨_, _, pre58 _ ?_, hrun, hended, _, _, rfl, ?_, own_wmono hE (by decide) (by decide)⟩
            · show Steps p.tables e below (s₁.setTop (mkF m 9 #[.val (.int p0), .val (.int ((p0 &&& (2147483647 : Int32)) % (12 : Int32))), .unset, .unset, .unset, .unset] [(.int ((p0 &&& (2147483647 : Int32)) % (12 : Int32)))])) _
              refine st57 _ ?_
              show Steps p.tables e below (T57.setTop (mkF m 12 #[.val (.int p0), .val (.int ((p0 &&& (2147483647 : Int32)) % (12 : Int32))), .unset, .unset, .unset, .unset] [(.ref w_INT)])) _
              refine XS.astoreN X57.here hx rfl (hb hby at_12) rfl rfl (l' := #[.val (.int p0), .val (.int ((p0 &&& (2147483647 : Int32)) % (12 : Int32))), .val (.ref w_INT), .unset, .unset, .unset]) rfl ?_
              show Steps p.tables e below (T57.setTop (mkF m 13 #[.val (.int p0), .val (.int ((p0 &&& (2147483647 : Int32)) % (12 : Int32))), .val (.ref w_INT), .unset, .unset, .unset] [])) _
              refine XS.iloadN X57.here hx rfl (hb hby at_13) rfl ?_
              show Steps p.tables e below (T57.setTop (mkF m 14 #[.val (.int p0), .val (.int ((p0 &&& (2147483647 : Int32)) % (12 : Int32))), .val (.ref w_INT), .unset, .unset, .unset] [(.int ((p0 &&& (2147483647 : Int32)) % (12 : Int32)))])) _
              refine XS.bipush X57.here hx rfl (hb hby at_14) ?_
              show Steps p.tables e below (T57.setTop (mkF m 16 #[.val (.int p0), .val (.int ((p0 &&& (2147483647 : Int32)) % (12 : Int32))), .val (.ref w_INT), .unset, .unset, .unset] [(.int (8 : Int32)), (.int ((p0 &&& (2147483647 : Int32)) % (12 : Int32)))])) _
              refine XS.icmpNo X57.here hx rfl (hb hby at_16) rfl (feq (fun q => absurd (hs_83.symm.trans q) (by decide))).1 ?_
              show Steps p.tables e below (T57.setTop (mkF m 19 #[.val (.int p0), .val (.int ((p0 &&& (2147483647 : Int32)) % (12 : Int32))), .val (.ref w_INT), .unset, .unset, .unset] [])) _
              refine XS.iloadN X57.here hx rfl (hb hby at_19) rfl ?_
              show Steps p.tables e below (T57.setTop (mkF m 20 #[.val (.int p0), .val (.int ((p0 &&& (2147483647 : Int32)) % (12 : Int32))), .val (.ref w_INT), .unset, .unset, .unset] [(.int ((p0 &&& (2147483647 : Int32)) % (12 : Int32)))])) _
              refine XS.bipush X57.here hx rfl (hb hby at_20) ?_
              show Steps p.tables e below (T57.setTop (mkF m 22 #[.val (.int p0), .val (.int ((p0 &&& (2147483647 : Int32)) % (12 : Int32))), .val (.ref w_INT), .unset, .unset, .unset] [(.int (9 : Int32)), (.int ((p0 &&& (2147483647 : Int32)) % (12 : Int32)))])) _
              refine XS.icmpYes X57.here hx rfl (pc0 := 22) (pc' := 29) rfl (hb hby at_22) rfl (feq (fun q => absurd (hs_83.symm.trans q) (by decide))).2 (by decide) (by decide) ?_
              show Steps p.tables e below (T57.setTop (mkF m 29 #[.val (.int p0), .val (.int ((p0 &&& (2147483647 : Int32)) % (12 : Int32))), .val (.ref w_INT), .unset, .unset, .unset] [])) _
              refine XS.iconst X57.here hx rfl (hb hby at_29) ?_
              show Steps p.tables e below (T57.setTop (mkF m 30 #[.val (.int p0), .val (.int ((p0 &&& (2147483647 : Int32)) % (12 : Int32))), .val (.ref w_INT), .unset, .unset, .unset] [(.int (0 : Int32))])) _
              refine XS.istoreN X57.here hx rfl (hb hby at_30) rfl (l' := #[.val (.int p0), .val (.int ((p0 &&& (2147483647 : Int32)) % (12 : Int32))), .val (.ref w_INT), .val (.int (0 : Int32)), .unset, .unset]) rfl ?_
              show Steps p.tables e below (T57.setTop (mkF m 31 #[.val (.int p0), .val (.int ((p0 &&& (2147483647 : Int32)) % (12 : Int32))), .val (.ref w_INT), .val (.int (0 : Int32)), .unset, .unset] [])) _
              refine st85 _ ?_
              show Steps p.tables e below (T85.setTop (mkF m 33 #[.val (.int p0), .val (.int ((p0 &&& (2147483647 : Int32)) % (12 : Int32))), .val (.ref w_INT), .val (.int (0 : Int32)), .unset, .unset] [(.ref s85)])) _
              refine XS.aloadN X85.here hx rfl (hb hby at_33) rfl rfl ?_
              show Steps p.tables e below (T85.setTop (mkF m 34 #[.val (.int p0), .val (.int ((p0 &&& (2147483647 : Int32)) % (12 : Int32))), .val (.ref w_INT), .val (.int (0 : Int32)), .unset, .unset] [(.ref w_INT), (.ref s85)])) _
              refine st86.trans ?_
              show Steps p.tables e below (T86.setTop (mkF m 37 #[.val (.int p0), .val (.int ((p0 &&& (2147483647 : Int32)) % (12 : Int32))), .val (.ref w_INT), .val (.int (0 : Int32)), .unset, .unset] [.null, (.ref s85)])) _
              refine st87.trans ?_
              show Steps p.tables e below (T87.setTop (mkF m 40 #[.val (.int p0), .val (.int ((p0 &&& (2147483647 : Int32)) % (12 : Int32))), .val (.ref w_INT), .val (.int (0 : Int32)), .unset, .unset] [(.int (0 : Int32))])) _
              refine XS.istore X87.here hx rfl (hb hby at_40) rfl (l' := #[.val (.int p0), .val (.int ((p0 &&& (2147483647 : Int32)) % (12 : Int32))), .val (.ref w_INT), .val (.int (0 : Int32)), .val (.int (0 : Int32)), .unset]) rfl ?_
              show Steps p.tables e below (T87.setTop (mkF m 42 #[.val (.int p0), .val (.int ((p0 &&& (2147483647 : Int32)) % (12 : Int32))), .val (.ref w_INT), .val (.int (0 : Int32)), .val (.int (0 : Int32)), .unset] [])) _
              refine XS.aloadN X87.here hx rfl (hb hby at_42) rfl rfl ?_
              show Steps p.tables e below (T87.setTop (mkF m 43 #[.val (.int p0), .val (.int ((p0 &&& (2147483647 : Int32)) % (12 : Int32))), .val (.ref w_INT), .val (.int (0 : Int32)), .val (.int (0 : Int32)), .unset] [(.ref w_INT)])) _
              refine st88.trans ?_
              show Steps p.tables e below (T88.setTop (mkF m 46 #[.val (.int p0), .val (.int ((p0 &&& (2147483647 : Int32)) % (12 : Int32))), .val (.ref w_INT), .val (.int (0 : Int32)), .val (.int (0 : Int32)), .unset] [(.int (0 : Int32))])) _
              refine XS.istore X88.here hx rfl (hb hby at_46) rfl (l' := #[.val (.int p0), .val (.int ((p0 &&& (2147483647 : Int32)) % (12 : Int32))), .val (.ref w_INT), .val (.int (0 : Int32)), .val (.int (0 : Int32)), .val (.int (0 : Int32))]) rfl ?_
              show Steps p.tables e below (T88.setTop (mkF m 48 #[.val (.int p0), .val (.int ((p0 &&& (2147483647 : Int32)) % (12 : Int32))), .val (.ref w_INT), .val (.int (0 : Int32)), .val (.int (0 : Int32)), .val (.int (0 : Int32))] [])) _
              refine XS.iload X88.here hx rfl (hb hby at_48) rfl ?_
              show Steps p.tables e below (T88.setTop (mkF m 50 #[.val (.int p0), .val (.int ((p0 &&& (2147483647 : Int32)) % (12 : Int32))), .val (.ref w_INT), .val (.int (0 : Int32)), .val (.int (0 : Int32)), .val (.int (0 : Int32))] [(.int (0 : Int32))])) _
              refine XS.iloadN X88.here hx rfl (hb hby at_50) rfl ?_
              show Steps p.tables e below (T88.setTop (mkF m 51 #[.val (.int p0), .val (.int ((p0 &&& (2147483647 : Int32)) % (12 : Int32))), .val (.ref w_INT), .val (.int (0 : Int32)), .val (.int (0 : Int32)), .val (.int (0 : Int32))] [(.int (0 : Int32)), (.int (0 : Int32))])) _
              refine XS.icmpNo X88.here hx rfl (hb hby at_51) rfl (teq (by decide : (0 : Int32) = (0 : Int32))).2 ?_
              show Steps p.tables e below (T88.setTop (mkF m 54 #[.val (.int p0), .val (.int ((p0 &&& (2147483647 : Int32)) % (12 : Int32))), .val (.ref w_INT), .val (.int (0 : Int32)), .val (.int (0 : Int32)), .val (.int (0 : Int32))] [])) _
              refine XS.iload X88.here hx rfl (hb hby at_54) rfl ?_
              show Steps p.tables e below (T88.setTop (mkF m 56 #[.val (.int p0), .val (.int ((p0 &&& (2147483647 : Int32)) % (12 : Int32))), .val (.ref w_INT), .val (.int (0 : Int32)), .val (.int (0 : Int32)), .val (.int (0 : Int32))] [(.int (0 : Int32))])) _
              refine XS.iload X88.here hx rfl (hb hby at_56) rfl ?_
              show Steps p.tables e below (T88.setTop (mkF m 58 #[.val (.int p0), .val (.int ((p0 &&& (2147483647 : Int32)) % (12 : Int32))), .val (.ref w_INT), .val (.int (0 : Int32)), .val (.int (0 : Int32)), .val (.int (0 : Int32))] [(.int (0 : Int32)), (.int (0 : Int32))])) _
              refine XS.icmpNo X88.here hx rfl (hb hby at_58) rfl (teq (by decide : (0 : Int32) = (0 : Int32))).2 ?_
              show Steps p.tables e below (T88.setTop (mkF m 61 #[.val (.int p0), .val (.int ((p0 &&& (2147483647 : Int32)) % (12 : Int32))), .val (.ref w_INT), .val (.int (0 : Int32)), .val (.int (0 : Int32)), .val (.int (0 : Int32))] [])) _
              refine XS.iconst X88.here hx rfl (hb hby at_61) ?_
              show Steps p.tables e below (T88.setTop (mkF m 62 #[.val (.int p0), .val (.int ((p0 &&& (2147483647 : Int32)) % (12 : Int32))), .val (.ref w_INT), .val (.int (0 : Int32)), .val (.int (0 : Int32)), .val (.int (0 : Int32))] [(.int (1 : Int32))])) _
              refine XS.goto X88.here hx rfl (pc0 := 62) (pc' := 66) rfl (hb hby at_62) (by decide) (by decide) ?_
              show Steps p.tables e below (T88.setTop (mkF m 66 #[.val (.int p0), .val (.int ((p0 &&& (2147483647 : Int32)) % (12 : Int32))), .val (.ref w_INT), .val (.int (0 : Int32)), .val (.int (0 : Int32)), .val (.int (0 : Int32))] [(.int (1 : Int32))])) _
              exact retN X88 hx (t := .boolean) Bd.returns (by simp) (hb hby at_66) hr
            · show Q_law Z p0 w_BIT w_BOOLEAN w_UNSIGNED_BYTE w_SHORT w_INT w_LONG w_FLOAT w_DOUBLE w_CHAR w_UNICODE_CHAR w_POINT w_CIRCLE kc l_CHAR v_CHAR cl_CHAR l_POINT v_POINT cl_POINT l_CIRCLE v_CIRCLE cl_CIRCLE h0 n0 _ T88.heap _
              refine ⟨?_, N88, trivial⟩
              rw [F_law, if_neg hs_59, if_neg hs_65, if_neg hs_71, if_neg hs_77, if_pos hs_83]
          · by_cases hs_89 : ((p0 &&& (2147483647 : Int32)) % (12 : Int32)) = (5 : Int32)
            · have q57 : (F_pick ((p0 &&& (2147483647 : Int32)) % (12 : Int32)) w_BIT w_BOOLEAN w_UNSIGNED_BYTE w_SHORT w_INT w_LONG w_FLOAT w_DOUBLE w_CHAR w_UNICODE_CHAR w_POINT w_CIRCLE) = w_LONG := by rw [F_pick, if_neg hs_59, if_neg hs_65, if_neg hs_71, if_neg hs_77, if_neg hs_83, if_pos hs_89]
              rw [q57] at st57
              have wS90 : ∀ a ∈ Bundle.stringAtoms, a.before a0' Z = true := own_strAtoms (hw _ (List.mem_of_getElem? (i := 9) rfl)) (hw _ (List.mem_of_getElem? (i := 10) rfl)) (hw _ (List.mem_of_getElem? (i := 11) rfl)) (hw _ (List.mem_of_getElem? (i := 12) rfl)) (hw _ (List.mem_of_getElem? (i := 13) rfl)) (hw _ (List.mem_of_getElem? (i := 14) rfl)) (hw _ (List.mem_of_getElem? (i := 15) rfl))
              obtain ⟨s91, T91, h91, k91, bv91, kv91, X91, e91, E91, hS91, hk91, hZ, hown, Es91, Cs91, Vs91, As91, -, -, -, st91⟩ := ldcSV (s := s) (vm0 := s.vm) (Ts := []) X57 hx hZ hown (hw _ (List.mem_of_getElem? (i := 8) rfl)) wS90 e57 (k0 := 0) ((State.WarmedH.refl s).since 0) (Nat.zero_le _) (fun y hy => Nat.le_trans (by rw [hh]; exact hn0) (N57 y hy)) (fun b cl q => by rw [hUZ]; exact q) (show IB Z s.vm [] by rw [hUZ]; exact IB.start) (by simp) HCH hcw (vs := [.int 42]) (z := 1) ⟨by decide, by decide⟩ (by decide) rfl (g := (mkF m 31 #[.val (.int p0), .val (.int ((p0 &&& (2147483647 : Int32)) % (12 : Int32))), .val (.ref w_LONG), .val (.int (0 : Int32)), .unset, .unset] [])) rfl (hb hby at_31) (n := 4) (by decide) (by decide) (by decide) (by decide)
              have EX91 : Ext h0 h91 := E91
              have Z91 : n0 ≤ h91.size := Nat.le_trans Z0 EX91.1
              obtain ⟨cq92, kq92, q92a, q92b, q92c⟩ := isOf hZ e91 (E_LONG.ext EX91)
              obtain ⟨_, _, ⟨T92, L92, k92, n92⟩, -, X92, ⟨Lc92, hQ92, l92, y92, z92⟩, st92⟩ := X91.virtualBack hx (y := (⟨"com/example/starquarry/starquarry/model/ColumnType", "arraysize", "()Ljava/lang/String;"⟩ : MethodName)) (z := (⟨"com/example/starquarry/starquarry/model/ColumnType", "arraysize", "()Ljava/lang/String;"⟩ : MethodName)) hown (mvT hZ (hw _ (List.mem_of_getElem? (i := 16) rfl))) (mvT hZ (hw _ (List.mem_of_getElem? (i := 17) rfl))) (notFace_of_selects (args := #[]) (mvT hZ (hw _ (List.mem_of_getElem? (i := 19) rfl)))) (mvT hZ (hw _ (List.mem_of_getElem? (i := 19) rfl))) (mvT hZ (hw _ (List.mem_of_getElem? (i := 18) rfl))) (by decide) (backOf (W := 1) (rm_asN l Z a0' hw [] w_LONG h91 n0 Z91 (FX_LONG.ext EX91)) hZ (hw _ (List.mem_of_getElem? (i := 20) rfl)) (hw _ (List.mem_of_getElem? (i := 6) rfl)) (by decide) (by decide)) q92a q92c (g := (mkF m 34 #[.val (.int p0), .val (.int ((p0 &&& (2147483647 : Int32)) % (12 : Int32))), .val (.ref w_LONG), .val (.int (0 : Int32)), .unset, .unset] [(.ref w_LONG), (.ref s91)])) rfl (by rw [hml]; rfl) (Steps.refl _) (argsL := []) (rest := [(.ref s91)]) (lenOf own_pd2 rfl) rfl (by show 2 * 0 + _ ≤ _; exact Nat.le_of_eq rfl) (hb hby at_34) (fun _ _ => ⟨rfl, e91, (by decide : 2 + 0 ≤ _), (by decide : 8 + 0 ≤ _)⟩)
              dsimp only [Pt.U, Pt.locs, Pt.cells, Pt.slots] at X92 l92 y92 z92 st92 hQ92
              subst l92 y92 z92
              obtain ⟨rfl, N92q, e92⟩ := hQ92
              have N92 := Fr.app N57 N92q
              obtain ⟨cq93, kq93, q93a, q93b, q93c⟩ := isOf hZ e92 Es91
              obtain ⟨_, _, ⟨T93, L93, k93, n93⟩, -, X93, ⟨Lc93, hQ93, l93, y93, z93⟩, st93⟩ := X92.virtualBack hx (y := (⟨"java/lang/String", "equals", "(Ljava/lang/Object;)Z"⟩ : MethodName)) (z := (⟨"java/lang/String", "equals", "(Ljava/lang/Object;)Z"⟩ : MethodName)) hown (mvT hZ (hw _ (List.mem_of_getElem? (i := 23) rfl))) (mvT hZ (hw _ (List.mem_of_getElem? (i := 24) rfl))) (notFace_of_selects (args := #[]) (mvT hZ (hw _ (List.mem_of_getElem? (i := 26) rfl)))) (mvT hZ (hw _ (List.mem_of_getElem? (i := 26) rfl))) (mvT hZ (hw _ (List.mem_of_getElem? (i := 25) rfl))) (by decide) (backOf (W := 0) (rm_seqN l Z a0' hw [] s91 h91 n0 Z91) hZ (hw _ (List.mem_of_getElem? (i := 27) rfl)) (hw _ (List.mem_of_getElem? (i := 9) rfl)) (by decide) (by decide)) q93a q93c (g := (mkF m 37 #[.val (.int p0), .val (.int ((p0 &&& (2147483647 : Int32)) % (12 : Int32))), .val (.ref w_LONG), .val (.int (0 : Int32)), .unset, .unset] [.null, (.ref s91)])) rfl (by rw [hml]; rfl) (Steps.refl _) (argsL := [.null]) (rest := []) (lenOf own_pd3 rfl) rfl (by show 2 * 0 + _ ≤ _; exact Nat.le_of_eq rfl) (hb hby at_37) (fun _ _ => ⟨rfl, e92, (by decide : 2 + 0 ≤ _), (by decide : 8 + 0 ≤ _)⟩)
              dsimp only [Pt.U, Pt.locs, Pt.cells, Pt.slots] at X93 l93 y93 z93 st93 hQ93
              subst l93 y93 z93
              obtain ⟨rfl, N93q, e93⟩ := hQ93
              have N93 := Fr.app N92 N93q
              obtain ⟨cq94, kq94, q94a, q94b, q94c⟩ := isOf hZ e93 (E_LONG.ext EX91)
              obtain ⟨_, _, ⟨T94, L94, k94, n94⟩, -, X94, ⟨Lc94, hQ94, l94, y94, z94⟩, st94⟩ := X93.virtualBack hx (y := (⟨"com/example/starquarry/starquarry/model/ColumnType", "isText", "()Z"⟩ : MethodName)) (z := (⟨"com/example/starquarry/starquarry/model/ColumnType", "isText", "()Z"⟩ : MethodName)) hown (mvT hZ (hw _ (List.mem_of_getElem? (i := 28) rfl))) (mvT hZ (hw _ (List.mem_of_getElem? (i := 29) rfl))) (notFace_of_selects (args := #[]) (mvT hZ (hw _ (List.mem_of_getElem? (i := 31) rfl)))) (mvT hZ (hw _ (List.mem_of_getElem? (i := 31) rfl))) (mvT hZ (hw _ (List.mem_of_getElem? (i := 30) rfl))) (by decide) (backOf (W := 0) (rm_tx l Z a0' hw [] w_LONG w_CHAR w_UNICODE_CHAR h91 n0 Z91 (S_CHAR.ext EX91) (S_UNICODE_CHAR.ext EX91)) hZ (hw _ (List.mem_of_getElem? (i := 32) rfl)) (hw _ (List.mem_of_getElem? (i := 6) rfl)) (by decide) (by decide)) q94a q94c (g := (mkF m 43 #[.val (.int p0), .val (.int ((p0 &&& (2147483647 : Int32)) % (12 : Int32))), .val (.ref w_LONG), .val (.int (0 : Int32)), .val (.int (0 : Int32)), .unset] [(.ref w_LONG)])) rfl (by rw [hml]; rfl) (Steps.refl _) (argsL := []) (rest := []) (lenOf own_pd4 rfl) rfl (by show 2 * 0 + _ ≤ _; exact Nat.le_of_eq rfl) (hb hby at_43) (fun _ _ => ⟨rfl, e93, (by decide : 2 + 0 ≤ _), (by decide : 8 + 0 ≤ _)⟩)
              dsimp only [Pt.U, Pt.locs, Pt.cells, Pt.slots] at X94 l94 y94 z94 st94 hQ94
              subst l94 y94 z94
              obtain ⟨rfl, N94q, e94⟩ := hQ94
              have N94 := Fr.app N93 N94q
              have q94 : (F_tx w_LONG w_CHAR w_UNICODE_CHAR) = (0 : Int32) := by rw [F_tx, if_neg ne_LONG_CHAR, if_neg ne_LONG_UNICODE_CHAR]
              rw [q94] at st94
              obtain ⟨fs, hr, hrun, hended, hE⟩ := X94.leaveW hS91 (by rw [e94]; exact hk91) (v := some (.int (1 : Int32))) (fun h => by rw [Bd.returns] at h; cases h)
              refine ⟨_, _, pre58 _ ?_, hrun, hended, _, _, rfl, ?_, own_wmono hE (by decide) (by decide)⟩
              · show Steps p.tables e below (s₁.setTop (mkF m 9 #[.val (.int p0), .val (.int ((p0 &&& (2147483647 : Int32)) % (12 : Int32))), .unset, .unset, .unset, .unset] [(.int ((p0 &&& (2147483647 : Int32)) % (12 : Int32)))])) _
                refine st57 _ ?_
                show Steps p.tables e below (T57.setTop (mkF m 12 #[.val (.int p0), .val (.int ((p0 &&& (2147483647 : Int32)) % (12 : Int32))), .unset, .unset, .unset, .unset] [(.ref w_LONG)])) _
                refine XS.astoreN X57.here hx rfl (hb hby at_12) rfl rfl (l' := #[.val (.int p0), .val (.int ((p0 &&& (2147483647 : Int32)) % (12 : Int32))), .val (.ref w_LONG), .unset, .unset, .unset]) rfl ?_
                show Steps p.tables e below (T57.setTop (mkF m 13 #[.val (.int p0), .val (.int ((p0 &&& (2147483647 : Int32)) % (12 : Int32))), .val (.ref w_LONG), .unset, .unset, .unset] [])) _
                refine XS.iloadN X57.here hx rfl (hb hby at_13) rfl ?_
                show Steps p.tables e below (T57.setTop (mkF m 14 #[.val (.int p0), .val (.int ((p0 &&& (2147483647 : Int32)) % (12 : Int32))), .val (.ref w_LONG), .unset, .unset, .unset] [(.int ((p0 &&& (2147483647 : Int32)) % (12 : Int32)))])) _
                refine XS.bipush X57.here hx rfl (hb hby at_14) ?_
                show Steps p.tables e below (T57.setTop (mkF m 16 #[.val (.int p0), .val (.int ((p0 &&& (2147483647 : Int32)) % (12 : Int32))), .val (.ref w_LONG), .unset, .unset, .unset] [(.int (8 : Int32)), (.int ((p0 &&& (2147483647 : Int32)) % (12 : Int32)))])) _
                refine XS.icmpNo X57.here hx rfl (hb hby at_16) rfl (feq (fun q => absurd (hs_89.symm.trans q) (by decide))).1 ?_
                show Steps p.tables e below (T57.setTop (mkF m 19 #[.val (.int p0), .val (.int ((p0 &&& (2147483647 : Int32)) % (12 : Int32))), .val (.ref w_LONG), .unset, .unset, .unset] [])) _
                refine XS.iloadN X57.here hx rfl (hb hby at_19) rfl ?_
                show Steps p.tables e below (T57.setTop (mkF m 20 #[.val (.int p0), .val (.int ((p0 &&& (2147483647 : Int32)) % (12 : Int32))), .val (.ref w_LONG), .unset, .unset, .unset] [(.int ((p0 &&& (2147483647 : Int32)) % (12 : Int32)))])) _
                refine XS.bipush X57.here hx rfl (hb hby at_20) ?_
                show Steps p.tables e below (T57.setTop (mkF m 22 #[.val (.int p0), .val (.int ((p0 &&& (2147483647 : Int32)) % (12 : Int32))), .val (.ref w_LONG), .unset, .unset, .unset] [(.int (9 : Int32)), (.int ((p0 &&& (2147483647 : Int32)) % (12 : Int32)))])) _
                refine XS.icmpYes X57.here hx rfl (pc0 := 22) (pc' := 29) rfl (hb hby at_22) rfl (feq (fun q => absurd (hs_89.symm.trans q) (by decide))).2 (by decide) (by decide) ?_
                show Steps p.tables e below (T57.setTop (mkF m 29 #[.val (.int p0), .val (.int ((p0 &&& (2147483647 : Int32)) % (12 : Int32))), .val (.ref w_LONG), .unset, .unset, .unset] [])) _
                refine XS.iconst X57.here hx rfl (hb hby at_29) ?_
                show Steps p.tables e below (T57.setTop (mkF m 30 #[.val (.int p0), .val (.int ((p0 &&& (2147483647 : Int32)) % (12 : Int32))), .val (.ref w_LONG), .unset, .unset, .unset] [(.int (0 : Int32))])) _
                refine XS.istoreN X57.here hx rfl (hb hby at_30) rfl (l' := #[.val (.int p0), .val (.int ((p0 &&& (2147483647 : Int32)) % (12 : Int32))), .val (.ref w_LONG), .val (.int (0 : Int32)), .unset, .unset]) rfl ?_
                show Steps p.tables e below (T57.setTop (mkF m 31 #[.val (.int p0), .val (.int ((p0 &&& (2147483647 : Int32)) % (12 : Int32))), .val (.ref w_LONG), .val (.int (0 : Int32)), .unset, .unset] [])) _
                refine st91 _ ?_
                show Steps p.tables e below (T91.setTop (mkF m 33 #[.val (.int p0), .val (.int ((p0 &&& (2147483647 : Int32)) % (12 : Int32))), .val (.ref w_LONG), .val (.int (0 : Int32)), .unset, .unset] [(.ref s91)])) _
                refine XS.aloadN X91.here hx rfl (hb hby at_33) rfl rfl ?_
                show Steps p.tables e below (T91.setTop (mkF m 34 #[.val (.int p0), .val (.int ((p0 &&& (2147483647 : Int32)) % (12 : Int32))), .val (.ref w_LONG), .val (.int (0 : Int32)), .unset, .unset] [(.ref w_LONG), (.ref s91)])) _
                refine st92.trans ?_
                show Steps p.tables e below (T92.setTop (mkF m 37 #[.val (.int p0), .val (.int ((p0 &&& (2147483647 : Int32)) % (12 : Int32))), .val (.ref w_LONG), .val (.int (0 : Int32)), .unset, .unset] [.null, (.ref s91)])) _
                refine st93.trans ?_
                show Steps p.tables e below (T93.setTop (mkF m 40 #[.val (.int p0), .val (.int ((p0 &&& (2147483647 : Int32)) % (12 : Int32))), .val (.ref w_LONG), .val (.int (0 : Int32)), .unset, .unset] [(.int (0 : Int32))])) _
                refine XS.istore X93.here hx rfl (hb hby at_40) rfl (l' := #[.val (.int p0), .val (.int ((p0 &&& (2147483647 : Int32)) % (12 : Int32))), .val (.ref w_LONG), .val (.int (0 : Int32)), .val (.int (0 : Int32)), .unset]) rfl ?_
                show Steps p.tables e below (T93.setTop (mkF m 42 #[.val (.int p0), .val (.int ((p0 &&& (2147483647 : Int32)) % (12 : Int32))), .val (.ref w_LONG), .val (.int (0 : Int32)), .val (.int (0 : Int32)), .unset] [])) _
                refine XS.aloadN X93.here hx rfl (hb hby at_42) rfl rfl ?_
                show Steps p.tables e below (T93.setTop (mkF m 43 #[.val (.int p0), .val (.int ((p0 &&& (2147483647 : Int32)) % (12 : Int32))), .val (.ref w_LONG), .val (.int (0 : Int32)), .val (.int (0 : Int32)), .unset] [(.ref w_LONG)])) _
                refine st94.trans ?_
                show Steps p.tables e below (T94.setTop (mkF m 46 #[.val (.int p0), .val (.int ((p0 &&& (2147483647 : Int32)) % (12 : Int32))), .val (.ref w_LONG), .val (.int (0 : Int32)), .val (.int (0 : Int32)), .unset] [(.int (0 : Int32))])) _
                refine XS.istore X94.here hx rfl (hb hby at_46) rfl (l' := #[.val (.int p0), .val (.int ((p0 &&& (2147483647 : Int32)) % (12 : Int32))), .val (.ref w_LONG), .val (.int (0 : Int32)), .val (.int (0 : Int32)), .val (.int (0 : Int32))]) rfl ?_
                show Steps p.tables e below (T94.setTop (mkF m 48 #[.val (.int p0), .val (.int ((p0 &&& (2147483647 : Int32)) % (12 : Int32))), .val (.ref w_LONG), .val (.int (0 : Int32)), .val (.int (0 : Int32)), .val (.int (0 : Int32))] [])) _
                refine XS.iload X94.here hx rfl (hb hby at_48) rfl ?_
                show Steps p.tables e below (T94.setTop (mkF m 50 #[.val (.int p0), .val (.int ((p0 &&& (2147483647 : Int32)) % (12 : Int32))), .val (.ref w_LONG), .val (.int (0 : Int32)), .val (.int (0 : Int32)), .val (.int (0 : Int32))] [(.int (0 : Int32))])) _
                refine XS.iloadN X94.here hx rfl (hb hby at_50) rfl ?_
                show Steps p.tables e below (T94.setTop (mkF m 51 #[.val (.int p0), .val (.int ((p0 &&& (2147483647 : Int32)) % (12 : Int32))), .val (.ref w_LONG), .val (.int (0 : Int32)), .val (.int (0 : Int32)), .val (.int (0 : Int32))] [(.int (0 : Int32)), (.int (0 : Int32))])) _
                refine XS.icmpNo X94.here hx rfl (hb hby at_51) rfl (teq (by decide : (0 : Int32) = (0 : Int32))).2 ?_
                show Steps p.tables e below (T94.setTop (mkF m 54 #[.val (.int p0), .val (.int ((p0 &&& (2147483647 : Int32)) % (12 : Int32))), .val (.ref w_LONG), .val (.int (0 : Int32)), .val (.int (0 : Int32)), .val (.int (0 : Int32))] [])) _
                refine XS.iload X94.here hx rfl (hb hby at_54) rfl ?_
                show Steps p.tables e below (T94.setTop (mkF m 56 #[.val (.int p0), .val (.int ((p0 &&& (2147483647 : Int32)) % (12 : Int32))), .val (.ref w_LONG), .val (.int (0 : Int32)), .val (.int (0 : Int32)), .val (.int (0 : Int32))] [(.int (0 : Int32))])) _
                refine XS.iload X94.here hx rfl (hb hby at_56) rfl ?_
                show Steps p.tables e below (T94.setTop (mkF m 58 #[.val (.int p0), .val (.int ((p0 &&& (2147483647 : Int32)) % (12 : Int32))), .val (.ref w_LONG), .val (.int (0 : Int32)), .val (.int (0 : Int32)), .val (.int (0 : Int32))] [(.int (0 : Int32)), (.int (0 : Int32))])) _
                refine XS.icmpNo X94.here hx rfl (hb hby at_58) rfl (teq (by decide : (0 : Int32) = (0 : Int32))).2 ?_
                show Steps p.tables e below (T94.setTop (mkF m 61 #[.val (.int p0), .val (.int ((p0 &&& (2147483647 : Int32)) % (12 : Int32))), .val (.ref w_LONG), .val (.int (0 : Int32)), .val (.int (0 : Int32)), .val (.int (0 : Int32))] [])) _
                refine XS.iconst X94.here hx rfl (hb hby at_61) ?_
                show Steps p.tables e below (T94.setTop (mkF m 62 #[.val (.int p0), .val (.int ((p0 &&& (2147483647 : Int32)) % (12 : Int32))), .val (.ref w_LONG), .val (.int (0 : Int32)), .val (.int (0 : Int32)), .val (.int (0 : Int32))] [(.int (1 : Int32))])) _
                refine XS.goto X94.here hx rfl (pc0 := 62) (pc' := 66) rfl (hb hby at_62) (by decide) (by decide) ?_
                show Steps p.tables e below (T94.setTop (mkF m 66 #[.val (.int p0), .val (.int ((p0 &&& (2147483647 : Int32)) % (12 : Int32))), .val (.ref w_LONG), .val (.int (0 : Int32)), .val (.int (0 : Int32)), .val (.int (0 : Int32))] [(.int (1 : Int32))])) _
                exact retN X94 hx (t := .boolean) Bd.returns (by simp) (hb hby at_66) hr
              · show Q_law Z p0 w_BIT w_BOOLEAN w_UNSIGNED_BYTE w_SHORT w_INT w_LONG w_FLOAT w_DOUBLE w_CHAR w_UNICODE_CHAR w_POINT w_CIRCLE kc l_CHAR v_CHAR cl_CHAR l_POINT v_POINT cl_POINT l_CIRCLE v_CIRCLE cl_CIRCLE h0 n0 _ T94.heap _
                refine ⟨?_, N94, trivial⟩
                rw [F_law, if_neg hs_59, if_neg hs_65, if_neg hs_71, if_neg hs_77, if_neg hs_83, if_pos hs_89]
            · by_cases hs_95 : ((p0 &&& (2147483647 : Int32)) % (12 : Int32)) = (6 : Int32)
              · have q57 : (F_pick ((p0 &&& (2147483647 : Int32)) % (12 : Int32)) w_BIT w_BOOLEAN w_UNSIGNED_BYTE w_SHORT w_INT w_LONG w_FLOAT w_DOUBLE w_CHAR w_UNICODE_CHAR w_POINT w_CIRCLE) = w_FLOAT := by rw [F_pick, if_neg hs_59, if_neg hs_65, if_neg hs_71, if_neg hs_77, if_neg hs_83, if_neg hs_89, if_pos hs_95]
                rw [q57] at st57
                have wS96 : ∀ a ∈ Bundle.stringAtoms, a.before a0' Z = true := own_strAtoms (hw _ (List.mem_of_getElem? (i := 9) rfl)) (hw _ (List.mem_of_getElem? (i := 10) rfl)) (hw _ (List.mem_of_getElem? (i := 11) rfl)) (hw _ (List.mem_of_getElem? (i := 12) rfl)) (hw _ (List.mem_of_getElem? (i := 13) rfl)) (hw _ (List.mem_of_getElem? (i := 14) rfl)) (hw _ (List.mem_of_getElem? (i := 15) rfl))
                obtain ⟨s97, T97, h97, k97, bv97, kv97, X97, e97, E97, hS97, hk97, hZ, hown, Es97, Cs97, Vs97, As97, -, -, -, st97⟩ := ldcSV (s := s) (vm0 := s.vm) (Ts := []) X57 hx hZ hown (hw _ (List.mem_of_getElem? (i := 8) rfl)) wS96 e57 (k0 := 0) ((State.WarmedH.refl s).since 0) (Nat.zero_le _) (fun y hy => Nat.le_trans (by rw [hh]; exact hn0) (N57 y hy)) (fun b cl q => by rw [hUZ]; exact q) (show IB Z s.vm [] by rw [hUZ]; exact IB.start) (by simp) HCH hcw (vs := [.int 42]) (z := 1) ⟨by decide, by decide⟩ (by decide) rfl (g := (mkF m 31 #[.val (.int p0), .val (.int ((p0 &&& (2147483647 : Int32)) % (12 : Int32))), .val (.ref w_FLOAT), .val (.int (0 : Int32)), .unset, .unset] [])) rfl (hb hby at_31) (n := 4) (by decide) (by decide) (by decide) (by decide)
                have EX97 : Ext h0 h97 := E97
                have Z97 : n0 ≤ h97.size := Nat.le_trans Z0 EX97.1
                obtain ⟨cq98, kq98, q98a, q98b, q98c⟩ := isOf hZ e97 (E_FLOAT.ext EX97)
                obtain ⟨_, _, ⟨T98, L98, k98, n98⟩, -, X98, ⟨Lc98, hQ98, l98, y98, z98⟩, st98⟩ := X97.virtualBack hx (y := (⟨"com/example/starquarry/starquarry/model/ColumnType", "arraysize", "()Ljava/lang/String;"⟩ : MethodName)) (z := (⟨"com/example/starquarry/starquarry/model/ColumnType", "arraysize", "()Ljava/lang/String;"⟩ : MethodName)) hown (mvT hZ (hw _ (List.mem_of_getElem? (i := 16) rfl))) (mvT hZ (hw _ (List.mem_of_getElem? (i := 17) rfl))) (notFace_of_selects (args := #[]) (mvT hZ (hw _ (List.mem_of_getElem? (i := 19) rfl)))) (mvT hZ (hw _ (List.mem_of_getElem? (i := 19) rfl))) (mvT hZ (hw _ (List.mem_of_getElem? (i := 18) rfl))) (by decide) (backOf (W := 1) (rm_asN l Z a0' hw [] w_FLOAT h97 n0 Z97 (FX_FLOAT.ext EX97)) hZ (hw _ (List.mem_of_getElem? (i := 20) rfl)) (hw _ (List.mem_of_getElem? (i := 6) rfl)) (by decide) (by decide)) q98a q98c (g := (mkF m 34 #[.val (.int p0), .val (.int ((p0 &&& (2147483647 : Int32)) % (12 : Int32))), .val (.ref w_FLOAT), .val (.int (0 : Int32)), .unset, .unset] [(.ref w_FLOAT), (.ref s97)])) rfl (by rw [hml]; rfl) (Steps.refl _) (argsL := []) (rest := [(.ref s97)]) (lenOf own_pd2 rfl) rfl (by show 2 * 0 + _ ≤ _; exact Nat.le_of_eq rfl) (hb hby at_34) (fun _ _ => ⟨rfl, e97, (by decide : 2 + 0 ≤ _), (by decide : 8 + 0 ≤ _)⟩)
                dsimp only [Pt.U, Pt.locs, Pt.cells, Pt.slots] at X98 l98 y98 z98 st98 hQ98
                subst l98 y98 z98
                obtain ⟨rfl, N98q, e98⟩ := hQ98
                have N98 := Fr.app N57 N98q
                obtain ⟨cq99, kq99, q99a, q99b, q99c⟩ := isOf hZ e98 Es97
                obtain ⟨_, _, ⟨T99, L99, k99, n99⟩, -, X99, ⟨Lc99, hQ99, l99, y99, z99⟩, st99⟩ := X98.virtualBack hx (y := (⟨"java/lang/String", "equals", "(Ljava/lang/Object;)Z"⟩ : MethodName)) (z := (⟨"java/lang/String", "equals", "(Ljava/lang/Object;)Z"⟩ : MethodName)) hown (mvT hZ (hw _ (List.mem_of_getElem? (i := 23) rfl))) (mvT hZ (hw _ (List.mem_of_getElem? (i := 24) rfl))) (notFace_of_selects (args := #[]) (mvT hZ (hw _ (List.mem_of_getElem? (i := 26) rfl)))) (mvT hZ (hw _ (List.mem_of_getElem? (i := 26) rfl))) (mvT hZ (hw _ (List.mem_of_getElem? (i := 25) rfl))) (by decide) (backOf (W := 0) (rm_seqN l Z a0' hw [] s97 h97 n0 Z97) hZ (hw _ (List.mem_of_getElem? (i := 27) rfl)) (hw _ (List.mem_of_getElem? (i := 9) rfl)) (by decide) (by decide)) q99a q99c (g := (mkF m 37 #[.val (.int p0), .val (.int ((p0 &&& (2147483647 : Int32)) % (12 : Int32))), .val (.ref w_FLOAT), .val (.int (0 : Int32)), .unset, .unset] [.null, (.ref s97)])) rfl (by rw [hml]; rfl) (Steps.refl _) (argsL := [.null]) (rest := []) (lenOf own_pd3 rfl) rfl (by show 2 * 0 + _ ≤ _; exact Nat.le_of_eq rfl) (hb hby at_37) (fun _ _ => ⟨rfl, e98, (by decide : 2 + 0 ≤ _), (by decide : 8 + 0 ≤ _)⟩)
                dsimp only [Pt.U, Pt.locs, Pt.cells, Pt.slots] at X99 l99 y99 z99 st99 hQ99
                subst l99 y99 z99
                obtain ⟨rfl, N99q, e99⟩ := hQ99
                have N99 := Fr.app N98 N99q
                obtain ⟨cq100, kq100, q100a, q100b, q100c⟩ := isOf hZ e99 (E_FLOAT.ext EX97)
                obtain ⟨_, _, ⟨T100, L100, k100, n100⟩, -, X100, ⟨Lc100, hQ100, l100, y100, z100⟩, st100⟩ := X99.virtualBack hx (y := (⟨"com/example/starquarry/starquarry/model/ColumnType", "isText", "()Z"⟩ : MethodName)) (z := (⟨"com/example/starquarry/starquarry/model/ColumnType", "isText", "()Z"⟩ : MethodName)) hown (mvT hZ (hw _ (List.mem_of_getElem? (i := 28) rfl))) (mvT hZ (hw _ (List.mem_of_getElem? (i := 29) rfl))) (notFace_of_selects (args := #[]) (mvT hZ (hw _ (List.mem_of_getElem? (i := 31) rfl)))) (mvT hZ (hw _ (List.mem_of_getElem? (i := 31) rfl))) (mvT hZ (hw _ (List.mem_of_getElem? (i := 30) rfl))) (by decide) (backOf (W := 0) (rm_tx l Z a0' hw [] w_FLOAT w_CHAR w_UNICODE_CHAR h97 n0 Z97 (S_CHAR.ext EX97) (S_UNICODE_CHAR.ext EX97)) hZ (hw _ (List.mem_of_getElem? (i := 32) rfl)) (hw _ (List.mem_of_getElem? (i := 6) rfl)) (by decide) (by decide)) q100a q100c (g := (mkF m 43 #[.val (.int p0), .val (.int ((p0 &&& (2147483647 : Int32)) % (12 : Int32))), .val (.ref w_FLOAT), .val (.int (0 : Int32)), .val (.int (0 : Int32)), .unset] [(.ref w_FLOAT)])) rfl (by rw [hml]; rfl) (Steps.refl _) (argsL := []) (rest := []) (lenOf own_pd4 rfl) rfl (by show 2 * 0 + _ ≤ _; exact Nat.le_of_eq rfl) (hb hby at_43) (fun _ _ => ⟨rfl, e99, (by decide : 2 + 0 ≤ _), (by decide : 8 + 0 ≤ _)⟩)
                dsimp only [Pt.U, Pt.locs, Pt.cells, Pt.slots] at X100 l100 y100 z100 st100 hQ100
                subst l100 y100 z100
                obtain ⟨rfl, N100q, e100⟩ := hQ100
                have N100 := Fr.app N99 N100q
                have q100 : (F_tx w_FLOAT w_CHAR w_UNICODE_CHAR) = (0 : Int32) := by rw [F_tx, if_neg ne_FLOAT_CHAR, if_neg ne_FLOAT_UNICODE_CHAR]
                rw [q100] at st100
                obtain ⟨fs, hr, hrun, hended, hE⟩ := X100.leaveW hS97 (by rw [e100]; exact hk97) (v := some (.int (1 : Int32))) (fun h => by rw [Bd.returns] at h; cases h)
                refine ⟨_, _, pre58 _ ?_, hrun, hended, _, _, rfl, ?_, own_wmono hE (by decide) (by decide)⟩
                · show Steps p.tables e below (s₁.setTop (mkF m 9 #[.val (.int p0), .val (.int ((p0 &&& (2147483647 : Int32)) % (12 : Int32))), .unset, .unset, .unset, .unset] [(.int ((p0 &&& (2147483647 : Int32)) % (12 : Int32)))])) _
                  refine st57 _ ?_
                  show Steps p.tables e below (T57.setTop (mkF m 12 #[.val (.int p0), .val (.int ((p0 &&& (2147483647 : Int32)) % (12 : Int32))), .unset, .unset, .unset, .unset] [(.ref w_FLOAT)])) _
                  refine XS.astoreN X57.here hx rfl (hb hby at_12) rfl rfl (l' := #[.val (.int p0), .val (.int ((p0 &&& (2147483647 : Int32)) % (12 : Int32))), .val (.ref w_FLOAT), .unset, .unset, .unset]) rfl ?_
                  show Steps p.tables e below (T57.setTop (mkF m 13 #[.val (.int p0), .val (.int ((p0 &&& (2147483647 : Int32)) % (12 : Int32))), .val (.ref w_FLOAT), .unset, .unset, .unset] [])) _
                  refine XS.iloadN X57.here hx rfl (hb hby at_13) rfl ?_
                  show Steps p.tables e below (T57.setTop (mkF m 14 #[.val (.int p0), .val (.int ((p0 &&& (2147483647 : Int32)) % (12 : Int32))), .val (.ref w_FLOAT), .unset, .unset, .unset] [(.int ((p0 &&& (2147483647 : Int32)) % (12 : Int32)))])) _
                  refine XS.bipush X57.here hx rfl (hb hby at_14) ?_
                  show Steps p.tables e below (T57.setTop (mkF m 16 #[.val (.int p0), .val (.int ((p0 &&& (2147483647 : Int32)) % (12 : Int32))), .val (.ref w_FLOAT), .unset, .unset, .unset] [(.int (8 : Int32)), (.int ((p0 &&& (2147483647 : Int32)) % (12 : Int32)))])) _
                  refine XS.icmpNo X57.here hx rfl (hb hby at_16) rfl (feq (fun q => absurd (hs_95.symm.trans q) (by decide))).1 ?_
                  show Steps p.tables e below (T57.setTop (mkF m 19 #[.val (.int p0), .val (.int ((p0 &&& (2147483647 : Int32)) % (12 : Int32))), .val (.ref w_FLOAT), .unset, .unset, .unset] [])) _
                  refine XS.iloadN X57.here hx rfl (hb hby at_19) rfl ?_
                  show Steps p.tables e below (T57.setTop (mkF m 20 #[.val (.int p0), .val (.int ((p0 &&& (2147483647 : Int32)) % (12 : Int32))), .val (.ref w_FLOAT), .unset, .unset, .unset] [(.int ((p0 &&& (2147483647 : Int32)) % (12 : Int32)))])) _
                  refine XS.bipush X57.here hx rfl (hb hby at_20) ?_
                  show Steps p.tables e below (T57.setTop (mkF m 22 #[.val (.int p0), .val (.int ((p0 &&& (2147483647 : Int32)) % (12 : Int32))), .val (.ref w_FLOAT), .unset, .unset, .unset] [(.int (9 : Int32)), (.int ((p0 &&& (2147483647 : Int32)) % (12 : Int32)))])) _
                  refine XS.icmpYes X57.here hx rfl (pc0 := 22) (pc' := 29) rfl (hb hby at_22) rfl (feq (fun q => absurd (hs_95.symm.trans q) (by decide))).2 (by decide) (by decide) ?_
                  show Steps p.tables e below (T57.setTop (mkF m 29 #[.val (.int p0), .val (.int ((p0 &&& (2147483647 : Int32)) % (12 : Int32))), .val (.ref w_FLOAT), .unset, .unset, .unset] [])) _
                  refine XS.iconst X57.here hx rfl (hb hby at_29) ?_
                  show Steps p.tables e below (T57.setTop (mkF m 30 #[.val (.int p0), .val (.int ((p0 &&& (2147483647 : Int32)) % (12 : Int32))), .val (.ref w_FLOAT), .unset, .unset, .unset] [(.int (0 : Int32))])) _
                  refine XS.istoreN X57.here hx rfl (hb hby at_30) rfl (l' := #[.val (.int p0), .val (.int ((p0 &&& (2147483647 : Int32)) % (12 : Int32))), .val (.ref w_FLOAT), .val (.int (0 : Int32)), .unset, .unset]) rfl ?_
                  show Steps p.tables e below (T57.setTop (mkF m 31 #[.val (.int p0), .val (.int ((p0 &&& (2147483647 : Int32)) % (12 : Int32))), .val (.ref w_FLOAT), .val (.int (0 : Int32)), .unset, .unset] [])) _
                  refine st97 _ ?_
                  show Steps p.tables e below (T97.setTop (mkF m 33 #[.val (.int p0), .val (.int ((p0 &&& (2147483647 : Int32)) % (12 : Int32))), .val (.ref w_FLOAT), .val (.int (0 : Int32)), .unset, .unset] [(.ref s97)])) _
                  refine XS.aloadN X97.here hx rfl (hb hby at_33) rfl rfl ?_
                  show Steps p.tables e below (T97.setTop (mkF m 34 #[.val (.int p0), .val (.int ((p0 &&& (2147483647 : Int32)) % (12 : Int32))), .val (.ref w_FLOAT), .val (.int (0 : Int32)), .unset, .unset] [(.ref w_FLOAT), (.ref s97)])) _
                  refine st98.trans ?_
                  show Steps p.tables e below (T98.setTop (mkF m 37 #[.val (.int p0), .val (.int ((p0 &&& (2147483647 : Int32)) % (12 : Int32))), .val (.ref w_FLOAT), .val (.int (0 : Int32)), .unset, .unset] [.null, (.ref s97)])) _
                  refine st99.trans ?_
                  show Steps p.tables e below (T99.setTop (mkF m 40 #[.val (.int p0), .val (.int ((p0 &&& (2147483647 : Int32)) % (12 : Int32))), .val (.ref w_FLOAT), .val (.int (0 : Int32)), .unset, .unset] [(.int (0 : Int32))])) _
                  refine XS.istore X99.here hx rfl (hb hby at_40) rfl (l' := #[.val (.int p0), .val (.int ((p0 &&& (2147483647 : Int32)) % (12 : Int32))), .val (.ref w_FLOAT), .val (.int (0 : Int32)), .val (.int (0 : Int32)), .unset]) rfl ?_
                  show Steps p.tables e below (T99.setTop (mkF m 42 #[.val (.int p0), .val (.int ((p0 &&& (2147483647 : Int32)) % (12 : Int32))), .val (.ref w_FLOAT), .val (.int (0 : Int32)), .val (.int (0 : Int32)), .unset] [])) _
                  refine XS.aloadN X99.here hx rfl (hb hby at_42) rfl rfl ?_
                  show Steps p.tables e below (T99.setTop (mkF m 43 #[.val (.int p0), .val (.int ((p0 &&& (2147483647 : Int32)) % (12 : Int32))), .val (.ref w_FLOAT), .val (.int (0 : Int32)), .val (.int (0 : Int32)), .unset] [(.ref w_FLOAT)])) _
                  refine st100.trans ?_
                  show Steps p.tables e below (T100.setTop (mkF m 46 #[.val (.int p0), .val (.int ((p0 &&& (2147483647 : Int32)) % (12 : Int32))), .val (.ref w_FLOAT), .val (.int (0 : Int32)), .val (.int (0 : Int32)), .unset] [(.int (0 : Int32))])) _
                  refine XS.istore X100.here hx rfl (hb hby at_46) rfl (l' := #[.val (.int p0), .val (.int ((p0 &&& (2147483647 : Int32)) % (12 : Int32))), .val (.ref w_FLOAT), .val (.int (0 : Int32)), .val (.int (0 : Int32)), .val (.int (0 : Int32))]) rfl ?_
                  show Steps p.tables e below (T100.setTop (mkF m 48 #[.val (.int p0), .val (.int ((p0 &&& (2147483647 : Int32)) % (12 : Int32))), .val (.ref w_FLOAT), .val (.int (0 : Int32)), .val (.int (0 : Int32)), .val (.int (0 : Int32))] [])) _
                  refine XS.iload X100.here hx rfl (hb hby at_48) rfl ?_
                  show Steps p.tables e below (T100.setTop (mkF m 50 #[.val (.int p0), .val (.int ((p0 &&& (2147483647 : Int32)) % (12 : Int32))), .val (.ref w_FLOAT), .val (.int (0 : Int32)), .val (.int (0 : Int32)), .val (.int (0 : Int32))] [(.int (0 : Int32))])) _
                  refine XS.iloadN X100.here hx rfl (hb hby at_50) rfl ?_
                  show Steps p.tables e below (T100.setTop (mkF m 51 #[.val (.int p0), .val (.int ((p0 &&& (2147483647 : Int32)) % (12 : Int32))), .val (.ref w_FLOAT), .val (.int (0 : Int32)), .val (.int (0 : Int32)), .val (.int (0 : Int32))] [(.int (0 : Int32)), (.int (0 : Int32))])) _
                  refine XS.icmpNo X100.here hx rfl (hb hby at_51) rfl (teq (by decide : (0 : Int32) = (0 : Int32))).2 ?_
                  show Steps p.tables e below (T100.setTop (mkF m 54 #[.val (.int p0), .val (.int ((p0 &&& (2147483647 : Int32)) % (12 : Int32))), .val (.ref w_FLOAT), .val (.int (0 : Int32)), .val (.int (0 : Int32)), .val (.int (0 : Int32))] [])) _
                  refine XS.iload X100.here hx rfl (hb hby at_54) rfl ?_
                  show Steps p.tables e below (T100.setTop (mkF m 56 #[.val (.int p0), .val (.int ((p0 &&& (2147483647 : Int32)) % (12 : Int32))), .val (.ref w_FLOAT), .val (.int (0 : Int32)), .val (.int (0 : Int32)), .val (.int (0 : Int32))] [(.int (0 : Int32))])) _
                  refine XS.iload X100.here hx rfl (hb hby at_56) rfl ?_
                  show Steps p.tables e below (T100.setTop (mkF m 58 #[.val (.int p0), .val (.int ((p0 &&& (2147483647 : Int32)) % (12 : Int32))), .val (.ref w_FLOAT), .val (.int (0 : Int32)), .val (.int (0 : Int32)), .val (.int (0 : Int32))] [(.int (0 : Int32)), (.int (0 : Int32))])) _
                  refine XS.icmpNo X100.here hx rfl (hb hby at_58) rfl (teq (by decide : (0 : Int32) = (0 : Int32))).2 ?_
                  show Steps p.tables e below (T100.setTop (mkF m 61 #[.val (.int p0), .val (.int ((p0 &&& (2147483647 : Int32)) % (12 : Int32))), .val (.ref w_FLOAT), .val (.int (0 : Int32)), .val (.int (0 : Int32)), .val (.int (0 : Int32))] [])) _
                  refine XS.iconst X100.here hx rfl (hb hby at_61) ?_
                  show Steps p.tables e below (T100.setTop (mkF m 62 #[.val (.int p0), .val (.int ((p0 &&& (2147483647 : Int32)) % (12 : Int32))), .val (.ref w_FLOAT), .val (.int (0 : Int32)), .val (.int (0 : Int32)), .val (.int (0 : Int32))] [(.int (1 : Int32))])) _
                  refine XS.goto X100.here hx rfl (pc0 := 62) (pc' := 66) rfl (hb hby at_62) (by decide) (by decide) ?_
                  show Steps p.tables e below (T100.setTop (mkF m 66 #[.val (.int p0), .val (.int ((p0 &&& (2147483647 : Int32)) % (12 : Int32))), .val (.ref w_FLOAT), .val (.int (0 : Int32)), .val (.int (0 : Int32)), .val (.int (0 : Int32))] [(.int (1 : Int32))])) _
                  exact retN X100 hx (t := .boolean) Bd.returns (by simp) (hb hby at_66) hr
                · show Q_law Z p0 w_BIT w_BOOLEAN w_UNSIGNED_BYTE w_SHORT w_INT w_LONG w_FLOAT w_DOUBLE w_CHAR w_UNICODE_CHAR w_POINT w_CIRCLE kc l_CHAR v_CHAR cl_CHAR l_POINT v_POINT cl_POINT l_CIRCLE v_CIRCLE cl_CIRCLE h0 n0 _ T100.heap _
                  refine ⟨?_, N100, trivial⟩
                  rw [F_law, if_neg hs_59, if_neg hs_65, if_neg hs_71, if_neg hs_77, if_neg hs_83, if_neg hs_89, if_pos hs_95]
              · by_cases hs_101 : ((p0 &&& (2147483647 : Int32)) % (12 : Int32)) = (7 : Int32)
                · have q57 : (F_pick ((p0 &&& (2147483647 : Int32)) % (12 : Int32)) w_BIT w_BOOLEAN w_UNSIGNED_BYTE w_SHORT w_INT w_LONG w_FLOAT w_DOUBLE w_CHAR w_UNICODE_CHAR w_POINT w_CIRCLE) = w_DOUBLE := by rw [F_pick, if_neg hs_59, if_neg hs_65, if_neg hs_71, if_neg hs_77, if_neg hs_83, if_neg hs_89, if_neg hs_95, if_pos hs_101]
                  rw [q57] at st57
                  have wS102 : ∀ a ∈ Bundle.stringAtoms, a.before a0' Z = true := own_strAtoms (hw _ (List.mem_of_getElem? (i := 9) rfl)) (hw _ (List.mem_of_getElem? (i := 10) rfl)) (hw _ (List.mem_of_getElem? (i := 11) rfl)) (hw _ (List.mem_of_getElem? (i := 12) rfl)) (hw _ (List.mem_of_getElem? (i := 13) rfl)) (hw _ (List.mem_of_getElem? (i := 14) rfl)) (hw _ (List.mem_of_getElem? (i := 15) rfl))
                  obtain ⟨s103, T103, h103, k103, bv103, kv103, X103, e103, E103, hS103, hk103, hZ, hown, Es103, Cs103, Vs103, As103, -, -, -, st103⟩ := ldcSV (s := s) (vm0 := s.vm) (Ts := []) X57 hx hZ hown (hw _ (List.mem_of_getElem? (i := 8) rfl)) wS102 e57 (k0 := 0) ((State.WarmedH.refl s).since 0) (Nat.zero_le _) (fun y hy => Nat.le_trans (by rw [hh]; exact hn0) (N57 y hy)) (fun b cl q => by rw [hUZ]; exact q) (show IB Z s.vm [] by rw [hUZ]; exact IB.start) (by simp) HCH hcw (vs := [.int 42]) (z := 1) ⟨by decide, by decide⟩ (by decide) rfl (g := (mkF m 31 #[.val (.int p0), .val (.int ((p0 &&& (2147483647 : Int32)) % (12 : Int32))), .val (.ref w_DOUBLE), .val (.int (0 : Int32)), .unset, .unset] [])) rfl (hb hby at_31) (n := 4) (by decide) (by decide) (by decide) (by decide)
                  have EX103 : Ext h0 h103 := E103
                  have Z103 : n0 ≤ h103.size := Nat.le_trans Z0 EX103.1
                  obtain ⟨cq104, kq104, q104a, q104b, q104c⟩ := isOf hZ e103 (E_DOUBLE.ext EX103)
                  obtain ⟨_, _, ⟨T104, L104, k104, n104⟩, -, X104, ⟨Lc104, hQ104, l104, y104, z104⟩, st104⟩ := X103.virtualBack hx (y := (⟨"com/example/starquarry/starquarry/model/ColumnType", "arraysize", "()Ljava/lang/String;"⟩ : MethodName)) (z := (⟨"com/example/starquarry/starquarry/model/ColumnType", "arraysize", "()Ljava/lang/String;"⟩ : MethodName)) hown (mvT hZ (hw _ (List.mem_of_getElem? (i := 16) rfl))) (mvT hZ (hw _ (List.mem_of_getElem? (i := 17) rfl))) (notFace_of_selects (args := #[]) (mvT hZ (hw _ (List.mem_of_getElem? (i := 19) rfl)))) (mvT hZ (hw _ (List.mem_of_getElem? (i := 19) rfl))) (mvT hZ (hw _ (List.mem_of_getElem? (i := 18) rfl))) (by decide) (backOf (W := 1) (rm_asN l Z a0' hw [] w_DOUBLE h103 n0 Z103 (FX_DOUBLE.ext EX103)) hZ (hw _ (List.mem_of_getElem? (i := 20) rfl)) (hw _ (List.mem_of_getElem? (i := 6) rfl)) (by decide) (by decide)) q104a q104c (g := (mkF m 34 #[.val (.int p0), .val (.int ((p0 &&& (2147483647 : Int32)) % (12 : Int32))), .val (.ref w_DOUBLE), .val (.int (0 : Int32)), .unset, .unset] [(.ref w_DOUBLE), (.ref s103)])) rfl (by rw [hml]; rfl) (Steps.refl _) (argsL := []) (rest := [(.ref s103)]) (lenOf own_pd2 rfl) rfl (by show 2 * 0 + _ ≤ _; exact Nat.le_of_eq rfl) (hb hby at_34) (fun _ _ => ⟨rfl, e103, (by decide : 2 + 0 ≤ _), (by decide : 8 + 0 ≤ _)⟩)
                  dsimp only [Pt.U, Pt.locs, Pt.cells, Pt.slots] at X104 l104 y104 z104 st104 hQ104
                  subst l104 y104 z104
                  obtain ⟨rfl, N104q, e104⟩ := hQ104
                  have N104 := Fr.app N57 N104q
                  obtain ⟨cq105, kq105, q105a, q105b, q105c⟩ := isOf hZ e104 Es103
                  obtain ⟨_, _, ⟨T105, L105, k105, n105⟩, -, X105, ⟨Lc105, hQ105, l105, y105, z105⟩, st105⟩ := X104.virtualBack hx (y := (⟨"java/lang/String", "equals", "(Ljava/lang/Object;)Z"⟩ : MethodName)) (z := (⟨"java/lang/String", "equals", "(Ljava/lang/Object;)Z"⟩ : MethodName)) hown (mvT hZ (hw _ (List.mem_of_getElem? (i := 23) rfl))) (mvT hZ (hw _ (List.mem_of_getElem? (i := 24) rfl))) (notFace_of_selects (args := #[]) (mvT hZ (hw _ (List.mem_of_getElem? (i := 26) rfl)))) (mvT hZ (hw _ (List.mem_of_getElem? (i := 26) rfl))) (mvT hZ (hw _ (List.mem_of_getElem? (i := 25) rfl))) (by decide) (backOf (W := 0) (rm_seqN l Z a0' hw [] s103 h103 n0 Z103) hZ (hw _ (List.mem_of_getElem? (i := 27) rfl)) (hw _ (List.mem_of_getElem? (i := 9) rfl)) (by decide) (by decide)) q105a q105c (g := (mkF m 37 #[.val (.int p0), .val (.int ((p0 &&& (2147483647 : Int32)) % (12 : Int32))), .val (.ref w_DOUBLE), .val (.int (0 : Int32)), .unset, .unset] [.null, (.ref s103)])) rfl (by rw [hml]; rfl) (Steps.refl _) (argsL := [.null]) (rest := []) (lenOf own_pd3 rfl) rfl (by show 2 * 0 + _ ≤ _; exact Nat.le_of_eq rfl) (hb hby at_37) (fun _ _ => ⟨rfl, e104, (by decide : 2 + 0 ≤ _), (by decide : 8 + 0 ≤ _)⟩)
                  dsimp only [Pt.U, Pt.locs, Pt.cells, Pt.slots] at X105 l105 y105 z105 st105 hQ105
                  subst l105 y105 z105
                  obtain ⟨rfl, N105q, e105⟩ := hQ105
                  have N105 := Fr.app N104 N105q
                  obtain ⟨cq106, kq106, q106a, q106b, q106c⟩ := isOf hZ e105 (E_DOUBLE.ext EX103)
                  obtain ⟨_, _, ⟨T106, L106, k106, n106⟩, -, X106, ⟨Lc106, hQ106, l106, y106, z106⟩, st106⟩ := X105.virtualBack hx (y := (⟨"com/example/starquarry/starquarry/model/ColumnType", "isText", "()Z"⟩ : MethodName)) (z := (⟨"com/example/starquarry/starquarry/model/ColumnType", "isText", "()Z"⟩ : MethodName)) hown (mvT hZ (hw _ (List.mem_of_getElem? (i := 28) rfl))) (mvT hZ (hw _ (List.mem_of_getElem? (i := 29) rfl))) (notFace_of_selects (args := #[]) (mvT hZ (hw _ (List.mem_of_getElem? (i := 31) rfl)))) (mvT hZ (hw _ (List.mem_of_getElem? (i := 31) rfl))) (mvT hZ (hw _ (List.mem_of_getElem? (i := 30) rfl))) (by decide) (backOf (W := 0) (rm_tx l Z a0' hw [] w_DOUBLE w_CHAR w_UNICODE_CHAR h103 n0 Z103 (S_CHAR.ext EX103) (S_UNICODE_CHAR.ext EX103)) hZ (hw _ (List.mem_of_getElem? (i := 32) rfl)) (hw _ (List.mem_of_getElem? (i := 6) rfl)) (by decide) (by decide)) q106a q106c (g := (mkF m 43 #[.val (.int p0), .val (.int ((p0 &&& (2147483647 : Int32)) % (12 : Int32))), .val (.ref w_DOUBLE), .val (.int (0 : Int32)), .val (.int (0 : Int32)), .unset] [(.ref w_DOUBLE)])) rfl (by rw [hml]; rfl) (Steps.refl _) (argsL := []) (rest := []) (lenOf own_pd4 rfl) rfl (by show 2 * 0 + _ ≤ _; exact Nat.le_of_eq rfl) (hb hby at_43) (fun _ _ => ⟨rfl, e105, (by decide : 2 + 0 ≤ _), (by decide : 8 + 0 ≤ _)⟩)
                  dsimp only [Pt.U, Pt.locs, Pt.cells, Pt.slots] at X106 l106 y106 z106 st106 hQ106
                  subst l106 y106 z106
                  obtain ⟨rfl, N106q, e106⟩ := hQ106
                  have N106 := Fr.app N105 N106q
                  have q106 : (F_tx w_DOUBLE w_CHAR w_UNICODE_CHAR) = (0 : Int32) := by rw [F_tx, if_neg ne_DOUBLE_CHAR, if_neg ne_DOUBLE_UNICODE_CHAR]
                  rw [q106] at st106
                  obtain ⟨fs, hr, hrun, hended, hE⟩ := X106.leaveW hS103 (by rw [e106]; exact hk103) (v := some (.int (1 : Int32))) (fun h => by rw [Bd.returns] at h; cases h)
                  refine ⟨_, _, pre58 _ ?_, hrun, hended, _, _, rfl, ?_, own_wmono hE (by decide) (by decide)⟩
                  · show Steps p.tables e below (s₁.setTop (mkF m 9 #[.val (.int p0), .val (.int ((p0 &&& (2147483647 : Int32)) % (12 : Int32))), .unset, .unset, .unset, .unset] [(.int ((p0 &&& (2147483647 : Int32)) % (12 : Int32)))])) _
                    refine st57 _ ?_
                    show Steps p.tables e below (T57.setTop (mkF m 12 #[.val (.int p0), .val (.int ((p0 &&& (2147483647 : Int32)) % (12 : Int32))), .unset, .unset, .unset, .unset] [(.ref w_DOUBLE)])) _
                    refine XS.astoreN X57.here hx rfl (hb hby at_12) rfl rfl (l' := #[.val (.int p0), .val (.int ((p0 &&& (2147483647 : Int32)) % (12 : Int32))), .val (.ref w_DOUBLE), .unset, .unset, .unset]) rfl ?_
                    show Steps p.tables e below (T57.setTop (mkF m 13 #[.val (.int p0), .val (.int ((p0 &&& (2147483647 : Int32)) % (12 : Int32))), .val (.ref w_DOUBLE), .unset, .unset, .unset] [])) _
                    refine XS.iloadN X57.here hx rfl (hb hby at_13) rfl ?_
                    show Steps p.tables e below (T57.setTop (mkF m 14 #[.val (.int p0), .val (.int ((p0 &&& (2147483647 : Int32)) % (12 : Int32))), .val (.ref w_DOUBLE), .unset, .unset, .unset] [(.int ((p0 &&& (2147483647 : Int32)) % (12 : Int32)))])) _
                    refine XS.bipush X57.here hx rfl (hb hby at_14) ?_
                    show Steps p.tables e below (T57.setTop (mkF m 16 #[.val (.int p0), .val (.int ((p0 &&& (2147483647 : Int32)) % (12 : Int32))), .val (.ref w_DOUBLE), .unset, .unset, .unset] [(.int (8 : Int32)), (.int ((p0 &&& (2147483647 : Int32)) % (12 : Int32)))])) _
                    refine XS.icmpNo X57.here hx rfl (hb hby at_16) rfl (feq (fun q => absurd (hs_101.symm.trans q) (by decide))).1 ?_
                    show Steps p.tables e below (T57.setTop (mkF m 19 #[.val (.int p0), .val (.int ((p0 &&& (2147483647 : Int32)) % (12 : Int32))), .val (.ref w_DOUBLE), .unset, .unset, .unset] [])) _
                    refine XS.iloadN X57.here hx rfl (hb hby at_19) rfl ?_
                    show Steps p.tables e below (T57.setTop (mkF m 20 #[.val (.int p0), .val (.int ((p0 &&& (2147483647 : Int32)) % (12 : Int32))), .val (.ref w_DOUBLE), .unset, .unset, .unset] [(.int ((p0 &&& (2147483647 : Int32)) % (12 : Int32)))])) _
                    refine XS.bipush X57.here hx rfl (hb hby at_20) ?_
                    show Steps p.tables e below (T57.setTop (mkF m 22 #[.val (.int p0), .val (.int ((p0 &&& (2147483647 : Int32)) % (12 : Int32))), .val (.ref w_DOUBLE), .unset, .unset, .unset] [(.int (9 : Int32)), (.int ((p0 &&& (2147483647 : Int32)) % (12 : Int32)))])) _
                    refine XS.icmpYes X57.here hx rfl (pc0 := 22) (pc' := 29) rfl (hb hby at_22) rfl (feq (fun q => absurd (hs_101.symm.trans q) (by decide))).2 (by decide) (by decide) ?_
                    show Steps p.tables e below (T57.setTop (mkF m 29 #[.val (.int p0), .val (.int ((p0 &&& (2147483647 : Int32)) % (12 : Int32))), .val (.ref w_DOUBLE), .unset, .unset, .unset] [])) _
                    refine XS.iconst X57.here hx rfl (hb hby at_29) ?_
                    show Steps p.tables e below (T57.setTop (mkF m 30 #[.val (.int p0), .val (.int ((p0 &&& (2147483647 : Int32)) % (12 : Int32))), .val (.ref w_DOUBLE), .unset, .unset, .unset] [(.int (0 : Int32))])) _
                    refine XS.istoreN X57.here hx rfl (hb hby at_30) rfl (l' := #[.val (.int p0), .val (.int ((p0 &&& (2147483647 : Int32)) % (12 : Int32))), .val (.ref w_DOUBLE), .val (.int (0 : Int32)), .unset, .unset]) rfl ?_
                    show Steps p.tables e below (T57.setTop (mkF m 31 #[.val (.int p0), .val (.int ((p0 &&& (2147483647 : Int32)) % (12 : Int32))), .val (.ref w_DOUBLE), .val (.int (0 : Int32)), .unset, .unset] [])) _
                    refine st103 _ ?_
                    show Steps p.tables e below (T103.setTop (mkF m 33 #[.val (.int p0), .val (.int ((p0 &&& (2147483647 : Int32)) % (12 : Int32))), .val (.ref w_DOUBLE), .val (.int (0 : Int32)), .unset, .unset] [(.ref s103)])) _
                    refine XS.aloadN X103.here hx rfl (hb hby at_33) rfl rfl ?_
                    show Steps p.tables e below (T103.setTop (mkF m 34 #[.val (.int p0), .val (.int ((p0 &&& (2147483647 : Int32)) % (12 : Int32))), .val (.ref w_DOUBLE), .val (.int (0 : Int32)), .unset, .unset] [(.ref w_DOUBLE), (.ref s103)])) _
                    refine st104.trans ?_
                    show Steps p.tables e below (T104.setTop (mkF m 37 #[.val (.int p0), .val (.int ((p0 &&& (2147483647 : Int32)) % (12 : Int32))), .val (.ref w_DOUBLE), .val (.int (0 : Int32)), .unset, .unset] [.null, (.ref s103)])) _
                    refine st105.trans ?_
                    show Steps p.tables e below (T105.setTop (mkF m 40 #[.val (.int p0), .val (.int ((p0 &&& (2147483647 : Int32)) % (12 : Int32))), .val (.ref w_DOUBLE), .val (.int (0 : Int32)), .unset, .unset] [(.int (0 : Int32))])) _
                    refine XS.istore X105.here hx rfl (hb hby at_40) rfl (l' := #[.val (.int p0), .val (.int ((p0 &&& (2147483647 : Int32)) % (12 : Int32))), .val (.ref w_DOUBLE), .val (.int (0 : Int32)), .val (.int (0 : Int32)), .unset]) rfl ?_
                    show Steps p.tables e below (T105.setTop (mkF m 42 #[.val (.int p0), .val (.int ((p0 &&& (2147483647 : Int32)) % (12 : Int32))), .val (.ref w_DOUBLE), .val (.int (0 : Int32)), .val (.int (0 : Int32)), .unset] [])) _
                    refine XS.aloadN X105.here hx rfl (hb hby at_42) rfl rfl ?_
                    show Steps p.tables e below (T105.setTop (mkF m 43 #[.val (.int p0), .val (.int ((p0 &&& (2147483647 : Int32)) % (12 : Int32))), .val (.ref w_DOUBLE), .val (.int (0 : Int32)), .val (.int (0 : Int32)), .unset] [(.ref w_DOUBLE)])) _
                    refine st106.trans ?_
                    show Steps p.tables e below (T106.setTop (mkF m 46 #[.val (.int p0), .val (.int ((p0 &&& (2147483647 : Int32)) % (12 : Int32))), .val (.ref w_DOUBLE), .val (.int (0 : Int32)), .val (.int (0 : Int32)), .unset] [(.int (0 : Int32))])) _
                    refine XS.istore X106.here hx rfl (hb hby at_46) rfl (l' := #[.val (.int p0), .val (.int ((p0 &&& (2147483647 : Int32)) % (12 : Int32))), .val (.ref w_DOUBLE), .val (.int (0 : Int32)), .val (.int (0 : Int32)), .val (.int (0 : Int32))]) rfl ?_
                    show Steps p.tables e below (T106.setTop (mkF m 48 #[.val (.int p0), .val (.int ((p0 &&& (2147483647 : Int32)) % (12 : Int32))), .val (.ref w_DOUBLE), .val (.int (0 : Int32)), .val (.int (0 : Int32)), .val (.int (0 : Int32))] [])) _
                    refine XS.iload X106.here hx rfl (hb hby at_48) rfl ?_
                    show Steps p.tables e below (T106.setTop (mkF m 50 #[.val (.int p0), .val (.int ((p0 &&& (2147483647 : Int32)) % (12 : Int32))), .val (.ref w_DOUBLE), .val (.int (0 : Int32)), .val (.int (0 : Int32)), .val (.int (0 : Int32))] [(.int (0 : Int32))])) _
                    refine XS.iloadN X106.here hx rfl (hb hby at_50) rfl ?_
                    show Steps p.tables e below (T106.setTop (mkF m 51 #[.val (.int p0), .val (.int ((p0 &&& (2147483647 : Int32)) % (12 : Int32))), .val (.ref w_DOUBLE), .val (.int (0 : Int32)), .val (.int (0 : Int32)), .val (.int (0 : Int32))] [(.int (0 : Int32)), (.int (0 : Int32))])) _
                    refine XS.icmpNo X106.here hx rfl (hb hby at_51) rfl (teq (by decide : (0 : Int32) = (0 : Int32))).2 ?_
                    show Steps p.tables e below (T106.setTop (mkF m 54 #[.val (.int p0), .val (.int ((p0 &&& (2147483647 : Int32)) % (12 : Int32))), .val (.ref w_DOUBLE), .val (.int (0 : Int32)), .val (.int (0 : Int32)), .val (.int (0 : Int32))] [])) _
                    refine XS.iload X106.here hx rfl (hb hby at_54) rfl ?_
                    show Steps p.tables e below (T106.setTop (mkF m 56 #[.val (.int p0), .val (.int ((p0 &&& (2147483647 : Int32)) % (12 : Int32))), .val (.ref w_DOUBLE), .val (.int (0 : Int32)), .val (.int (0 : Int32)), .val (.int (0 : Int32))] [(.int (0 : Int32))])) _
                    refine XS.iload X106.here hx rfl (hb hby at_56) rfl ?_
                    show Steps p.tables e below (T106.setTop (mkF m 58 #[.val (.int p0), .val (.int ((p0 &&& (2147483647 : Int32)) % (12 : Int32))), .val (.ref w_DOUBLE), .val (.int (0 : Int32)), .val (.int (0 : Int32)), .val (.int (0 : Int32))] [(.int (0 : Int32)), (.int (0 : Int32))])) _
                    refine XS.icmpNo X106.here hx rfl (hb hby at_58) rfl (teq (by decide : (0 : Int32) = (0 : Int32))).2 ?_
                    show Steps p.tables e below (T106.setTop (mkF m 61 #[.val (.int p0), .val (.int ((p0 &&& (2147483647 : Int32)) % (12 : Int32))), .val (.ref w_DOUBLE), .val (.int (0 : Int32)), .val (.int (0 : Int32)), .val (.int (0 : Int32))] [])) _
                    refine XS.iconst X106.here hx rfl (hb hby at_61) ?_
                    show Steps p.tables e below (T106.setTop (mkF m 62 #[.val (.int p0), .val (.int ((p0 &&& (2147483647 : Int32)) % (12 : Int32))), .val (.ref w_DOUBLE), .val (.int (0 : Int32)), .val (.int (0 : Int32)), .val (.int (0 : Int32))] [(.int (1 : Int32))])) _
                    refine XS.goto X106.here hx rfl (pc0 := 62) (pc' := 66) rfl (hb hby at_62) (by decide) (by decide) ?_
                    show Steps p.tables e below (T106.setTop (mkF m 66 #[.val (.int p0), .val (.int ((p0 &&& (2147483647 : Int32)) % (12 : Int32))), .val (.ref w_DOUBLE), .val (.int (0 : Int32)), .val (.int (0 : Int32)), .val (.int (0 : Int32))] [(.int (1 : Int32))])) _
                    exact retN X106 hx (t := .boolean) Bd.returns (by simp) (hb hby at_66) hr
                  · show Q_law Z p0 w_BIT w_BOOLEAN w_UNSIGNED_BYTE w_SHORT w_INT w_LONG w_FLOAT w_DOUBLE w_CHAR w_UNICODE_CHAR w_POINT w_CIRCLE kc l_CHAR v_CHAR cl_CHAR l_POINT v_POINT cl_POINT l_CIRCLE v_CIRCLE cl_CIRCLE h0 n0 _ T106.heap _
                    refine ⟨?_, N106, trivial⟩
                    rw [F_law, if_neg hs_59, if_neg hs_65, if_neg hs_71, if_neg hs_77, if_neg hs_83, if_neg hs_89, if_neg hs_95, if_pos hs_101]
                · by_cases hs_107 : ((p0 &&& (2147483647 : Int32)) % (12 : Int32)) = (8 : Int32)
                  · have q57 : (F_pick ((p0 &&& (2147483647 : Int32)) % (12 : Int32)) w_BIT w_BOOLEAN w_UNSIGNED_BYTE w_SHORT w_INT w_LONG w_FLOAT w_DOUBLE w_CHAR w_UNICODE_CHAR w_POINT w_CIRCLE) = w_CHAR := by rw [F_pick, if_neg hs_59, if_neg hs_65, if_neg hs_71, if_neg hs_77, if_neg hs_83, if_neg hs_89, if_neg hs_95, if_neg hs_101, if_pos hs_107]
                    rw [q57] at st57
                    have wS108 : ∀ a ∈ Bundle.stringAtoms, a.before a0' Z = true := own_strAtoms (hw _ (List.mem_of_getElem? (i := 9) rfl)) (hw _ (List.mem_of_getElem? (i := 10) rfl)) (hw _ (List.mem_of_getElem? (i := 11) rfl)) (hw _ (List.mem_of_getElem? (i := 12) rfl)) (hw _ (List.mem_of_getElem? (i := 13) rfl)) (hw _ (List.mem_of_getElem? (i := 14) rfl)) (hw _ (List.mem_of_getElem? (i := 15) rfl))
                    obtain ⟨s109, T109, h109, k109, bv109, kv109, X109, e109, E109, hS109, hk109, hZ, hown, Es109, Cs109, Vs109, As109, -, -, -, st109⟩ := ldcSV (s := s) (vm0 := s.vm) (Ts := []) X57 hx hZ hown (hw _ (List.mem_of_getElem? (i := 8) rfl)) wS108 e57 (k0 := 0) ((State.WarmedH.refl s).since 0) (Nat.zero_le _) (fun y hy => Nat.le_trans (by rw [hh]; exact hn0) (N57 y hy)) (fun b cl q => by rw [hUZ]; exact q) (show IB Z s.vm [] by rw [hUZ]; exact IB.start) (by simp) HCH hcw (vs := [.int 42]) (z := 1) ⟨by decide, by decide⟩ (by decide) rfl (g := (mkF m 31 #[.val (.int p0), .val (.int ((p0 &&& (2147483647 : Int32)) % (12 : Int32))), .val (.ref w_CHAR), .val (.int (1 : Int32)), .unset, .unset] [])) rfl (hb hby at_31) (n := 4) (by decide) (by decide) (by decide) (by decide)
                    have EX109 : Ext h0 h109 := E109
                    have Z109 : n0 ≤ h109.size := Nat.le_trans Z0 EX109.1
                    obtain ⟨cq110, kq110, q110a, q110b, q110c⟩ := isOf hZ e109 (E_CHAR.ext EX109)
                    obtain ⟨_, _, ⟨T110, L110, k110, n110⟩, -, X110, ⟨Lc110, hQ110, l110, y110, z110⟩, st110⟩ := X109.virtualBack hx (y := (⟨"com/example/starquarry/starquarry/model/ColumnType", "arraysize", "()Ljava/lang/String;"⟩ : MethodName)) (z := (⟨"com/example/starquarry/starquarry/model/ColumnType", "arraysize", "()Ljava/lang/String;"⟩ : MethodName)) hown (mvT hZ (hw _ (List.mem_of_getElem? (i := 16) rfl))) (mvT hZ (hw _ (List.mem_of_getElem? (i := 17) rfl))) (notFace_of_selects (args := #[]) (mvT hZ (hw _ (List.mem_of_getElem? (i := 19) rfl)))) (mvT hZ (hw _ (List.mem_of_getElem? (i := 19) rfl))) (mvT hZ (hw _ (List.mem_of_getElem? (i := 18) rfl))) (by decide) (backOf (W := 1) (rm_asR l Z a0' hw [] w_CHAR l_CHAR h109 n0 Z109 (HL_CHAR.ext EX109)) hZ (hw _ (List.mem_of_getElem? (i := 20) rfl)) (hw _ (List.mem_of_getElem? (i := 6) rfl)) (by decide) (by decide)) q110a q110c (g := (mkF m 34 #[.val (.int p0), .val (.int ((p0 &&& (2147483647 : Int32)) % (12 : Int32))), .val (.ref w_CHAR), .val (.int (1 : Int32)), .unset, .unset] [(.ref w_CHAR), (.ref s109)])) rfl (by rw [hml]; rfl) (Steps.refl _) (argsL := []) (rest := [(.ref s109)]) (lenOf own_pd2 rfl) rfl (by show 2 * 0 + _ ≤ _; exact Nat.le_of_eq rfl) (hb hby at_34) (fun _ _ => ⟨rfl, e109, (by decide : 2 + 0 ≤ _), (by decide : 8 + 0 ≤ _)⟩)
                    dsimp only [Pt.U, Pt.locs, Pt.cells, Pt.slots] at X110 l110 y110 z110 st110 hQ110
                    subst l110 y110 z110
                    obtain ⟨rfl, N110q, e110⟩ := hQ110
                    have N110 := Fr.app N57 N110q
                    obtain ⟨cl112, Ar112, -, S112, N_112, H112, -⟩ := As109
                    have ta112 : cl112.slots[(0 : Int32).toNatClampNeg]? = some (.int (42 : Int32)) := H112 0 (by rw [S112]; decide)
                    obtain ⟨cq111, kq111, q111a, q111b, q111c⟩ := isOf hZ e110 Es109
                    obtain ⟨_, _, ⟨T111, L111, k111, n111⟩, -, X111, ⟨Lc111, hQ111, l111, y111, z111⟩, st111⟩ := X110.virtualBack hx (y := (⟨"java/lang/String", "equals", "(Ljava/lang/Object;)Z"⟩ : MethodName)) (z := (⟨"java/lang/String", "equals", "(Ljava/lang/Object;)Z"⟩ : MethodName)) hown (mvT hZ (hw _ (List.mem_of_getElem? (i := 23) rfl))) (mvT hZ (hw _ (List.mem_of_getElem? (i := 24) rfl))) (notFace_of_selects (args := #[]) (mvT hZ (hw _ (List.mem_of_getElem? (i := 26) rfl)))) (mvT hZ (hw _ (List.mem_of_getElem? (i := 26) rfl))) (mvT hZ (hw _ (List.mem_of_getElem? (i := 25) rfl))) (by decide) (backOf (W := 0) (rm_seqR l Z a0' hw [] s109 l_CHAR bv109 v_CHAR cl112 cl_CHAR (42 : Int32) (42 : Int32) kc h109 n0 Z109 (EL_CHAR.ext EX109) Cs109 (HC_CHAR.ext EX109) Vs109 (HV_CHAR.ext EX109) Ar112 (Ar_CHAR.ext EX109) S112 hsz_CHAR ta112 hat_CHAR (S_cs.ext EX109) hkc) hZ (hw _ (List.mem_of_getElem? (i := 27) rfl)) (hw _ (List.mem_of_getElem? (i := 9) rfl)) (by decide) (by decide)) q111a q111c (g := (mkF m 37 #[.val (.int p0), .val (.int ((p0 &&& (2147483647 : Int32)) % (12 : Int32))), .val (.ref w_CHAR), .val (.int (1 : Int32)), .unset, .unset] [(.ref l_CHAR), (.ref s109)])) rfl (by rw [hml]; rfl) (Steps.refl _) (argsL := [(.ref l_CHAR)]) (rest := []) (lenOf own_pd3 rfl) rfl (by show 2 * 0 + _ ≤ _; exact Nat.le_of_eq rfl) (hb hby at_37) (fun _ _ => ⟨rfl, e110, (by decide : 2 + 0 ≤ _), (by decide : 8 + 0 ≤ _)⟩)
                    dsimp only [Pt.U, Pt.locs, Pt.cells, Pt.slots] at X111 l111 y111 z111 st111 hQ111
                    subst l111 y111 z111
                    obtain ⟨rfl, N111q, e111⟩ := hQ111
                    have N111 := Fr.app N110 N111q
                    have q111 : (F_seqR (42 : Int32) (42 : Int32)) = (1 : Int32) := by rw [F_seqR, if_pos (by decide : (42 : Int32) = (42 : Int32))]
                    rw [q111] at st111
                    obtain ⟨cq113, kq113, q113a, q113b, q113c⟩ := isOf hZ e111 (E_CHAR.ext EX109)
                    obtain ⟨_, _, ⟨T113, L113, k113, n113⟩, -, X113, ⟨Lc113, hQ113, l113, y113, z113⟩, st113⟩ := X111.virtualBack hx (y := (⟨"com/example/starquarry/starquarry/model/ColumnType", "isText", "()Z"⟩ : MethodName)) (z := (⟨"com/example/starquarry/starquarry/model/ColumnType", "isText", "()Z"⟩ : MethodName)) hown (mvT hZ (hw _ (List.mem_of_getElem? (i := 28) rfl))) (mvT hZ (hw _ (List.mem_of_getElem? (i := 29) rfl))) (notFace_of_selects (args := #[]) (mvT hZ (hw _ (List.mem_of_getElem? (i := 31) rfl)))) (mvT hZ (hw _ (List.mem_of_getElem? (i := 31) rfl))) (mvT hZ (hw _ (List.mem_of_getElem? (i := 30) rfl))) (by decide) (backOf (W := 0) (rm_tx l Z a0' hw [] w_CHAR w_CHAR w_UNICODE_CHAR h109 n0 Z109 (S_CHAR.ext EX109) (S_UNICODE_CHAR.ext EX109)) hZ (hw _ (List.mem_of_getElem? (i := 32) rfl)) (hw _ (List.mem_of_getElem? (i := 6) rfl)) (by decide) (by decide)) q113a q113c (g := (mkF m 43 #[.val (.int p0), .val (.int ((p0 &&& (2147483647 : Int32)) % (12 : Int32))), .val (.ref w_CHAR), .val (.int (1 : Int32)), .val (.int (1 : Int32)), .unset] [(.ref w_CHAR)])) rfl (by rw [hml]; rfl) (Steps.refl _) (argsL := []) (rest := []) (lenOf own_pd4 rfl) rfl (by show 2 * 0 + _ ≤ _; exact Nat.le_of_eq rfl) (hb hby at_43) (fun _ _ => ⟨rfl, e111, (by decide : 2 + 0 ≤ _), (by decide : 8 + 0 ≤ _)⟩)
                    dsimp only [Pt.U, Pt.locs, Pt.cells, Pt.slots] at X113 l113 y113 z113 st113 hQ113
                    subst l113 y113 z113
                    obtain ⟨rfl, N113q, e113⟩ := hQ113
                    have N113 := Fr.app N111 N113q
                    have q113 : (F_tx w_CHAR w_CHAR w_UNICODE_CHAR) = (1 : Int32) := by rw [F_tx, if_pos (rfl : w_CHAR = w_CHAR)]
                    rw [q113] at st113
                    obtain ⟨fs, hr, hrun, hended, hE⟩ := X113.leaveW hS109 (by rw [e113]; exact hk109) (v := some (.int (1 : Int32))) (fun h => by rw [Bd.returns] at h; cases h)
                    refine ⟨_, _, pre58 _ ?_, hrun, hended, _, _, rfl, ?_, own_wmono hE (by decide) (by decide)⟩
                    · show Steps p.tables e below (s₁.setTop (mkF m 9 #[.val (.int p0), .val (.int ((p0 &&& (2147483647 : Int32)) % (12 : Int32))), .unset, .unset, .unset, .unset] [(.int ((p0 &&& (2147483647 : Int32)) % (12 : Int32)))])) _
                      refine st57 _ ?_
                      show Steps p.tables e below (T57.setTop (mkF m 12 #[.val (.int p0), .val (.int ((p0 &&& (2147483647 : Int32)) % (12 : Int32))), .unset, .unset, .unset, .unset] [(.ref w_CHAR)])) _
                      refine XS.astoreN X57.here hx rfl (hb hby at_12) rfl rfl (l' := #[.val (.int p0), .val (.int ((p0 &&& (2147483647 : Int32)) % (12 : Int32))), .val (.ref w_CHAR), .unset, .unset, .unset]) rfl ?_
                      show Steps p.tables e below (T57.setTop (mkF m 13 #[.val (.int p0), .val (.int ((p0 &&& (2147483647 : Int32)) % (12 : Int32))), .val (.ref w_CHAR), .unset, .unset, .unset] [])) _
                      refine XS.iloadN X57.here hx rfl (hb hby at_13) rfl ?_
                      show Steps p.tables e below (T57.setTop (mkF m 14 #[.val (.int p0), .val (.int ((p0 &&& (2147483647 : Int32)) % (12 : Int32))), .val (.ref w_CHAR), .unset, .unset, .unset] [(.int ((p0 &&& (2147483647 : Int32)) % (12 : Int32)))])) _
                      refine XS.bipush X57.here hx rfl (hb hby at_14) ?_
                      show Steps p.tables e below (T57.setTop (mkF m 16 #[.val (.int p0), .val (.int ((p0 &&& (2147483647 : Int32)) % (12 : Int32))), .val (.ref w_CHAR), .unset, .unset, .unset] [(.int (8 : Int32)), (.int ((p0 &&& (2147483647 : Int32)) % (12 : Int32)))])) _
                      refine XS.icmpYes X57.here hx rfl (pc0 := 16) (pc' := 25) rfl (hb hby at_16) rfl (teq hs_107).1 (by decide) (by decide) ?_
                      show Steps p.tables e below (T57.setTop (mkF m 25 #[.val (.int p0), .val (.int ((p0 &&& (2147483647 : Int32)) % (12 : Int32))), .val (.ref w_CHAR), .unset, .unset, .unset] [])) _
                      refine XS.iconst X57.here hx rfl (hb hby at_25) ?_
                      show Steps p.tables e below (T57.setTop (mkF m 26 #[.val (.int p0), .val (.int ((p0 &&& (2147483647 : Int32)) % (12 : Int32))), .val (.ref w_CHAR), .unset, .unset, .unset] [(.int (1 : Int32))])) _
                      refine XS.goto X57.here hx rfl (pc0 := 26) (pc' := 30) rfl (hb hby at_26) (by decide) (by decide) ?_
                      show Steps p.tables e below (T57.setTop (mkF m 30 #[.val (.int p0), .val (.int ((p0 &&& (2147483647 : Int32)) % (12 : Int32))), .val (.ref w_CHAR), .unset, .unset, .unset] [(.int (1 : Int32))])) _
                      refine XS.istoreN X57.here hx rfl (hb hby at_30) rfl (l' := #[.val (.int p0), .val (.int ((p0 &&& (2147483647 : Int32)) % (12 : Int32))), .val (.ref w_CHAR), .val (.int (1 : Int32)), .unset, .unset]) rfl ?_
                      show Steps p.tables e below (T57.setTop (mkF m 31 #[.val (.int p0), .val (.int ((p0 &&& (2147483647 : Int32)) % (12 : Int32))), .val (.ref w_CHAR), .val (.int (1 : Int32)), .unset, .unset] [])) _
                      refine st109 _ ?_
                      show Steps p.tables e below (T109.setTop (mkF m 33 #[.val (.int p0), .val (.int ((p0 &&& (2147483647 : Int32)) % (12 : Int32))), .val (.ref w_CHAR), .val (.int (1 : Int32)), .unset, .unset] [(.ref s109)])) _
                      refine XS.aloadN X109.here hx rfl (hb hby at_33) rfl rfl ?_
                      show Steps p.tables e below (T109.setTop (mkF m 34 #[.val (.int p0), .val (.int ((p0 &&& (2147483647 : Int32)) % (12 : Int32))), .val (.ref w_CHAR), .val (.int (1 : Int32)), .unset, .unset] [(.ref w_CHAR), (.ref s109)])) _
                      refine st110.trans ?_
                      show Steps p.tables e below (T110.setTop (mkF m 37 #[.val (.int p0), .val (.int ((p0 &&& (2147483647 : Int32)) % (12 : Int32))), .val (.ref w_CHAR), .val (.int (1 : Int32)), .unset, .unset] [(.ref l_CHAR), (.ref s109)])) _
                      refine st111.trans ?_
                      show Steps p.tables e below (T111.setTop (mkF m 40 #[.val (.int p0), .val (.int ((p0 &&& (2147483647 : Int32)) % (12 : Int32))), .val (.ref w_CHAR), .val (.int (1 : Int32)), .unset, .unset] [(.int (1 : Int32))])) _
                      refine XS.istore X111.here hx rfl (hb hby at_40) rfl (l' := #[.val (.int p0), .val (.int ((p0 &&& (2147483647 : Int32)) % (12 : Int32))), .val (.ref w_CHAR), .val (.int (1 : Int32)), .val (.int (1 : Int32)), .unset]) rfl ?_
                      show Steps p.tables e below (T111.setTop (mkF m 42 #[.val (.int p0), .val (.int ((p0 &&& (2147483647 : Int32)) % (12 : Int32))), .val (.ref w_CHAR), .val (.int (1 : Int32)), .val (.int (1 : Int32)), .unset] [])) _
                      refine XS.aloadN X111.here hx rfl (hb hby at_42) rfl rfl ?_
                      show Steps p.tables e below (T111.setTop (mkF m 43 #[.val (.int p0), .val (.int ((p0 &&& (2147483647 : Int32)) % (12 : Int32))), .val (.ref w_CHAR), .val (.int (1 : Int32)), .val (.int (1 : Int32)), .unset] [(.ref w_CHAR)])) _
                      refine st113.trans ?_
                      show Steps p.tables e below (T113.setTop (mkF m 46 #[.val (.int p0), .val (.int ((p0 &&& (2147483647 : Int32)) % (12 : Int32))), .val (.ref w_CHAR), .val (.int (1 : Int32)), .val (.int (1 : Int32)), .unset] [(.int (1 : Int32))])) _
                      refine XS.istore X113.here hx rfl (hb hby at_46) rfl (l' := #[.val (.int p0), .val (.int ((p0 &&& (2147483647 : Int32)) % (12 : Int32))), .val (.ref w_CHAR), .val (.int (1 : Int32)), .val (.int (1 : Int32)), .val (.int (1 : Int32))]) rfl ?_
                      show Steps p.tables e below (T113.setTop (mkF m 48 #[.val (.int p0), .val (.int ((p0 &&& (2147483647 : Int32)) % (12 : Int32))), .val (.ref w_CHAR), .val (.int (1 : Int32)), .val (.int (1 : Int32)), .val (.int (1 : Int32))] [])) _
                      refine XS.iload X113.here hx rfl (hb hby at_48) rfl ?_
                      show Steps p.tables e below (T113.setTop (mkF m 50 #[.val (.int p0), .val (.int ((p0 &&& (2147483647 : Int32)) % (12 : Int32))), .val (.ref w_CHAR), .val (.int (1 : Int32)), .val (.int (1 : Int32)), .val (.int (1 : Int32))] [(.int (1 : Int32))])) _
                      refine XS.iloadN X113.here hx rfl (hb hby at_50) rfl ?_
                      show Steps p.tables e below (T113.setTop (mkF m 51 #[.val (.int p0), .val (.int ((p0 &&& (2147483647 : Int32)) % (12 : Int32))), .val (.ref w_CHAR), .val (.int (1 : Int32)), .val (.int (1 : Int32)), .val (.int (1 : Int32))] [(.int (1 : Int32)), (.int (1 : Int32))])) _
                      refine XS.icmpNo X113.here hx rfl (hb hby at_51) rfl (teq (by decide : (1 : Int32) = (1 : Int32))).2 ?_
                      show Steps p.tables e below (T113.setTop (mkF m 54 #[.val (.int p0), .val (.int ((p0 &&& (2147483647 : Int32)) % (12 : Int32))), .val (.ref w_CHAR), .val (.int (1 : Int32)), .val (.int (1 : Int32)), .val (.int (1 : Int32))] [])) _
                      refine XS.iload X113.here hx rfl (hb hby at_54) rfl ?_
                      show Steps p.tables e below (T113.setTop (mkF m 56 #[.val (.int p0), .val (.int ((p0 &&& (2147483647 : Int32)) % (12 : Int32))), .val (.ref w_CHAR), .val (.int (1 : Int32)), .val (.int (1 : Int32)), .val (.int (1 : Int32))] [(.int (1 : Int32))])) _
                      refine XS.iload X113.here hx rfl (hb hby at_56) rfl ?_
                      show Steps p.tables e below (T113.setTop (mkF m 58 #[.val (.int p0), .val (.int ((p0 &&& (2147483647 : Int32)) % (12 : Int32))), .val (.ref w_CHAR), .val (.int (1 : Int32)), .val (.int (1 : Int32)), .val (.int (1 : Int32))] [(.int (1 : Int32)), (.int (1 : Int32))])) _
                      refine XS.icmpNo X113.here hx rfl (hb hby at_58) rfl (teq (by decide : (1 : Int32) = (1 : Int32))).2 ?_
                      show Steps p.tables e below (T113.setTop (mkF m 61 #[.val (.int p0), .val (.int ((p0 &&& (2147483647 : Int32)) % (12 : Int32))), .val (.ref w_CHAR), .val (.int (1 : Int32)), .val (.int (1 : Int32)), .val (.int (1 : Int32))] [])) _
                      refine XS.iconst X113.here hx rfl (hb hby at_61) ?_
                      show Steps p.tables e below (T113.setTop (mkF m 62 #[.val (.int p0), .val (.int ((p0 &&& (2147483647 : Int32)) % (12 : Int32))), .val (.ref w_CHAR), .val (.int (1 : Int32)), .val (.int (1 : Int32)), .val (.int (1 : Int32))] [(.int (1 : Int32))])) _
                      refine XS.goto X113.here hx rfl (pc0 := 62) (pc' := 66) rfl (hb hby at_62) (by decide) (by decide) ?_
                      show Steps p.tables e below (T113.setTop (mkF m 66 #[.val (.int p0), .val (.int ((p0 &&& (2147483647 : Int32)) % (12 : Int32))), .val (.ref w_CHAR), .val (.int (1 : Int32)), .val (.int (1 : Int32)), .val (.int (1 : Int32))] [(.int (1 : Int32))])) _
                      exact retN X113 hx (t := .boolean) Bd.returns (by simp) (hb hby at_66) hr
                    · show Q_law Z p0 w_BIT w_BOOLEAN w_UNSIGNED_BYTE w_SHORT w_INT w_LONG w_FLOAT w_DOUBLE w_CHAR w_UNICODE_CHAR w_POINT w_CIRCLE kc l_CHAR v_CHAR cl_CHAR l_POINT v_POINT cl_POINT l_CIRCLE v_CIRCLE cl_CIRCLE h0 n0 _ T113.heap _
                      refine ⟨?_, N113, trivial⟩
                      rw [F_law, if_neg hs_59, if_neg hs_65, if_neg hs_71, if_neg hs_77, if_neg hs_83, if_neg hs_89, if_neg hs_95, if_neg hs_101, if_pos hs_107]
                  · by_cases hs_114 : ((p0 &&& (2147483647 : Int32)) % (12 : Int32)) = (9 : Int32)
                    · have q57 : (F_pick ((p0 &&& (2147483647 : Int32)) % (12 : Int32)) w_BIT w_BOOLEAN w_UNSIGNED_BYTE w_SHORT w_INT w_LONG w_FLOAT w_DOUBLE w_CHAR w_UNICODE_CHAR w_POINT w_CIRCLE) = w_UNICODE_CHAR := by rw [F_pick, if_neg hs_59, if_neg hs_65, if_neg hs_71, if_neg hs_77, if_neg hs_83, if_neg hs_89, if_neg hs_95, if_neg hs_101, if_neg hs_107, if_pos hs_114]
                      rw [q57] at st57
                      have wS115 : ∀ a ∈ Bundle.stringAtoms, a.before a0' Z = true := own_strAtoms (hw _ (List.mem_of_getElem? (i := 9) rfl)) (hw _ (List.mem_of_getElem? (i := 10) rfl)) (hw _ (List.mem_of_getElem? (i := 11) rfl)) (hw _ (List.mem_of_getElem? (i := 12) rfl)) (hw _ (List.mem_of_getElem? (i := 13) rfl)) (hw _ (List.mem_of_getElem? (i := 14) rfl)) (hw _ (List.mem_of_getElem? (i := 15) rfl))
                      obtain ⟨s116, T116, h116, k116, bv116, kv116, X116, e116, E116, hS116, hk116, hZ, hown, Es116, Cs116, Vs116, As116, -, -, -, st116⟩ := ldcSV (s := s) (vm0 := s.vm) (Ts := []) X57 hx hZ hown (hw _ (List.mem_of_getElem? (i := 8) rfl)) wS115 e57 (k0 := 0) ((State.WarmedH.refl s).since 0) (Nat.zero_le _) (fun y hy => Nat.le_trans (by rw [hh]; exact hn0) (N57 y hy)) (fun b cl q => by rw [hUZ]; exact q) (show IB Z s.vm [] by rw [hUZ]; exact IB.start) (by simp) HCH hcw (vs := [.int 42]) (z := 1) ⟨by decide, by decide⟩ (by decide) rfl (g := (mkF m 31 #[.val (.int p0), .val (.int ((p0 &&& (2147483647 : Int32)) % (12 : Int32))), .val (.ref w_UNICODE_CHAR), .val (.int (1 : Int32)), .unset, .unset] [])) rfl (hb hby at_31) (n := 4) (by decide) (by decide) (by decide) (by decide)
                      have EX116 : Ext h0 h116 := E116
                      have Z116 : n0 ≤ h116.size := Nat.le_trans Z0 EX116.1
                      obtain ⟨cq117, kq117, q117a, q117b, q117c⟩ := isOf hZ e116 (E_UNICODE_CHAR.ext EX116)
                      obtain ⟨_, _, ⟨T117, L117, k117, n117⟩, -, X117, ⟨Lc117, hQ117, l117, y117, z117⟩, st117⟩ := X116.virtualBack hx (y := (⟨"com/example/starquarry/starquarry/model/ColumnType", "arraysize", "()Ljava/lang/String;"⟩ : MethodName)) (z := (⟨"com/example/starquarry/starquarry/model/ColumnType", "arraysize", "()Ljava/lang/String;"⟩ : MethodName)) hown (mvT hZ (hw _ (List.mem_of_getElem? (i := 16) rfl))) (mvT hZ (hw _ (List.mem_of_getElem? (i := 17) rfl))) (notFace_of_selects (args := #[]) (mvT hZ (hw _ (List.mem_of_getElem? (i := 19) rfl)))) (mvT hZ (hw _ (List.mem_of_getElem? (i := 19) rfl))) (mvT hZ (hw _ (List.mem_of_getElem? (i := 18) rfl))) (by decide) (backOf (W := 1) (rm_asR l Z a0' hw [] w_UNICODE_CHAR l_CHAR h116 n0 Z116 (FX_UNICODE_CHAR.ext EX116)) hZ (hw _ (List.mem_of_getElem? (i := 20) rfl)) (hw _ (List.mem_of_getElem? (i := 6) rfl)) (by decide) (by decide)) q117a q117c (g := (mkF m 34 #[.val (.int p0), .val (.int ((p0 &&& (2147483647 : Int32)) % (12 : Int32))), .val (.ref w_UNICODE_CHAR), .val (.int (1 : Int32)), .unset, .unset] [(.ref w_UNICODE_CHAR), (.ref s116)])) rfl (by rw [hml]; rfl) (Steps.refl _) (argsL := []) (rest := [(.ref s116)]) (lenOf own_pd2 rfl) rfl (by show 2 * 0 + _ ≤ _; exact Nat.le_of_eq rfl) (hb hby at_34) (fun _ _ => ⟨rfl, e116, (by decide : 2 + 0 ≤ _), (by decide : 8 + 0 ≤ _)⟩)
                      dsimp only [Pt.U, Pt.locs, Pt.cells, Pt.slots] at X117 l117 y117 z117 st117 hQ117
                      subst l117 y117 z117
                      obtain ⟨rfl, N117q, e117⟩ := hQ117
                      have N117 := Fr.app N57 N117q
                      obtain ⟨cl119, Ar119, -, S119, N_119, H119, -⟩ := As116
                      have ta119 : cl119.slots[(0 : Int32).toNatClampNeg]? = some (.int (42 : Int32)) := H119 0 (by rw [S119]; decide)
                      obtain ⟨cq118, kq118, q118a, q118b, q118c⟩ := isOf hZ e117 Es116
                      obtain ⟨_, _, ⟨T118, L118, k118, n118⟩, -, X118, ⟨Lc118, hQ118, l118, y118, z118⟩, st118⟩ := X117.virtualBack hx (y := (⟨"java/lang/String", "equals", "(Ljava/lang/Object;)Z"⟩ : MethodName)) (z := (⟨"java/lang/String", "equals", "(Ljava/lang/Object;)Z"⟩ : MethodName)) hown (mvT hZ (hw _ (List.mem_of_getElem? (i := 23) rfl))) (mvT hZ (hw _ (List.mem_of_getElem? (i := 24) rfl))) (notFace_of_selects (args := #[]) (mvT hZ (hw _ (List.mem_of_getElem? (i := 26) rfl)))) (mvT hZ (hw _ (List.mem_of_getElem? (i := 26) rfl))) (mvT hZ (hw _ (List.mem_of_getElem? (i := 25) rfl))) (by decide) (backOf (W := 0) (rm_seqR l Z a0' hw [] s116 l_CHAR bv116 v_CHAR cl119 cl_CHAR (42 : Int32) (42 : Int32) kc h116 n0 Z116 (EL_CHAR.ext EX116) Cs116 (HC_CHAR.ext EX116) Vs116 (HV_CHAR.ext EX116) Ar119 (Ar_CHAR.ext EX116) S119 hsz_CHAR ta119 hat_CHAR (S_cs.ext EX116) hkc) hZ (hw _ (List.mem_of_getElem? (i := 27) rfl)) (hw _ (List.mem_of_getElem? (i := 9) rfl)) (by decide) (by decide)) q118a q118c (g := (mkF m 37 #[.val (.int p0), .val (.int ((p0 &&& (2147483647 : Int32)) % (12 : Int32))), .val (.ref w_UNICODE_CHAR), .val (.int (1 : Int32)), .unset, .unset] [(.ref l_CHAR), (.ref s116)])) rfl (by rw [hml]; rfl) (Steps.refl _) (argsL := [(.ref l_CHAR)]) (rest := []) (lenOf own_pd3 rfl) rfl (by show 2 * 0 + _ ≤ _; exact Nat.le_of_eq rfl) (hb hby at_37) (fun _ _ => ⟨rfl, e117, (by decide : 2 + 0 ≤ _), (by decide : 8 + 0 ≤ _)⟩)
                      dsimp only [Pt.U, Pt.locs, Pt.cells, Pt.slots] at X118 l118 y118 z118 st118 hQ118
                      subst l118 y118 z118
                      obtain ⟨rfl, N118q, e118⟩ := hQ118
                      have N118 := Fr.app N117 N118q
                      have q118 : (F_seqR (42 : Int32) (42 : Int32)) = (1 : Int32) := by rw [F_seqR, if_pos (by decide : (42 : Int32) = (42 : Int32))]
                      rw [q118] at st118
                      obtain ⟨cq120, kq120, q120a, q120b, q120c⟩ := isOf hZ e118 (E_UNICODE_CHAR.ext EX116)
                      obtain ⟨_, _, ⟨T120, L120, k120, n120⟩, -, X120, ⟨Lc120, hQ120, l120, y120, z120⟩, st120⟩ := X118.virtualBack hx (y := (⟨"com/example/starquarry/starquarry/model/ColumnType", "isText", "()Z"⟩ : MethodName)) (z := (⟨"com/example/starquarry/starquarry/model/ColumnType", "isText", "()Z"⟩ : MethodName)) hown (mvT hZ (hw _ (List.mem_of_getElem? (i := 28) rfl))) (mvT hZ (hw _ (List.mem_of_getElem? (i := 29) rfl))) (notFace_of_selects (args := #[]) (mvT hZ (hw _ (List.mem_of_getElem? (i := 31) rfl)))) (mvT hZ (hw _ (List.mem_of_getElem? (i := 31) rfl))) (mvT hZ (hw _ (List.mem_of_getElem? (i := 30) rfl))) (by decide) (backOf (W := 0) (rm_tx l Z a0' hw [] w_UNICODE_CHAR w_CHAR w_UNICODE_CHAR h116 n0 Z116 (S_CHAR.ext EX116) (S_UNICODE_CHAR.ext EX116)) hZ (hw _ (List.mem_of_getElem? (i := 32) rfl)) (hw _ (List.mem_of_getElem? (i := 6) rfl)) (by decide) (by decide)) q120a q120c (g := (mkF m 43 #[.val (.int p0), .val (.int ((p0 &&& (2147483647 : Int32)) % (12 : Int32))), .val (.ref w_UNICODE_CHAR), .val (.int (1 : Int32)), .val (.int (1 : Int32)), .unset] [(.ref w_UNICODE_CHAR)])) rfl (by rw [hml]; rfl) (Steps.refl _) (argsL := []) (rest := []) (lenOf own_pd4 rfl) rfl (by show 2 * 0 + _ ≤ _; exact Nat.le_of_eq rfl) (hb hby at_43) (fun _ _ => ⟨rfl, e118, (by decide : 2 + 0 ≤ _), (by decide : 8 + 0 ≤ _)⟩)
                      dsimp only [Pt.U, Pt.locs, Pt.cells, Pt.slots] at X120 l120 y120 z120 st120 hQ120
                      subst l120 y120 z120
                      obtain ⟨rfl, N120q, e120⟩ := hQ120
                      have N120 := Fr.app N118 N120q
                      have q120 : (F_tx w_UNICODE_CHAR w_CHAR w_UNICODE_CHAR) = (1 : Int32) := by rw [F_tx, if_neg ne_UNICODE_CHAR_CHAR, if_pos (rfl : w_UNICODE_CHAR = w_UNICODE_CHAR)]
                      rw [q120] at st120
                      obtain ⟨fs, hr, hrun, hended, hE⟩ := X120.leaveW hS116 (by rw [e120]; exact hk116) (v := some (.int (1 : Int32))) (fun h => by rw [Bd.returns] at h; cases h)
                      refine ⟨_, _, pre58 _ ?_, hrun, hended, _, _, rfl, ?_, own_wmono hE (by decide) (by decide)⟩
                      · show Steps p.tables e below (s₁.setTop (mkF m 9 #[.val (.int p0), .val (.int ((p0 &&& (2147483647 : Int32)) % (12 : Int32))), .unset, .unset, .unset, .unset] [(.int ((p0 &&& (2147483647 : Int32)) % (12 : Int32)))])) _
                        refine st57 _ ?_
                        show Steps p.tables e below (T57.setTop (mkF m 12 #[.val (.int p0), .val (.int ((p0 &&& (2147483647 : Int32)) % (12 : Int32))), .unset, .unset, .unset, .unset] [(.ref w_UNICODE_CHAR)])) _
                        refine XS.astoreN X57.here hx rfl (hb hby at_12) rfl rfl (l' := #[.val (.int p0), .val (.int ((p0 &&& (2147483647 : Int32)) % (12 : Int32))), .val (.ref w_UNICODE_CHAR), .unset, .unset, .unset]) rfl ?_
                        show Steps p.tables e below (T57.setTop (mkF m 13 #[.val (.int p0), .val (.int ((p0 &&& (2147483647 : Int32)) % (12 : Int32))), .val (.ref w_UNICODE_CHAR), .unset, .unset, .unset] [])) _
                        refine XS.iloadN X57.here hx rfl (hb hby at_13) rfl ?_
                        show Steps p.tables e below (T57.setTop (mkF m 14 #[.val (.int p0), .val (.int ((p0 &&& (2147483647 : Int32)) % (12 : Int32))), .val (.ref w_UNICODE_CHAR), .unset, .unset, .unset] [(.int ((p0 &&& (2147483647 : Int32)) % (12 : Int32)))])) _
                        refine XS.bipush X57.here hx rfl (hb hby at_14) ?_
                        show Steps p.tables e below (T57.setTop (mkF m 16 #[.val (.int p0), .val (.int ((p0 &&& (2147483647 : Int32)) % (12 : Int32))), .val (.ref w_UNICODE_CHAR), .unset, .unset, .unset] [(.int (8 : Int32)), (.int ((p0 &&& (2147483647 : Int32)) % (12 : Int32)))])) _
                        refine XS.icmpNo X57.here hx rfl (hb hby at_16) rfl (feq hs_107).1 ?_
                        show Steps p.tables e below (T57.setTop (mkF m 19 #[.val (.int p0), .val (.int ((p0 &&& (2147483647 : Int32)) % (12 : Int32))), .val (.ref w_UNICODE_CHAR), .unset, .unset, .unset] [])) _
                        refine XS.iloadN X57.here hx rfl (hb hby at_19) rfl ?_
                        show Steps p.tables e below (T57.setTop (mkF m 20 #[.val (.int p0), .val (.int ((p0 &&& (2147483647 : Int32)) % (12 : Int32))), .val (.ref w_UNICODE_CHAR), .unset, .unset, .unset] [(.int ((p0 &&& (2147483647 : Int32)) % (12 : Int32)))])) _
                        refine XS.bipush X57.here hx rfl (hb hby at_20) ?_
                        show Steps p.tables e below (T57.setTop (mkF m 22 #[.val (.int p0), .val (.int ((p0 &&& (2147483647 : Int32)) % (12 : Int32))), .val (.ref w_UNICODE_CHAR), .unset, .unset, .unset] [(.int (9 : Int32)), (.int ((p0 &&& (2147483647 : Int32)) % (12 : Int32)))])) _
                        refine XS.icmpNo X57.here hx rfl (hb hby at_22) rfl (teq hs_114).2 ?_
                        show Steps p.tables e below (T57.setTop (mkF m 25 #[.val (.int p0), .val (.int ((p0 &&& (2147483647 : Int32)) % (12 : Int32))), .val (.ref w_UNICODE_CHAR), .unset, .unset, .unset] [])) _
                        refine XS.iconst X57.here hx rfl (hb hby at_25) ?_
                        show Steps p.tables e below (T57.setTop (mkF m 26 #[.val (.int p0), .val (.int ((p0 &&& (2147483647 : Int32)) % (12 : Int32))), .val (.ref w_UNICODE_CHAR), .unset, .unset, .unset] [(.int (1 : Int32))])) _
                        refine XS.goto X57.here hx rfl (pc0 := 26) (pc' := 30) rfl (hb hby at_26) (by decide) (by decide) ?_
                        show Steps p.tables e below (T57.setTop (mkF m 30 #[.val (.int p0), .val (.int ((p0 &&& (2147483647 : Int32)) % (12 : Int32))), .val (.ref w_UNICODE_CHAR), .unset, .unset, .unset] [(.int (1 : Int32))])) _
                        refine XS.istoreN X57.here hx rfl (hb hby at_30) rfl (l' := #[.val (.int p0), .val (.int ((p0 &&& (2147483647 : Int32)) % (12 : Int32))), .val (.ref w_UNICODE_CHAR), .val (.int (1 : Int32)), .unset, .unset]) rfl ?_
                        show Steps p.tables e below (T57.setTop (mkF m 31 #[.val (.int p0), .val (.int ((p0 &&& (2147483647 : Int32)) % (12 : Int32))), .val (.ref w_UNICODE_CHAR), .val (.int (1 : Int32)), .unset, .unset] [])) _
                        refine st116 _ ?_
                        show Steps p.tables e below (T116.setTop (mkF m 33 #[.val (.int p0), .val (.int ((p0 &&& (2147483647 : Int32)) % (12 : Int32))), .val (.ref w_UNICODE_CHAR), .val (.int (1 : Int32)), .unset, .unset] [(.ref s116)])) _
                        refine XS.aloadN X116.here hx rfl (hb hby at_33) rfl rfl ?_
                        show Steps p.tables e below (T116.setTop (mkF m 34 #[.val (.int p0), .val (.int ((p0 &&& (2147483647 : Int32)) % (12 : Int32))), .val (.ref w_UNICODE_CHAR), .val (.int (1 : Int32)), .unset, .unset] [(.ref w_UNICODE_CHAR), (.ref s116)])) _
                        refine st117.trans ?_
                        show Steps p.tables e below (T117.setTop (mkF m 37 #[.val (.int p0), .val (.int ((p0 &&& (2147483647 : Int32)) % (12 : Int32))), .val (.ref w_UNICODE_CHAR), .val (.int (1 : Int32)), .unset, .unset] [(.ref l_CHAR), (.ref s116)])) _
                        refine st118.trans ?_
                        show Steps p.tables e below (T118.setTop (mkF m 40 #[.val (.int p0), .val (.int ((p0 &&& (2147483647 : Int32)) % (12 : Int32))), .val (.ref w_UNICODE_CHAR), .val (.int (1 : Int32)), .unset, .unset] [(.int (1 : Int32))])) _
                        refine XS.istore X118.here hx rfl (hb hby at_40) rfl (l' := #[.val (.int p0), .val (.int ((p0 &&& (2147483647 : Int32)) % (12 : Int32))), .val (.ref w_UNICODE_CHAR), .val (.int (1 : Int32)), .val (.int (1 : Int32)), .unset]) rfl ?_
                        show Steps p.tables e below (T118.setTop (mkF m 42 #[.val (.int p0), .val (.int ((p0 &&& (2147483647 : Int32)) % (12 : Int32))), .val (.ref w_UNICODE_CHAR), .val (.int (1 : Int32)), .val (.int (1 : Int32)), .unset] [])) _
                        refine XS.aloadN X118.here hx rfl (hb hby at_42) rfl rfl ?_
                        show Steps p.tables e below (T118.setTop (mkF m 43 #[.val (.int p0), .val (.int ((p0 &&& (2147483647 : Int32)) % (12 : Int32))), .val (.ref w_UNICODE_CHAR), .val (.int (1 : Int32)), .val (.int (1 : Int32)), .unset] [(.ref w_UNICODE_CHAR)])) _
                        refine st120.trans ?_
                        show Steps p.tables e below (T120.setTop (mkF m 46 #[.val (.int p0), .val (.int ((p0 &&& (2147483647 : Int32)) % (12 : Int32))), .val (.ref w_UNICODE_CHAR), .val (.int (1 : Int32)), .val (.int (1 : Int32)), .unset] [(.int (1 : Int32))])) _
                        refine XS.istore X120.here hx rfl (hb hby at_46) rfl (l' := #[.val (.int p0), .val (.int ((p0 &&& (2147483647 : Int32)) % (12 : Int32))), .val (.ref w_UNICODE_CHAR), .val (.int (1 : Int32)), .val (.int (1 : Int32)), .val (.int (1 : Int32))]) rfl ?_
                        show Steps p.tables e below (T120.setTop (mkF m 48 #[.val (.int p0), .val (.int ((p0 &&& (2147483647 : Int32)) % (12 : Int32))), .val (.ref w_UNICODE_CHAR), .val (.int (1 : Int32)), .val (.int (1 : Int32)), .val (.int (1 : Int32))] [])) _
                        refine XS.iload X120.here hx rfl (hb hby at_48) rfl ?_
                        show Steps p.tables e below (T120.setTop (mkF m 50 #[.val (.int p0), .val (.int ((p0 &&& (2147483647 : Int32)) % (12 : Int32))), .val (.ref w_UNICODE_CHAR), .val (.int (1 : Int32)), .val (.int (1 : Int32)), .val (.int (1 : Int32))] [(.int (1 : Int32))])) _
                        refine XS.iloadN X120.here hx rfl (hb hby at_50) rfl ?_
                        show Steps p.tables e below (T120.setTop (mkF m 51 #[.val (.int p0), .val (.int ((p0 &&& (2147483647 : Int32)) % (12 : Int32))), .val (.ref w_UNICODE_CHAR), .val (.int (1 : Int32)), .val (.int (1 : Int32)), .val (.int (1 : Int32))] [(.int (1 : Int32)), (.int (1 : Int32))])) _
                        refine XS.icmpNo X120.here hx rfl (hb hby at_51) rfl (teq (by decide : (1 : Int32) = (1 : Int32))).2 ?_
                        show Steps p.tables e below (T120.setTop (mkF m 54 #[.val (.int p0), .val (.int ((p0 &&& (2147483647 : Int32)) % (12 : Int32))), .val (.ref w_UNICODE_CHAR), .val (.int (1 : Int32)), .val (.int (1 : Int32)), .val (.int (1 : Int32))] [])) _
                        refine XS.iload X120.here hx rfl (hb hby at_54) rfl ?_
                        show Steps p.tables e below (T120.setTop (mkF m 56 #[.val (.int p0), .val (.int ((p0 &&& (2147483647 : Int32)) % (12 : Int32))), .val (.ref w_UNICODE_CHAR), .val (.int (1 : Int32)), .val (.int (1 : Int32)), .val (.int (1 : Int32))] [(.int (1 : Int32))])) _
                        refine XS.iload X120.here hx rfl (hb hby at_56) rfl ?_
                        show Steps p.tables e below (T120.setTop (mkF m 58 #[.val (.int p0), .val (.int ((p0 &&& (2147483647 : Int32)) % (12 : Int32))), .val (.ref w_UNICODE_CHAR), .val (.int (1 : Int32)), .val (.int (1 : Int32)), .val (.int (1 : Int32))] [(.int (1 : Int32)), (.int (1 : Int32))])) _
                        refine XS.icmpNo X120.here hx rfl (hb hby at_58) rfl (teq (by decide : (1 : Int32) = (1 : Int32))).2 ?_
                        show Steps p.tables e below (T120.setTop (mkF m 61 #[.val (.int p0), .val (.int ((p0 &&& (2147483647 : Int32)) % (12 : Int32))), .val (.ref w_UNICODE_CHAR), .val (.int (1 : Int32)), .val (.int (1 : Int32)), .val (.int (1 : Int32))] [])) _
                        refine XS.iconst X120.here hx rfl (hb hby at_61) ?_
                        show Steps p.tables e below (T120.setTop (mkF m 62 #[.val (.int p0), .val (.int ((p0 &&& (2147483647 : Int32)) % (12 : Int32))), .val (.ref w_UNICODE_CHAR), .val (.int (1 : Int32)), .val (.int (1 : Int32)), .val (.int (1 : Int32))] [(.int (1 : Int32))])) _
                        refine XS.goto X120.here hx rfl (pc0 := 62) (pc' := 66) rfl (hb hby at_62) (by decide) (by decide) ?_
                        show Steps p.tables e below (T120.setTop (mkF m 66 #[.val (.int p0), .val (.int ((p0 &&& (2147483647 : Int32)) % (12 : Int32))), .val (.ref w_UNICODE_CHAR), .val (.int (1 : Int32)), .val (.int (1 : Int32)), .val (.int (1 : Int32))] [(.int (1 : Int32))])) _
                        exact retN X120 hx (t := .boolean) Bd.returns (by simp) (hb hby at_66) hr
                      · show Q_law Z p0 w_BIT w_BOOLEAN w_UNSIGNED_BYTE w_SHORT w_INT w_LONG w_FLOAT w_DOUBLE w_CHAR w_UNICODE_CHAR w_POINT w_CIRCLE kc l_CHAR v_CHAR cl_CHAR l_POINT v_POINT cl_POINT l_CIRCLE v_CIRCLE cl_CIRCLE h0 n0 _ T120.heap _
                        refine ⟨?_, N120, trivial⟩
                        rw [F_law, if_neg hs_59, if_neg hs_65, if_neg hs_71, if_neg hs_77, if_neg hs_83, if_neg hs_89, if_neg hs_95, if_neg hs_101, if_neg hs_107, if_pos hs_114]
                    · by_cases hs_121 : ((p0 &&& (2147483647 : Int32)) % (12 : Int32)) = (10 : Int32)
                      · have q57 : (F_pick ((p0 &&& (2147483647 : Int32)) % (12 : Int32)) w_BIT w_BOOLEAN w_UNSIGNED_BYTE w_SHORT w_INT w_LONG w_FLOAT w_DOUBLE w_CHAR w_UNICODE_CHAR w_POINT w_CIRCLE) = w_POINT := by rw [F_pick, if_neg hs_59, if_neg hs_65, if_neg hs_71, if_neg hs_77, if_neg hs_83, if_neg hs_89, if_neg hs_95, if_neg hs_101, if_neg hs_107, if_neg hs_114, if_pos hs_121]
                        rw [q57] at st57
                        have wS122 : ∀ a ∈ Bundle.stringAtoms, a.before a0' Z = true := own_strAtoms (hw _ (List.mem_of_getElem? (i := 9) rfl)) (hw _ (List.mem_of_getElem? (i := 10) rfl)) (hw _ (List.mem_of_getElem? (i := 11) rfl)) (hw _ (List.mem_of_getElem? (i := 12) rfl)) (hw _ (List.mem_of_getElem? (i := 13) rfl)) (hw _ (List.mem_of_getElem? (i := 14) rfl)) (hw _ (List.mem_of_getElem? (i := 15) rfl))
                        obtain ⟨s123, T123, h123, k123, bv123, kv123, X123, e123, E123, hS123, hk123, hZ, hown, Es123, Cs123, Vs123, As123, -, -, -, st123⟩ := ldcSV (s := s) (vm0 := s.vm) (Ts := []) X57 hx hZ hown (hw _ (List.mem_of_getElem? (i := 8) rfl)) wS122 e57 (k0 := 0) ((State.WarmedH.refl s).since 0) (Nat.zero_le _) (fun y hy => Nat.le_trans (by rw [hh]; exact hn0) (N57 y hy)) (fun b cl q => by rw [hUZ]; exact q) (show IB Z s.vm [] by rw [hUZ]; exact IB.start) (by simp) HCH hcw (vs := [.int 42]) (z := 1) ⟨by decide, by decide⟩ (by decide) rfl (g := (mkF m 31 #[.val (.int p0), .val (.int ((p0 &&& (2147483647 : Int32)) % (12 : Int32))), .val (.ref w_POINT), .val (.int (0 : Int32)), .unset, .unset] [])) rfl (hb hby at_31) (n := 4) (by decide) (by decide) (by decide) (by decide)
                        have EX123 : Ext h0 h123 := E123
                        have Z123 : n0 ≤ h123.size := Nat.le_trans Z0 EX123.1
                        obtain ⟨cq124, kq124, q124a, q124b, q124c⟩ := isOf hZ e123 (E_POINT.ext EX123)
                        obtain ⟨_, _, ⟨T124, L124, k124, n124⟩, -, X124, ⟨Lc124, hQ124, l124, y124, z124⟩, st124⟩ := X123.virtualBack hx (y := (⟨"com/example/starquarry/starquarry/model/ColumnType", "arraysize", "()Ljava/lang/String;"⟩ : MethodName)) (z := (⟨"com/example/starquarry/starquarry/model/ColumnType", "arraysize", "()Ljava/lang/String;"⟩ : MethodName)) hown (mvT hZ (hw _ (List.mem_of_getElem? (i := 16) rfl))) (mvT hZ (hw _ (List.mem_of_getElem? (i := 17) rfl))) (notFace_of_selects (args := #[]) (mvT hZ (hw _ (List.mem_of_getElem? (i := 19) rfl)))) (mvT hZ (hw _ (List.mem_of_getElem? (i := 19) rfl))) (mvT hZ (hw _ (List.mem_of_getElem? (i := 18) rfl))) (by decide) (backOf (W := 1) (rm_asR l Z a0' hw [] w_POINT l_POINT h123 n0 Z123 (HL_POINT.ext EX123)) hZ (hw _ (List.mem_of_getElem? (i := 20) rfl)) (hw _ (List.mem_of_getElem? (i := 6) rfl)) (by decide) (by decide)) q124a q124c (g := (mkF m 34 #[.val (.int p0), .val (.int ((p0 &&& (2147483647 : Int32)) % (12 : Int32))), .val (.ref w_POINT), .val (.int (0 : Int32)), .unset, .unset] [(.ref w_POINT), (.ref s123)])) rfl (by rw [hml]; rfl) (Steps.refl _) (argsL := []) (rest := [(.ref s123)]) (lenOf own_pd2 rfl) rfl (by show 2 * 0 + _ ≤ _; exact Nat.le_of_eq rfl) (hb hby at_34) (fun _ _ => ⟨rfl, e123, (by decide : 2 + 0 ≤ _), (by decide : 8 + 0 ≤ _)⟩)
                        dsimp only [Pt.U, Pt.locs, Pt.cells, Pt.slots] at X124 l124 y124 z124 st124 hQ124
                        subst l124 y124 z124
                        obtain ⟨rfl, N124q, e124⟩ := hQ124
                        have N124 := Fr.app N57 N124q
                        obtain ⟨cl126, Ar126, -, S126, N_126, H126, -⟩ := As123
                        have ta126 : cl126.slots[(0 : Int32).toNatClampNeg]? = some (.int (42 : Int32)) := H126 0 (by rw [S126]; decide)
                        obtain ⟨cq125, kq125, q125a, q125b, q125c⟩ := isOf hZ e124 Es123
                        obtain ⟨_, _, ⟨T125, L125, k125, n125⟩, -, X125, ⟨Lc125, hQ125, l125, y125, z125⟩, st125⟩ := X124.virtualBack hx (y := (⟨"java/lang/String", "equals", "(Ljava/lang/Object;)Z"⟩ : MethodName)) (z := (⟨"java/lang/String", "equals", "(Ljava/lang/Object;)Z"⟩ : MethodName)) hown (mvT hZ (hw _ (List.mem_of_getElem? (i := 23) rfl))) (mvT hZ (hw _ (List.mem_of_getElem? (i := 24) rfl))) (notFace_of_selects (args := #[]) (mvT hZ (hw _ (List.mem_of_getElem? (i := 26) rfl)))) (mvT hZ (hw _ (List.mem_of_getElem? (i := 26) rfl))) (mvT hZ (hw _ (List.mem_of_getElem? (i := 25) rfl))) (by decide) (backOf (W := 0) (rm_seqR l Z a0' hw [] s123 l_POINT bv123 v_POINT cl126 cl_POINT (42 : Int32) (50 : Int32) kc h123 n0 Z123 (EL_POINT.ext EX123) Cs123 (HC_POINT.ext EX123) Vs123 (HV_POINT.ext EX123) Ar126 (Ar_POINT.ext EX123) S126 hsz_POINT ta126 hat_POINT (S_cs.ext EX123) hkc) hZ (hw _ (List.mem_of_getElem? (i := 27) rfl)) (hw _ (List.mem_of_getElem? (i := 9) rfl)) (by decide) (by decide)) q125a q125c (g := (mkF m 37 #[.val (.int p0), .val (.int ((p0 &&& (2147483647 : Int32)) % (12 : Int32))), .val (.ref w_POINT), .val (.int (0 : Int32)), .unset, .unset] [(.ref l_POINT), (.ref s123)])) rfl (by rw [hml]; rfl) (Steps.refl _) (argsL := [(.ref l_POINT)]) (rest := []) (lenOf own_pd3 rfl) rfl (by show 2 * 0 + _ ≤ _; exact Nat.le_of_eq rfl) (hb hby at_37) (fun _ _ => ⟨rfl, e124, (by decide : 2 + 0 ≤ _), (by decide : 8 + 0 ≤ _)⟩)
                        dsimp only [Pt.U, Pt.locs, Pt.cells, Pt.slots] at X125 l125 y125 z125 st125 hQ125
                        subst l125 y125 z125
                        obtain ⟨rfl, N125q, e125⟩ := hQ125
                        have N125 := Fr.app N124 N125q
                        have q125 : (F_seqR (42 : Int32) (50 : Int32)) = (0 : Int32) := by rw [F_seqR, if_neg (by decide : ¬ ((42 : Int32) = (50 : Int32)))]
                        rw [q125] at st125
                        obtain ⟨cq127, kq127, q127a, q127b, q127c⟩ := isOf hZ e125 (E_POINT.ext EX123)
                        obtain ⟨_, _, ⟨T127, L127, k127, n127⟩, -, X127, ⟨Lc127, hQ127, l127, y127, z127⟩, st127⟩ := X125.virtualBack hx (y := (⟨"com/example/starquarry/starquarry/model/ColumnType", "isText", "()Z"⟩ : MethodName)) (z := (⟨"com/example/starquarry/starquarry/model/ColumnType", "isText", "()Z"⟩ : MethodName)) hown (mvT hZ (hw _ (List.mem_of_getElem? (i := 28) rfl))) (mvT hZ (hw _ (List.mem_of_getElem? (i := 29) rfl))) (notFace_of_selects (args := #[]) (mvT hZ (hw _ (List.mem_of_getElem? (i := 31) rfl)))) (mvT hZ (hw _ (List.mem_of_getElem? (i := 31) rfl))) (mvT hZ (hw _ (List.mem_of_getElem? (i := 30) rfl))) (by decide) (backOf (W := 0) (rm_tx l Z a0' hw [] w_POINT w_CHAR w_UNICODE_CHAR h123 n0 Z123 (S_CHAR.ext EX123) (S_UNICODE_CHAR.ext EX123)) hZ (hw _ (List.mem_of_getElem? (i := 32) rfl)) (hw _ (List.mem_of_getElem? (i := 6) rfl)) (by decide) (by decide)) q127a q127c (g := (mkF m 43 #[.val (.int p0), .val (.int ((p0 &&& (2147483647 : Int32)) % (12 : Int32))), .val (.ref w_POINT), .val (.int (0 : Int32)), .val (.int (0 : Int32)), .unset] [(.ref w_POINT)])) rfl (by rw [hml]; rfl) (Steps.refl _) (argsL := []) (rest := []) (lenOf own_pd4 rfl) rfl (by show 2 * 0 + _ ≤ _; exact Nat.le_of_eq rfl) (hb hby at_43) (fun _ _ => ⟨rfl, e125, (by decide : 2 + 0 ≤ _), (by decide : 8 + 0 ≤ _)⟩)
                        dsimp only [Pt.U, Pt.locs, Pt.cells, Pt.slots] at X127 l127 y127 z127 st127 hQ127
                        subst l127 y127 z127
                        obtain ⟨rfl, N127q, e127⟩ := hQ127
                        have N127 := Fr.app N125 N127q
                        have q127 : (F_tx w_POINT w_CHAR w_UNICODE_CHAR) = (0 : Int32) := by rw [F_tx, if_neg ne_POINT_CHAR, if_neg ne_POINT_UNICODE_CHAR]
                        rw [q127] at st127
                        obtain ⟨fs, hr, hrun, hended, hE⟩ := X127.leaveW hS123 (by rw [e127]; exact hk123) (v := some (.int (1 : Int32))) (fun h => by rw [Bd.returns] at h; cases h)
                        refine ⟨_, _, pre58 _ ?_, hrun, hended, _, _, rfl, ?_, own_wmono hE (by decide) (by decide)⟩
                        · show Steps p.tables e below (s₁.setTop (mkF m 9 #[.val (.int p0), .val (.int ((p0 &&& (2147483647 : Int32)) % (12 : Int32))), .unset, .unset, .unset, .unset] [(.int ((p0 &&& (2147483647 : Int32)) % (12 : Int32)))])) _
                          refine st57 _ ?_
                          show Steps p.tables e below (T57.setTop (mkF m 12 #[.val (.int p0), .val (.int ((p0 &&& (2147483647 : Int32)) % (12 : Int32))), .unset, .unset, .unset, .unset] [(.ref w_POINT)])) _
                          refine XS.astoreN X57.here hx rfl (hb hby at_12) rfl rfl (l' := #[.val (.int p0), .val (.int ((p0 &&& (2147483647 : Int32)) % (12 : Int32))), .val (.ref w_POINT), .unset, .unset, .unset]) rfl ?_
                          show Steps p.tables e below (T57.setTop (mkF m 13 #[.val (.int p0), .val (.int ((p0 &&& (2147483647 : Int32)) % (12 : Int32))), .val (.ref w_POINT), .unset, .unset, .unset] [])) _
                          refine XS.iloadN X57.here hx rfl (hb hby at_13) rfl ?_
                          show Steps p.tables e below (T57.setTop (mkF m 14 #[.val (.int p0), .val (.int ((p0 &&& (2147483647 : Int32)) % (12 : Int32))), .val (.ref w_POINT), .unset, .unset, .unset] [(.int ((p0 &&& (2147483647 : Int32)) % (12 : Int32)))])) _
                          refine XS.bipush X57.here hx rfl (hb hby at_14) ?_
                          show Steps p.tables e below (T57.setTop (mkF m 16 #[.val (.int p0), .val (.int ((p0 &&& (2147483647 : Int32)) % (12 : Int32))), .val (.ref w_POINT), .unset, .unset, .unset] [(.int (8 : Int32)), (.int ((p0 &&& (2147483647 : Int32)) % (12 : Int32)))])) _
                          refine XS.icmpNo X57.here hx rfl (hb hby at_16) rfl (feq hs_107).1 ?_
                          show Steps p.tables e below (T57.setTop (mkF m 19 #[.val (.int p0), .val (.int ((p0 &&& (2147483647 : Int32)) % (12 : Int32))), .val (.ref w_POINT), .unset, .unset, .unset] [])) _
                          refine XS.iloadN X57.here hx rfl (hb hby at_19) rfl ?_
                          show Steps p.tables e below (T57.setTop (mkF m 20 #[.val (.int p0), .val (.int ((p0 &&& (2147483647 : Int32)) % (12 : Int32))), .val (.ref w_POINT), .unset, .unset, .unset] [(.int ((p0 &&& (2147483647 : Int32)) % (12 : Int32)))])) _
                          refine XS.bipush X57.here hx rfl (hb hby at_20) ?_
                          show Steps p.tables e below (T57.setTop (mkF m 22 #[.val (.int p0), .val (.int ((p0 &&& (2147483647 : Int32)) % (12 : Int32))), .val (.ref w_POINT), .unset, .unset, .unset] [(.int (9 : Int32)), (.int ((p0 &&& (2147483647 : Int32)) % (12 : Int32)))])) _
                          refine XS.icmpYes X57.here hx rfl (pc0 := 22) (pc' := 29) rfl (hb hby at_22) rfl (feq hs_114).2 (by decide) (by decide) ?_
                          show Steps p.tables e below (T57.setTop (mkF m 29 #[.val (.int p0), .val (.int ((p0 &&& (2147483647 : Int32)) % (12 : Int32))), .val (.ref w_POINT), .unset, .unset, .unset] [])) _
                          refine XS.iconst X57.here hx rfl (hb hby at_29) ?_
                          show Steps p.tables e below (T57.setTop (mkF m 30 #[.val (.int p0), .val (.int ((p0 &&& (2147483647 : Int32)) % (12 : Int32))), .val (.ref w_POINT), .unset, .unset, .unset] [(.int (0 : Int32))])) _
                          refine XS.istoreN X57.here hx rfl (hb hby at_30) rfl (l' := #[.val (.int p0), .val (.int ((p0 &&& (2147483647 : Int32)) % (12 : Int32))), .val (.ref w_POINT), .val (.int (0 : Int32)), .unset, .unset]) rfl ?_
                          show Steps p.tables e below (T57.setTop (mkF m 31 #[.val (.int p0), .val (.int ((p0 &&& (2147483647 : Int32)) % (12 : Int32))), .val (.ref w_POINT), .val (.int (0 : Int32)), .unset, .unset] [])) _
                          refine st123 _ ?_
                          show Steps p.tables e below (T123.setTop (mkF m 33 #[.val (.int p0), .val (.int ((p0 &&& (2147483647 : Int32)) % (12 : Int32))), .val (.ref w_POINT), .val (.int (0 : Int32)), .unset, .unset] [(.ref s123)])) _
                          refine XS.aloadN X123.here hx rfl (hb hby at_33) rfl rfl ?_
                          show Steps p.tables e below (T123.setTop (mkF m 34 #[.val (.int p0), .val (.int ((p0 &&& (2147483647 : Int32)) % (12 : Int32))), .val (.ref w_POINT), .val (.int (0 : Int32)), .unset, .unset] [(.ref w_POINT), (.ref s123)])) _
                          refine st124.trans ?_
                          show Steps p.tables e below (T124.setTop (mkF m 37 #[.val (.int p0), .val (.int ((p0 &&& (2147483647 : Int32)) % (12 : Int32))), .val (.ref w_POINT), .val (.int (0 : Int32)), .unset, .unset] [(.ref l_POINT), (.ref s123)])) _
                          refine st125.trans ?_
                          show Steps p.tables e below (T125.setTop (mkF m 40 #[.val (.int p0), .val (.int ((p0 &&& (2147483647 : Int32)) % (12 : Int32))), .val (.ref w_POINT), .val (.int (0 : Int32)), .unset, .unset] [(.int (0 : Int32))])) _
                          refine XS.istore X125.here hx rfl (hb hby at_40) rfl (l' := #[.val (.int p0), .val (.int ((p0 &&& (2147483647 : Int32)) % (12 : Int32))), .val (.ref w_POINT), .val (.int (0 : Int32)), .val (.int (0 : Int32)), .unset]) rfl ?_
                          show Steps p.tables e below (T125.setTop (mkF m 42 #[.val (.int p0), .val (.int ((p0 &&& (2147483647 : Int32)) % (12 : Int32))), .val (.ref w_POINT), .val (.int (0 : Int32)), .val (.int (0 : Int32)), .unset] [])) _
                          refine XS.aloadN X125.here hx rfl (hb hby at_42) rfl rfl ?_
                          show Steps p.tables e below (T125.setTop (mkF m 43 #[.val (.int p0), .val (.int ((p0 &&& (2147483647 : Int32)) % (12 : Int32))), .val (.ref w_POINT), .val (.int (0 : Int32)), .val (.int (0 : Int32)), .unset] [(.ref w_POINT)])) _
                          refine st127.trans ?_
                          show Steps p.tables e below (T127.setTop (mkF m 46 #[.val (.int p0), .val (.int ((p0 &&& (2147483647 : Int32)) % (12 : Int32))), .val (.ref w_POINT), .val (.int (0 : Int32)), .val (.int (0 : Int32)), .unset] [(.int (0 : Int32))])) _
                          refine XS.istore X127.here hx rfl (hb hby at_46) rfl (l' := #[.val (.int p0), .val (.int ((p0 &&& (2147483647 : Int32)) % (12 : Int32))), .val (.ref w_POINT), .val (.int (0 : Int32)), .val (.int (0 : Int32)), .val (.int (0 : Int32))]) rfl ?_
                          show Steps p.tables e below (T127.setTop (mkF m 48 #[.val (.int p0), .val (.int ((p0 &&& (2147483647 : Int32)) % (12 : Int32))), .val (.ref w_POINT), .val (.int (0 : Int32)), .val (.int (0 : Int32)), .val (.int (0 : Int32))] [])) _
                          refine XS.iload X127.here hx rfl (hb hby at_48) rfl ?_
                          show Steps p.tables e below (T127.setTop (mkF m 50 #[.val (.int p0), .val (.int ((p0 &&& (2147483647 : Int32)) % (12 : Int32))), .val (.ref w_POINT), .val (.int (0 : Int32)), .val (.int (0 : Int32)), .val (.int (0 : Int32))] [(.int (0 : Int32))])) _
                          refine XS.iloadN X127.here hx rfl (hb hby at_50) rfl ?_
                          show Steps p.tables e below (T127.setTop (mkF m 51 #[.val (.int p0), .val (.int ((p0 &&& (2147483647 : Int32)) % (12 : Int32))), .val (.ref w_POINT), .val (.int (0 : Int32)), .val (.int (0 : Int32)), .val (.int (0 : Int32))] [(.int (0 : Int32)), (.int (0 : Int32))])) _
                          refine XS.icmpNo X127.here hx rfl (hb hby at_51) rfl (teq (by decide : (0 : Int32) = (0 : Int32))).2 ?_
                          show Steps p.tables e below (T127.setTop (mkF m 54 #[.val (.int p0), .val (.int ((p0 &&& (2147483647 : Int32)) % (12 : Int32))), .val (.ref w_POINT), .val (.int (0 : Int32)), .val (.int (0 : Int32)), .val (.int (0 : Int32))] [])) _
                          refine XS.iload X127.here hx rfl (hb hby at_54) rfl ?_
                          show Steps p.tables e below (T127.setTop (mkF m 56 #[.val (.int p0), .val (.int ((p0 &&& (2147483647 : Int32)) % (12 : Int32))), .val (.ref w_POINT), .val (.int (0 : Int32)), .val (.int (0 : Int32)), .val (.int (0 : Int32))] [(.int (0 : Int32))])) _
                          refine XS.iload X127.here hx rfl (hb hby at_56) rfl ?_
                          show Steps p.tables e below (T127.setTop (mkF m 58 #[.val (.int p0), .val (.int ((p0 &&& (2147483647 : Int32)) % (12 : Int32))), .val (.ref w_POINT), .val (.int (0 : Int32)), .val (.int (0 : Int32)), .val (.int (0 : Int32))] [(.int (0 : Int32)), (.int (0 : Int32))])) _
                          refine XS.icmpNo X127.here hx rfl (hb hby at_58) rfl (teq (by decide : (0 : Int32) = (0 : Int32))).2 ?_
                          show Steps p.tables e below (T127.setTop (mkF m 61 #[.val (.int p0), .val (.int ((p0 &&& (2147483647 : Int32)) % (12 : Int32))), .val (.ref w_POINT), .val (.int (0 : Int32)), .val (.int (0 : Int32)), .val (.int (0 : Int32))] [])) _
                          refine XS.iconst X127.here hx rfl (hb hby at_61) ?_
                          show Steps p.tables e below (T127.setTop (mkF m 62 #[.val (.int p0), .val (.int ((p0 &&& (2147483647 : Int32)) % (12 : Int32))), .val (.ref w_POINT), .val (.int (0 : Int32)), .val (.int (0 : Int32)), .val (.int (0 : Int32))] [(.int (1 : Int32))])) _
                          refine XS.goto X127.here hx rfl (pc0 := 62) (pc' := 66) rfl (hb hby at_62) (by decide) (by decide) ?_
                          show Steps p.tables e below (T127.setTop (mkF m 66 #[.val (.int p0), .val (.int ((p0 &&& (2147483647 : Int32)) % (12 : Int32))), .val (.ref w_POINT), .val (.int (0 : Int32)), .val (.int (0 : Int32)), .val (.int (0 : Int32))] [(.int (1 : Int32))])) _
                          exact retN X127 hx (t := .boolean) Bd.returns (by simp) (hb hby at_66) hr
                        · show Q_law Z p0 w_BIT w_BOOLEAN w_UNSIGNED_BYTE w_SHORT w_INT w_LONG w_FLOAT w_DOUBLE w_CHAR w_UNICODE_CHAR w_POINT w_CIRCLE kc l_CHAR v_CHAR cl_CHAR l_POINT v_POINT cl_POINT l_CIRCLE v_CIRCLE cl_CIRCLE h0 n0 _ T127.heap _
                          refine ⟨?_, N127, trivial⟩
                          rw [F_law, if_neg hs_59, if_neg hs_65, if_neg hs_71, if_neg hs_77, if_neg hs_83, if_neg hs_89, if_neg hs_95, if_neg hs_101, if_neg hs_107, if_neg hs_114, if_pos hs_121]
                      · have q57 : (F_pick ((p0 &&& (2147483647 : Int32)) % (12 : Int32)) w_BIT w_BOOLEAN w_UNSIGNED_BYTE w_SHORT w_INT w_LONG w_FLOAT w_DOUBLE w_CHAR w_UNICODE_CHAR w_POINT w_CIRCLE) = w_CIRCLE := by rw [F_pick, if_neg hs_59, if_neg hs_65, if_neg hs_71, if_neg hs_77, if_neg hs_83, if_neg hs_89, if_neg hs_95, if_neg hs_101, if_neg hs_107, if_neg hs_114, if_neg hs_121]
                        rw [q57] at st57
                        have wS128 : ∀ a ∈ Bundle.stringAtoms, a.before a0' Z = true := own_strAtoms (hw _ (List.mem_of_getElem? (i := 9) rfl)) (hw _ (List.mem_of_getElem? (i := 10) rfl)) (hw _ (List.mem_of_getElem? (i := 11) rfl)) (hw _ (List.mem_of_getElem? (i := 12) rfl)) (hw _ (List.mem_of_getElem? (i := 13) rfl)) (hw _ (List.mem_of_getElem? (i := 14) rfl)) (hw _ (List.mem_of_getElem? (i := 15) rfl))
                        obtain ⟨s129, T129, h129, k129, bv129, kv129, X129, e129, E129, hS129, hk129, hZ, hown, Es129, Cs129, Vs129, As129, -, -, -, st129⟩ := ldcSV (s := s) (vm0 := s.vm) (Ts := []) X57 hx hZ hown (hw _ (List.mem_of_getElem? (i := 8) rfl)) wS128 e57 (k0 := 0) ((State.WarmedH.refl s).since 0) (Nat.zero_le _) (fun y hy => Nat.le_trans (by rw [hh]; exact hn0) (N57 y hy)) (fun b cl q => by rw [hUZ]; exact q) (show IB Z s.vm [] by rw [hUZ]; exact IB.start) (by simp) HCH hcw (vs := [.int 42]) (z := 1) ⟨by decide, by decide⟩ (by decide) rfl (g := (mkF m 31 #[.val (.int p0), .val (.int ((p0 &&& (2147483647 : Int32)) % (12 : Int32))), .val (.ref w_CIRCLE), .val (.int (0 : Int32)), .unset, .unset] [])) rfl (hb hby at_31) (n := 4) (by decide) (by decide) (by decide) (by decide)
                        have EX129 : Ext h0 h129 := E129
                        have Z129 : n0 ≤ h129.size := Nat.le_trans Z0 EX129.1
                        obtain ⟨cq130, kq130, q130a, q130b, q130c⟩ := isOf hZ e129 (E_CIRCLE.ext EX129)
                        obtain ⟨_, _, ⟨T130, L130, k130, n130⟩, -, X130, ⟨Lc130, hQ130, l130, y130, z130⟩, st130⟩ := X129.virtualBack hx (y := (⟨"com/example/starquarry/starquarry/model/ColumnType", "arraysize", "()Ljava/lang/String;"⟩ : MethodName)) (z := (⟨"com/example/starquarry/starquarry/model/ColumnType", "arraysize", "()Ljava/lang/String;"⟩ : MethodName)) hown (mvT hZ (hw _ (List.mem_of_getElem? (i := 16) rfl))) (mvT hZ (hw _ (List.mem_of_getElem? (i := 17) rfl))) (notFace_of_selects (args := #[]) (mvT hZ (hw _ (List.mem_of_getElem? (i := 19) rfl)))) (mvT hZ (hw _ (List.mem_of_getElem? (i := 19) rfl))) (mvT hZ (hw _ (List.mem_of_getElem? (i := 18) rfl))) (by decide) (backOf (W := 1) (rm_asR l Z a0' hw [] w_CIRCLE l_CIRCLE h129 n0 Z129 (HL_CIRCLE.ext EX129)) hZ (hw _ (List.mem_of_getElem? (i := 20) rfl)) (hw _ (List.mem_of_getElem? (i := 6) rfl)) (by decide) (by decide)) q130a q130c (g := (mkF m 34 #[.val (.int p0), .val (.int ((p0 &&& (2147483647 : Int32)) % (12 : Int32))), .val (.ref w_CIRCLE), .val (.int (0 : Int32)), .unset, .unset] [(.ref w_CIRCLE), (.ref s129)])) rfl (by rw [hml]; rfl) (Steps.refl _) (argsL := []) (rest := [(.ref s129)]) (lenOf own_pd2 rfl) rfl (by show 2 * 0 + _ ≤ _; exact Nat.le_of_eq rfl) (hb hby at_34) (fun _ _ => ⟨rfl, e129, (by decide : 2 + 0 ≤ _), (by decide : 8 + 0 ≤ _)⟩)
                        dsimp only [Pt.U, Pt.locs, Pt.cells, Pt.slots] at X130 l130 y130 z130 st130 hQ130
                        subst l130 y130 z130
                        obtain ⟨rfl, N130q, e130⟩ := hQ130
                        have N130 := Fr.app N57 N130q
                        obtain ⟨cl132, Ar132, -, S132, N_132, H132, -⟩ := As129
                        have ta132 : cl132.slots[(0 : Int32).toNatClampNeg]? = some (.int (42 : Int32)) := H132 0 (by rw [S132]; decide)
                        obtain ⟨cq131, kq131, q131a, q131b, q131c⟩ := isOf hZ e130 Es129
                        obtain ⟨_, _, ⟨T131, L131, k131, n131⟩, -, X131, ⟨Lc131, hQ131, l131, y131, z131⟩, st131⟩ := X130.virtualBack hx (y := (⟨"java/lang/String", "equals", "(Ljava/lang/Object;)Z"⟩ : MethodName)) (z := (⟨"java/lang/String", "equals", "(Ljava/lang/Object;)Z"⟩ : MethodName)) hown (mvT hZ (hw _ (List.mem_of_getElem? (i := 23) rfl))) (mvT hZ (hw _ (List.mem_of_getElem? (i := 24) rfl))) (notFace_of_selects (args := #[]) (mvT hZ (hw _ (List.mem_of_getElem? (i := 26) rfl)))) (mvT hZ (hw _ (List.mem_of_getElem? (i := 26) rfl))) (mvT hZ (hw _ (List.mem_of_getElem? (i := 25) rfl))) (by decide) (backOf (W := 0) (rm_seqR l Z a0' hw [] s129 l_CIRCLE bv129 v_CIRCLE cl132 cl_CIRCLE (42 : Int32) (51 : Int32) kc h129 n0 Z129 (EL_CIRCLE.ext EX129) Cs129 (HC_CIRCLE.ext EX129) Vs129 (HV_CIRCLE.ext EX129) Ar132 (Ar_CIRCLE.ext EX129) S132 hsz_CIRCLE ta132 hat_CIRCLE (S_cs.ext EX129) hkc) hZ (hw _ (List.mem_of_getElem? (i := 27) rfl)) (hw _ (List.mem_of_getElem? (i := 9) rfl)) (by decide) (by decide)) q131a q131c (g := (mkF m 37 #[.val (.int p0), .val (.int ((p0 &&& (2147483647 : Int32)) % (12 : Int32))), .val (.ref w_CIRCLE), .val (.int (0 : Int32)), .unset, .unset] [(.ref l_CIRCLE), (.ref s129)])) rfl (by rw [hml]; rfl) (Steps.refl _) (argsL := [(.ref l_CIRCLE)]) (rest := []) (lenOf own_pd3 rfl) rfl (by show 2 * 0 + _ ≤ _; exact Nat.le_of_eq rfl) (hb hby at_37) (fun _ _ => ⟨rfl, e130, (by decide : 2 + 0 ≤ _), (by decide : 8 + 0 ≤ _)⟩)
                        dsimp only [Pt.U, Pt.locs, Pt.cells, Pt.slots] at X131 l131 y131 z131 st131 hQ131
                        subst l131 y131 z131
                        obtain ⟨rfl, N131q, e131⟩ := hQ131
                        have N131 := Fr.app N130 N131q
                        have q131 : (F_seqR (42 : Int32) (51 : Int32)) = (0 : Int32) := by rw [F_seqR, if_neg (by decide : ¬ ((42 : Int32) = (51 : Int32)))]
                        rw [q131] at st131
                        obtain ⟨cq133, kq133, q133a, q133b, q133c⟩ := isOf hZ e131 (E_CIRCLE.ext EX129)
                        obtain ⟨_, _, ⟨T133, L133, k133, n133⟩, -, X133, ⟨Lc133, hQ133, l133, y133, z133⟩, st133⟩ := X131.virtualBack hx (y := (⟨"com/example/starquarry/starquarry/model/ColumnType", "isText", "()Z"⟩ : MethodName)) (z := (⟨"com/example/starquarry/starquarry/model/ColumnType", "isText", "()Z"⟩ : MethodName)) hown (mvT hZ (hw _ (List.mem_of_getElem? (i := 28) rfl))) (mvT hZ (hw _ (List.mem_of_getElem? (i := 29) rfl))) (notFace_of_selects (args := #[]) (mvT hZ (hw _ (List.mem_of_getElem? (i := 31) rfl)))) (mvT hZ (hw _ (List.mem_of_getElem? (i := 31) rfl))) (mvT hZ (hw _ (List.mem_of_getElem? (i := 30) rfl))) (by decide) (backOf (W := 0) (rm_tx l Z a0' hw [] w_CIRCLE w_CHAR w_UNICODE_CHAR h129 n0 Z129 (S_CHAR.ext EX129) (S_UNICODE_CHAR.ext EX129)) hZ (hw _ (List.mem_of_getElem? (i := 32) rfl)) (hw _ (List.mem_of_getElem? (i := 6) rfl)) (by decide) (by decide)) q133a q133c (g := (mkF m 43 #[.val (.int p0), .val (.int ((p0 &&& (2147483647 : Int32)) % (12 : Int32))), .val (.ref w_CIRCLE), .val (.int (0 : Int32)), .val (.int (0 : Int32)), .unset] [(.ref w_CIRCLE)])) rfl (by rw [hml]; rfl) (Steps.refl _) (argsL := []) (rest := []) (lenOf own_pd4 rfl) rfl (by show 2 * 0 + _ ≤ _; exact Nat.le_of_eq rfl) (hb hby at_43) (fun _ _ => ⟨rfl, e131, (by decide : 2 + 0 ≤ _), (by decide : 8 + 0 ≤ _)⟩)
                        dsimp only [Pt.U, Pt.locs, Pt.cells, Pt.slots] at X133 l133 y133 z133 st133 hQ133
                        subst l133 y133 z133
                        obtain ⟨rfl, N133q, e133⟩ := hQ133
                        have N133 := Fr.app N131 N133q
                        have q133 : (F_tx w_CIRCLE w_CHAR w_UNICODE_CHAR) = (0 : Int32) := by rw [F_tx, if_neg ne_CIRCLE_CHAR, if_neg ne_CIRCLE_UNICODE_CHAR]
                        rw [q133] at st133
                        obtain ⟨fs, hr, hrun, hended, hE⟩ := X133.leaveW hS129 (by rw [e133]; exact hk129) (v := some (.int (1 : Int32))) (fun h => by rw [Bd.returns] at h; cases h)
                        refine ⟨_, _, pre58 _ ?_, hrun, hended, _, _, rfl, ?_, own_wmono hE (by decide) (by decide)⟩
                        · show Steps p.tables e below (s₁.setTop (mkF m 9 #[.val (.int p0), .val (.int ((p0 &&& (2147483647 : Int32)) % (12 : Int32))), .unset, .unset, .unset, .unset] [(.int ((p0 &&& (2147483647 : Int32)) % (12 : Int32)))])) _
                          refine st57 _ ?_
                          show Steps p.tables e below (T57.setTop (mkF m 12 #[.val (.int p0), .val (.int ((p0 &&& (2147483647 : Int32)) % (12 : Int32))), .unset, .unset, .unset, .unset] [(.ref w_CIRCLE)])) _
                          refine XS.astoreN X57.here hx rfl (hb hby at_12) rfl rfl (l' := #[.val (.int p0), .val (.int ((p0 &&& (2147483647 : Int32)) % (12 : Int32))), .val (.ref w_CIRCLE), .unset, .unset, .unset]) rfl ?_
                          show Steps p.tables e below (T57.setTop (mkF m 13 #[.val (.int p0), .val (.int ((p0 &&& (2147483647 : Int32)) % (12 : Int32))), .val (.ref w_CIRCLE), .unset, .unset, .unset] [])) _
                          refine XS.iloadN X57.here hx rfl (hb hby at_13) rfl ?_
                          show Steps p.tables e below (T57.setTop (mkF m 14 #[.val (.int p0), .val (.int ((p0 &&& (2147483647 : Int32)) % (12 : Int32))), .val (.ref w_CIRCLE), .unset, .unset, .unset] [(.int ((p0 &&& (2147483647 : Int32)) % (12 : Int32)))])) _
                          refine XS.bipush X57.here hx rfl (hb hby at_14) ?_
                          show Steps p.tables e below (T57.setTop (mkF m 16 #[.val (.int p0), .val (.int ((p0 &&& (2147483647 : Int32)) % (12 : Int32))), .val (.ref w_CIRCLE), .unset, .unset, .unset] [(.int (8 : Int32)), (.int ((p0 &&& (2147483647 : Int32)) % (12 : Int32)))])) _
                          refine XS.icmpNo X57.here hx rfl (hb hby at_16) rfl (feq hs_107).1 ?_
                          show Steps p.tables e below (T57.setTop (mkF m 19 #[.val (.int p0), .val (.int ((p0 &&& (2147483647 : Int32)) % (12 : Int32))), .val (.ref w_CIRCLE), .unset, .unset, .unset] [])) _
                          refine XS.iloadN X57.here hx rfl (hb hby at_19) rfl ?_
                          show Steps p.tables e below (T57.setTop (mkF m 20 #[.val (.int p0), .val (.int ((p0 &&& (2147483647 : Int32)) % (12 : Int32))), .val (.ref w_CIRCLE), .unset, .unset, .unset] [(.int ((p0 &&& (2147483647 : Int32)) % (12 : Int32)))])) _
                          refine XS.bipush X57.here hx rfl (hb hby at_20) ?_
                          show Steps p.tables e below (T57.setTop (mkF m 22 #[.val (.int p0), .val (.int ((p0 &&& (2147483647 : Int32)) % (12 : Int32))), .val (.ref w_CIRCLE), .unset, .unset, .unset] [(.int (9 : Int32)), (.int ((p0 &&& (2147483647 : Int32)) % (12 : Int32)))])) _
                          refine XS.icmpYes X57.here hx rfl (pc0 := 22) (pc' := 29) rfl (hb hby at_22) rfl (feq hs_114).2 (by decide) (by decide) ?_
                          show Steps p.tables e below (T57.setTop (mkF m 29 #[.val (.int p0), .val (.int ((p0 &&& (2147483647 : Int32)) % (12 : Int32))), .val (.ref w_CIRCLE), .unset, .unset, .unset] [])) _
                          refine XS.iconst X57.here hx rfl (hb hby at_29) ?_
                          show Steps p.tables e below (T57.setTop (mkF m 30 #[.val (.int p0), .val (.int ((p0 &&& (2147483647 : Int32)) % (12 : Int32))), .val (.ref w_CIRCLE), .unset, .unset, .unset] [(.int (0 : Int32))])) _
                          refine XS.istoreN X57.here hx rfl (hb hby at_30) rfl (l' := #[.val (.int p0), .val (.int ((p0 &&& (2147483647 : Int32)) % (12 : Int32))), .val (.ref w_CIRCLE), .val (.int (0 : Int32)), .unset, .unset]) rfl ?_
                          show Steps p.tables e below (T57.setTop (mkF m 31 #[.val (.int p0), .val (.int ((p0 &&& (2147483647 : Int32)) % (12 : Int32))), .val (.ref w_CIRCLE), .val (.int (0 : Int32)), .unset, .unset] [])) _
                          refine st129 _ ?_
                          show Steps p.tables e below (T129.setTop (mkF m 33 #[.val (.int p0), .val (.int ((p0 &&& (2147483647 : Int32)) % (12 : Int32))), .val (.ref w_CIRCLE), .val (.int (0 : Int32)), .unset, .unset] [(.ref s129)])) _
                          refine XS.aloadN X129.here hx rfl (hb hby at_33) rfl rfl ?_
                          show Steps p.tables e below (T129.setTop (mkF m 34 #[.val (.int p0), .val (.int ((p0 &&& (2147483647 : Int32)) % (12 : Int32))), .val (.ref w_CIRCLE), .val (.int (0 : Int32)), .unset, .unset] [(.ref w_CIRCLE), (.ref s129)])) _
                          refine st130.trans ?_
                          show Steps p.tables e below (T130.setTop (mkF m 37 #[.val (.int p0), .val (.int ((p0 &&& (2147483647 : Int32)) % (12 : Int32))), .val (.ref w_CIRCLE), .val (.int (0 : Int32)), .unset, .unset] [(.ref l_CIRCLE), (.ref s129)])) _
                          refine st131.trans ?_
                          show Steps p.tables e below (T131.setTop (mkF m 40 #[.val (.int p0), .val (.int ((p0 &&& (2147483647 : Int32)) % (12 : Int32))), .val (.ref w_CIRCLE), .val (.int (0 : Int32)), .unset, .unset] [(.int (0 : Int32))])) _
                          refine XS.istore X131.here hx rfl (hb hby at_40) rfl (l' := #[.val (.int p0), .val (.int ((p0 &&& (2147483647 : Int32)) % (12 : Int32))), .val (.ref w_CIRCLE), .val (.int (0 : Int32)), .val (.int (0 : Int32)), .unset]) rfl ?_
                          show Steps p.tables e below (T131.setTop (mkF m 42 #[.val (.int p0), .val (.int ((p0 &&& (2147483647 : Int32)) % (12 : Int32))), .val (.ref w_CIRCLE), .val (.int (0 : Int32)), .val (.int (0 : Int32)), .unset] [])) _
                          refine XS.aloadN X131.here hx rfl (hb hby at_42) rfl rfl ?_
                          show Steps p.tables e below (T131.setTop (mkF m 43 #[.val (.int p0), .val (.int ((p0 &&& (2147483647 : Int32)) % (12 : Int32))), .val (.ref w_CIRCLE), .val (.int (0 : Int32)), .val (.int (0 : Int32)), .unset] [(.ref w_CIRCLE)])) _
                          refine st133.trans ?_
                          show Steps p.tables e below (T133.setTop (mkF m 46 #[.val (.int p0), .val (.int ((p0 &&& (2147483647 : Int32)) % (12 : Int32))), .val (.ref w_CIRCLE), .val (.int (0 : Int32)), .val (.int (0 : Int32)), .unset] [(.int (0 : Int32))])) _
                          refine XS.istore X133.here hx rfl (hb hby at_46) rfl (l' := #[.val (.int p0), .val (.int ((p0 &&& (2147483647 : Int32)) % (12 : Int32))), .val (.ref w_CIRCLE), .val (.int (0 : Int32)), .val (.int (0 : Int32)), .val (.int (0 : Int32))]) rfl ?_
                          show Steps p.tables e below (T133.setTop (mkF m 48 #[.val (.int p0), .val (.int ((p0 &&& (2147483647 : Int32)) % (12 : Int32))), .val (.ref w_CIRCLE), .val (.int (0 : Int32)), .val (.int (0 : Int32)), .val (.int (0 : Int32))] [])) _
                          refine XS.iload X133.here hx rfl (hb hby at_48) rfl ?_
                          show Steps p.tables e below (T133.setTop (mkF m 50 #[.val (.int p0), .val (.int ((p0 &&& (2147483647 : Int32)) % (12 : Int32))), .val (.ref w_CIRCLE), .val (.int (0 : Int32)), .val (.int (0 : Int32)), .val (.int (0 : Int32))] [(.int (0 : Int32))])) _
                          refine XS.iloadN X133.here hx rfl (hb hby at_50) rfl ?_
                          show Steps p.tables e below (T133.setTop (mkF m 51 #[.val (.int p0), .val (.int ((p0 &&& (2147483647 : Int32)) % (12 : Int32))), .val (.ref w_CIRCLE), .val (.int (0 : Int32)), .val (.int (0 : Int32)), .val (.int (0 : Int32))] [(.int (0 : Int32)), (.int (0 : Int32))])) _
                          refine XS.icmpNo X133.here hx rfl (hb hby at_51) rfl (teq (by decide : (0 : Int32) = (0 : Int32))).2 ?_
                          show Steps p.tables e below (T133.setTop (mkF m 54 #[.val (.int p0), .val (.int ((p0 &&& (2147483647 : Int32)) % (12 : Int32))), .val (.ref w_CIRCLE), .val (.int (0 : Int32)), .val (.int (0 : Int32)), .val (.int (0 : Int32))] [])) _
                          refine XS.iload X133.here hx rfl (hb hby at_54) rfl ?_
                          show Steps p.tables e below (T133.setTop (mkF m 56 #[.val (.int p0), .val (.int ((p0 &&& (2147483647 : Int32)) % (12 : Int32))), .val (.ref w_CIRCLE), .val (.int (0 : Int32)), .val (.int (0 : Int32)), .val (.int (0 : Int32))] [(.int (0 : Int32))])) _
                          refine XS.iload X133.here hx rfl (hb hby at_56) rfl ?_
                          show Steps p.tables e below (T133.setTop (mkF m 58 #[.val (.int p0), .val (.int ((p0 &&& (2147483647 : Int32)) % (12 : Int32))), .val (.ref w_CIRCLE), .val (.int (0 : Int32)), .val (.int (0 : Int32)), .val (.int (0 : Int32))] [(.int (0 : Int32)), (.int (0 : Int32))])) _
                          refine XS.icmpNo X133.here hx rfl (hb hby at_58) rfl (teq (by decide : (0 : Int32) = (0 : Int32))).2 ?_
                          show Steps p.tables e below (T133.setTop (mkF m 61 #[.val (.int p0), .val (.int ((p0 &&& (2147483647 : Int32)) % (12 : Int32))), .val (.ref w_CIRCLE), .val (.int (0 : Int32)), .val (.int (0 : Int32)), .val (.int (0 : Int32))] [])) _
                          refine XS.iconst X133.here hx rfl (hb hby at_61) ?_
                          show Steps p.tables e below (T133.setTop (mkF m 62 #[.val (.int p0), .val (.int ((p0 &&& (2147483647 : Int32)) % (12 : Int32))), .val (.ref w_CIRCLE), .val (.int (0 : Int32)), .val (.int (0 : Int32)), .val (.int (0 : Int32))] [(.int (1 : Int32))])) _
                          refine XS.goto X133.here hx rfl (pc0 := 62) (pc' := 66) rfl (hb hby at_62) (by decide) (by decide) ?_
                          show Steps p.tables e below (T133.setTop (mkF m 66 #[.val (.int p0), .val (.int ((p0 &&& (2147483647 : Int32)) % (12 : Int32))), .val (.ref w_CIRCLE), .val (.int (0 : Int32)), .val (.int (0 : Int32)), .val (.int (0 : Int32))] [(.int (1 : Int32))])) _
                          exact retN X133 hx (t := .boolean) Bd.returns (by simp) (hb hby at_66) hr
                        · show Q_law Z p0 w_BIT w_BOOLEAN w_UNSIGNED_BYTE w_SHORT w_INT w_LONG w_FLOAT w_DOUBLE w_CHAR w_UNICODE_CHAR w_POINT w_CIRCLE kc l_CHAR v_CHAR cl_CHAR l_POINT v_POINT cl_POINT l_CIRCLE v_CIRCLE cl_CIRCLE h0 n0 _ T133.heap _
                          refine ⟨?_, N133, trivial⟩
                          rw [F_law, if_neg hs_59, if_neg hs_65, if_neg hs_71, if_neg hs_77, if_neg hs_83, if_neg hs_89, if_neg hs_95, if_neg hs_101, if_neg hs_107, if_neg hs_114, if_neg hs_121]
theorem own_law (p0 : Int32) : F_law p0 = 1 := by
  unfold F_law
  repeat' split
  all_goals rfl
set_option maxRecDepth 65536 in
set_option maxHeartbeats 40000000 in
theorem own_comes {Post : Tables → Env → Array Value → State → Outcome → State → Prop} (hpost : ∀ tb e args s v u, (limb_1_1.after args s (.returned v) u = true ∧ limb_1_2.after args s (.returned v) u = true ∧ True) → ReturnedEndW s (.returned v) u (Jvm.fieldLocs frame_1_writes args s ++ Jvm.arrayLocs frame_1_arrays args s ++ Jvm.staticLocs frame_1_statics s) 8 1088 → Post tb e args s (.returned v) u) :
    ArmFor flags0 classFile x code maxLocals ret World_1 tables_1 room_1 Calls_1 rest_1 Pre_1 Post := by
  intro l hfl _ _ p e ha hc hk s m args below hf hA hF happ hP
  obtain ⟨hcalls, hrest, hpre⟩ := hP
  obtain ⟨-, -, -, hnamed, -, -, -, hat⟩ := (Spec.applies_iff hf).mp happ
  obtain ⟨hg, hn⟩ := and_e (Cond.before_iff.mp (show (Jvm.Cond.and given_1 narrow_1).before args s = true from hpre))
  obtain ⟨g1, g1'⟩ := and_e hg
  obtain ⟨g2, g2'⟩ := and_e hn
  obtain ⟨g3, g3'⟩ := and_e g2'
  obtain ⟨g4, g4'⟩ := and_e g3'
  obtain ⟨g5, g5'⟩ := and_e g4'
  obtain ⟨g6, g6'⟩ := and_e g5'
  obtain ⟨g7, g7'⟩ := and_e g6'
  obtain ⟨g8, g8'⟩ := and_e g7'
  obtain ⟨g9, g9'⟩ := and_e g8'
  obtain ⟨g10, g10'⟩ := and_e g9'
  obtain ⟨g11, g11'⟩ := and_e g10'
  obtain ⟨g12, g12'⟩ := and_e g11'
  obtain ⟨g13, g13'⟩ := and_e g12'
  obtain ⟨g14, g14'⟩ := and_e g13'
  obtain ⟨g15, g15'⟩ := and_e g14'
  obtain ⟨g16, g16'⟩ := and_e g15'
  obtain ⟨g17, g17'⟩ := and_e g16'
  obtain ⟨g18, g18'⟩ := and_e g17'
  obtain ⟨g19, g19'⟩ := and_e g18'
  obtain ⟨g20, g20'⟩ := and_e g19'
  obtain ⟨g21, g21'⟩ := and_e g20'
  obtain ⟨g22, g22'⟩ := and_e g21'
  obtain ⟨g23, g23'⟩ := and_e g22'
  obtain ⟨g24, g24'⟩ := and_e g23'
  obtain ⟨g25, g25'⟩ := and_e g24'
  obtain ⟨g26, g26'⟩ := and_e g25'
  obtain ⟨g27, g27'⟩ := and_e g26'
  obtain ⟨g28, g28'⟩ := and_e g27'
  obtain ⟨g29, g29'⟩ := and_e g28'
  obtain ⟨g30, g30'⟩ := and_e g29'
  obtain ⟨g31, g31'⟩ := and_e g30'
  obtain ⟨g32, g32'⟩ := and_e g31'
  obtain ⟨g33, g33'⟩ := and_e g32'
  obtain ⟨g34, g34'⟩ := and_e g33'
  obtain ⟨g35, g35'⟩ := and_e g34'
  obtain ⟨g36, g36'⟩ := and_e g35'
  obtain ⟨g37, g37'⟩ := and_e g36'
  obtain ⟨g38, g38'⟩ := and_e g37'
  obtain ⟨g39, g39'⟩ := and_e g38'
  obtain ⟨g40, g40'⟩ := and_e g39'
  obtain ⟨g41, g41'⟩ := and_e g40'
  obtain ⟨g42, g42'⟩ := and_e g41'
  obtain ⟨g43, g43'⟩ := and_e g42'
  obtain ⟨g44, g44'⟩ := and_e g43'
  obtain ⟨g45, g45'⟩ := and_e g44'
  obtain ⟨g46, g46'⟩ := and_e g45'
  obtain ⟨g47, g47'⟩ := and_e g46'
  obtain ⟨g48, g48'⟩ := and_e g47'
  obtain ⟨u0, rfl⟩ : ∃ u0 : Value, args = #[u0] := by
    have hs : args.size = 1 := by simpa [Cond.value, given_1] using g1
    obtain ⟨L⟩ := args
    match L, hs with
    | [u0], _ => exact ⟨u0, rfl⟩
  have hw := fun d (hd : d ∈ tables_1) => atoms_spec (ws := Jvm.Cond.code x code maxLocals ret :: tables_1) hat d (List.mem_cons_of_mem _ hd)
  obtain ⟨i0, ei0⟩ := is_v g1'
  obtain rfl : u0 = (.int i0) := Option.some.inj ei0
  obtain ⟨w_BIT, ev_BIT⟩ := exa_v g2
  have E_BIT := Exa.start ev_BIT g2
  have S_BIT := Sta.start ev_BIT (Or.inr ⟨(hw _ (List.mem_of_getElem? (i := 6) rfl)), (hw _ (List.mem_of_getElem? (i := 7) rfl))⟩)
  obtain ⟨w_CHAR, ev_CHAR⟩ := exa_v g4
  have E_CHAR := Exa.start ev_CHAR g4
  have S_CHAR := Sta.start ev_CHAR (Or.inr ⟨(hw _ (List.mem_of_getElem? (i := 6) rfl)), (hw _ (List.mem_of_getElem? (i := 34) rfl))⟩)
  obtain ⟨w_UNICODE_CHAR, ev_UNICODE_CHAR⟩ := exa_v g7
  have E_UNICODE_CHAR := Exa.start ev_UNICODE_CHAR g7
  have S_UNICODE_CHAR := Sta.start ev_UNICODE_CHAR (Or.inr ⟨(hw _ (List.mem_of_getElem? (i := 6) rfl)), (hw _ (List.mem_of_getElem? (i := 36) rfl))⟩)
  obtain ⟨w_SHORT, ev_SHORT⟩ := exa_v g9
  have E_SHORT := Exa.start ev_SHORT g9
  have S_SHORT := Sta.start ev_SHORT (Or.inr ⟨(hw _ (List.mem_of_getElem? (i := 6) rfl)), (hw _ (List.mem_of_getElem? (i := 38) rfl))⟩)
  obtain ⟨w_UNSIGNED_BYTE, ev_UNSIGNED_BYTE⟩ := exa_v g12
  have E_UNSIGNED_BYTE := Exa.start ev_UNSIGNED_BYTE g12
  have S_UNSIGNED_BYTE := Sta.start ev_UNSIGNED_BYTE (Or.inr ⟨(hw _ (List.mem_of_getElem? (i := 6) rfl)), (hw _ (List.mem_of_getElem? (i := 40) rfl))⟩)
  obtain ⟨w_DOUBLE, ev_DOUBLE⟩ := exa_v g15
  have E_DOUBLE := Exa.start ev_DOUBLE g15
  have S_DOUBLE := Sta.start ev_DOUBLE (Or.inr ⟨(hw _ (List.mem_of_getElem? (i := 6) rfl)), (hw _ (List.mem_of_getElem? (i := 42) rfl))⟩)
  obtain ⟨w_CIRCLE, ev_CIRCLE⟩ := exa_v g18
  have E_CIRCLE := Exa.start ev_CIRCLE g18
  have S_CIRCLE := Sta.start ev_CIRCLE (Or.inr ⟨(hw _ (List.mem_of_getElem? (i := 6) rfl)), (hw _ (List.mem_of_getElem? (i := 44) rfl))⟩)
  obtain ⟨w_INT, ev_INT⟩ := exa_v g25
  have E_INT := Exa.start ev_INT g25
  have S_INT := Sta.start ev_INT (Or.inr ⟨(hw _ (List.mem_of_getElem? (i := 6) rfl)), (hw _ (List.mem_of_getElem? (i := 55) rfl))⟩)
  obtain ⟨w_BOOLEAN, ev_BOOLEAN⟩ := exa_v g33
  have E_BOOLEAN := Exa.start ev_BOOLEAN g33
  have S_BOOLEAN := Sta.start ev_BOOLEAN (Or.inr ⟨(hw _ (List.mem_of_getElem? (i := 6) rfl)), (hw _ (List.mem_of_getElem? (i := 58) rfl))⟩)
  obtain ⟨w_POINT, ev_POINT⟩ := exa_v g36
  have E_POINT := Exa.start ev_POINT g36
  have S_POINT := Sta.start ev_POINT (Or.inr ⟨(hw _ (List.mem_of_getElem? (i := 6) rfl)), (hw _ (List.mem_of_getElem? (i := 60) rfl))⟩)
  obtain ⟨w_FLOAT, ev_FLOAT⟩ := exa_v g44
  have E_FLOAT := Exa.start ev_FLOAT g44
  have S_FLOAT := Sta.start ev_FLOAT (Or.inr ⟨(hw _ (List.mem_of_getElem? (i := 6) rfl)), (hw _ (List.mem_of_getElem? (i := 63) rfl))⟩)
  obtain ⟨w_LONG, ev_LONG⟩ := exa_v g47
  have E_LONG := Exa.start ev_LONG g47
  have S_LONG := Sta.start ev_LONG (Or.inr ⟨(hw _ (List.mem_of_getElem? (i := 6) rfl)), (hw _ (List.mem_of_getElem? (i := 65) rfl))⟩)
  obtain ⟨l_CIRCLE, evl_CIRCLE⟩ := exa_v g19
  have EL_CIRCLE := Exa.start evl_CIRCLE g19
  have HL_CIRCLE := Fld.start ((fld_at ev_CIRCLE).symm.trans evl_CIRCLE)
  obtain ⟨l_CHAR, evl_CHAR⟩ := exa_v g28
  have EL_CHAR := Exa.start evl_CHAR g28
  have HL_CHAR := Fld.start ((fld_at ev_CHAR).symm.trans evl_CHAR)
  obtain ⟨l_POINT, evl_POINT⟩ := exa_v g37
  have EL_POINT := Exa.start evl_POINT g37
  have HL_POINT := Fld.start ((fld_at ev_POINT).symm.trans evl_POINT)
  obtain ⟨v_CIRCLE, evv_CIRCLE⟩ := arr_v g21
  obtain ⟨cl_CIRCLE, Ar_CIRCLE⟩ := Arr.start evv_CIRCLE g21
  have HV_CIRCLE := Fld.start ((fld_at evl_CIRCLE).symm.trans evv_CIRCLE)
  obtain ⟨v_CHAR, evv_CHAR⟩ := arr_v g30
  obtain ⟨cl_CHAR, Ar_CHAR⟩ := Arr.start evv_CHAR g30
  have HV_CHAR := Fld.start ((fld_at evl_CHAR).symm.trans evv_CHAR)
  obtain ⟨v_POINT, evv_POINT⟩ := arr_v g39
  obtain ⟨cl_POINT, Ar_POINT⟩ := Arr.start evv_POINT g39
  have HV_POINT := Fld.start ((fld_at evl_POINT).symm.trans evv_POINT)
  have FX_BIT := Fld.start ((fld_at ev_BIT).symm.trans (null_v g3))
  have FX_SHORT := Fld.start ((fld_at ev_SHORT).symm.trans (null_v g10))
  have FX_UNSIGNED_BYTE := Fld.start ((fld_at ev_UNSIGNED_BYTE).symm.trans (null_v g13))
  have FX_DOUBLE := Fld.start ((fld_at ev_DOUBLE).symm.trans (null_v g16))
  have HC_CIRCLE := Fld.start ((fld_at evl_CIRCLE).symm.trans (own_eqk g20))
  obtain ⟨hsz_CIRCLE, hnn_CIRCLE⟩ := own_len g22 evv_CIRCLE Ar_CIRCLE
  have hat_CIRCLE := (elem_in (own_eqk g23) evv_CIRCLE (Term.int_eval _) Ar_CIRCLE.1).2
  have FX_INT := Fld.start ((fld_at ev_INT).symm.trans (null_v g26))
  have HC_CHAR := Fld.start ((fld_at evl_CHAR).symm.trans (own_eqk g29))
  obtain ⟨hsz_CHAR, hnn_CHAR⟩ := own_len g31 evv_CHAR Ar_CHAR
  have hat_CHAR := (elem_in (own_eqk g32) evv_CHAR (Term.int_eval _) Ar_CHAR.1).2
  have FX_BOOLEAN := Fld.start ((fld_at ev_BOOLEAN).symm.trans (null_v g34))
  have HC_POINT := Fld.start ((fld_at evl_POINT).symm.trans (own_eqk g38))
  obtain ⟨hsz_POINT, hnn_POINT⟩ := own_len g40 evv_POINT Ar_POINT
  have hat_POINT := (elem_in (own_eqk g41) evv_POINT (Term.int_eval _) Ar_POINT.1).2
  have FX_UNICODE_CHAR := Fld.start ((fld_at ev_UNICODE_CHAR).symm.trans (own_eqref g43 evl_CHAR))
  have FX_FLOAT := Fld.start ((fld_at ev_FLOAT).symm.trans (null_v g45))
  have FX_LONG := Fld.start ((fld_at ev_LONG).symm.trans (null_v g48))
  have o_BIT := (fld_at ev_BIT).symm.trans (own_eqk g5)
  have o_CHAR := (fld_at ev_CHAR).symm.trans (own_eqk g6)
  have o_UNICODE_CHAR := (fld_at ev_UNICODE_CHAR).symm.trans (own_eqk g8)
  have o_SHORT := (fld_at ev_SHORT).symm.trans (own_eqk g11)
  have o_UNSIGNED_BYTE := (fld_at ev_UNSIGNED_BYTE).symm.trans (own_eqk g14)
  have o_DOUBLE := (fld_at ev_DOUBLE).symm.trans (own_eqk g17)
  have o_CIRCLE := (fld_at ev_CIRCLE).symm.trans (own_eqk g24)
  have o_INT := (fld_at ev_INT).symm.trans (own_eqk g27)
  have o_BOOLEAN := (fld_at ev_BOOLEAN).symm.trans (own_eqk g35)
  have o_POINT := (fld_at ev_POINT).symm.trans (own_eqk g42)
  have o_FLOAT := (fld_at ev_FLOAT).symm.trans (own_eqk g46)
  have o_LONG := (fld_at ev_LONG).symm.trans (own_eqk g48')
  obtain ⟨hsets, hown0⟩ := atoms_of _ (rest_1_c_eq ▸ (show rest_1_c.before _ s = true from hrest))
  obtain ⟨kc, evk⟩ := is_v (Cond.before_iff.mp (hsets _ (List.mem_of_getElem? (i := 1) rfl)))
  have S_cs := Sta.start evk (Or.inl (hsets _ (List.mem_of_getElem? (i := 0) rfl)))
  have hcw : Jvm.Lit.compactW.before _ s = true := (hsets _ (List.mem_of_getElem? (i := 2) rfl))
  have hkc : ¬ (kc = (0 : Int32)) := gotF (Cond.eq_ints evk (Term.int_eval _)) (not_v (Cond.before_iff.mp (hsets _ (List.mem_of_getElem? (i := 2) rfl))))
  obtain ⟨fm, evf, hfm⟩ := isR_v (Cond.before_iff.mp (hsets _ (List.mem_of_getElem? (i := 8) rfl)))
  have S_fm := Sta.start evf (Or.inl (hsets _ (List.mem_of_getElem? (i := 7) rfl)))
  have ne_BIT_CHAR : ¬ (w_BIT = w_CHAR) := fun q => by
    have q2 : s.fieldOf? w_BIT "java/lang/Enum" "ordinal" "I" = s.fieldOf? w_CHAR "java/lang/Enum" "ordinal" "I" := by rw [q]
    rw [o_BIT, o_CHAR] at q2
    simp at q2
  have ne_BIT_UNICODE_CHAR : ¬ (w_BIT = w_UNICODE_CHAR) := fun q => by
    have q2 : s.fieldOf? w_BIT "java/lang/Enum" "ordinal" "I" = s.fieldOf? w_UNICODE_CHAR "java/lang/Enum" "ordinal" "I" := by rw [q]
    rw [o_BIT, o_UNICODE_CHAR] at q2
    simp at q2
  have ne_BOOLEAN_CHAR : ¬ (w_BOOLEAN = w_CHAR) := fun q => by
    have q2 : s.fieldOf? w_BOOLEAN "java/lang/Enum" "ordinal" "I" = s.fieldOf? w_CHAR "java/lang/Enum" "ordinal" "I" := by rw [q]
    rw [o_BOOLEAN, o_CHAR] at q2
    simp at q2
  have ne_BOOLEAN_UNICODE_CHAR : ¬ (w_BOOLEAN = w_UNICODE_CHAR) := fun q => by
    have q2 : s.fieldOf? w_BOOLEAN "java/lang/Enum" "ordinal" "I" = s.fieldOf? w_UNICODE_CHAR "java/lang/Enum" "ordinal" "I" := by rw [q]
    rw [o_BOOLEAN, o_UNICODE_CHAR] at q2
    simp at q2
  have ne_UNSIGNED_BYTE_CHAR : ¬ (w_UNSIGNED_BYTE = w_CHAR) := fun q => by
    have q2 : s.fieldOf? w_UNSIGNED_BYTE "java/lang/Enum" "ordinal" "I" = s.fieldOf? w_CHAR "java/lang/Enum" "ordinal" "I" := by rw [q]
    rw [o_UNSIGNED_BYTE, o_CHAR] at q2
    simp at q2
  have ne_UNSIGNED_BYTE_UNICODE_CHAR : ¬ (w_UNSIGNED_BYTE = w_UNICODE_CHAR) := fun q => by
    have q2 : s.fieldOf? w_UNSIGNED_BYTE "java/lang/Enum" "ordinal" "I" = s.fieldOf? w_UNICODE_CHAR "java/lang/Enum" "ordinal" "I" := by rw [q]
    rw [o_UNSIGNED_BYTE, o_UNICODE_CHAR] at q2
    simp at q2
  have ne_SHORT_CHAR : ¬ (w_SHORT = w_CHAR) := fun q => by
    have q2 : s.fieldOf? w_SHORT "java/lang/Enum" "ordinal" "I" = s.fieldOf? w_CHAR "java/lang/Enum" "ordinal" "I" := by rw [q]
    rw [o_SHORT, o_CHAR] at q2
    simp at q2
  have ne_SHORT_UNICODE_CHAR : ¬ (w_SHORT = w_UNICODE_CHAR) := fun q => by
    have q2 : s.fieldOf? w_SHORT "java/lang/Enum" "ordinal" "I" = s.fieldOf? w_UNICODE_CHAR "java/lang/Enum" "ordinal" "I" := by rw [q]
    rw [o_SHORT, o_UNICODE_CHAR] at q2
    simp at q2
  have ne_INT_CHAR : ¬ (w_INT = w_CHAR) := fun q => by
    have q2 : s.fieldOf? w_INT "java/lang/Enum" "ordinal" "I" = s.fieldOf? w_CHAR "java/lang/Enum" "ordinal" "I" := by rw [q]
    rw [o_INT, o_CHAR] at q2
    simp at q2
  have ne_INT_UNICODE_CHAR : ¬ (w_INT = w_UNICODE_CHAR) := fun q => by
    have q2 : s.fieldOf? w_INT "java/lang/Enum" "ordinal" "I" = s.fieldOf? w_UNICODE_CHAR "java/lang/Enum" "ordinal" "I" := by rw [q]
    rw [o_INT, o_UNICODE_CHAR] at q2
    simp at q2
  have ne_LONG_CHAR : ¬ (w_LONG = w_CHAR) := fun q => by
    have q2 : s.fieldOf? w_LONG "java/lang/Enum" "ordinal" "I" = s.fieldOf? w_CHAR "java/lang/Enum" "ordinal" "I" := by rw [q]
    rw [o_LONG, o_CHAR] at q2
    simp at q2
  have ne_LONG_UNICODE_CHAR : ¬ (w_LONG = w_UNICODE_CHAR) := fun q => by
    have q2 : s.fieldOf? w_LONG "java/lang/Enum" "ordinal" "I" = s.fieldOf? w_UNICODE_CHAR "java/lang/Enum" "ordinal" "I" := by rw [q]
    rw [o_LONG, o_UNICODE_CHAR] at q2
    simp at q2
  have ne_FLOAT_CHAR : ¬ (w_FLOAT = w_CHAR) := fun q => by
    have q2 : s.fieldOf? w_FLOAT "java/lang/Enum" "ordinal" "I" = s.fieldOf? w_CHAR "java/lang/Enum" "ordinal" "I" := by rw [q]
    rw [o_FLOAT, o_CHAR] at q2
    simp at q2
  have ne_FLOAT_UNICODE_CHAR : ¬ (w_FLOAT = w_UNICODE_CHAR) := fun q => by
    have q2 : s.fieldOf? w_FLOAT "java/lang/Enum" "ordinal" "I" = s.fieldOf? w_UNICODE_CHAR "java/lang/Enum" "ordinal" "I" := by rw [q]
    rw [o_FLOAT, o_UNICODE_CHAR] at q2
    simp at q2
  have ne_DOUBLE_CHAR : ¬ (w_DOUBLE = w_CHAR) := fun q => by
    have q2 : s.fieldOf? w_DOUBLE "java/lang/Enum" "ordinal" "I" = s.fieldOf? w_CHAR "java/lang/Enum" "ordinal" "I" := by rw [q]
    rw [o_DOUBLE, o_CHAR] at q2
    simp at q2
  have ne_DOUBLE_UNICODE_CHAR : ¬ (w_DOUBLE = w_UNICODE_CHAR) := fun q => by
    have q2 : s.fieldOf? w_DOUBLE "java/lang/Enum" "ordinal" "I" = s.fieldOf? w_UNICODE_CHAR "java/lang/Enum" "ordinal" "I" := by rw [q]
    rw [o_DOUBLE, o_UNICODE_CHAR] at q2
    simp at q2
  have ne_UNICODE_CHAR_CHAR : ¬ (w_UNICODE_CHAR = w_CHAR) := fun q => by
    have q2 : s.fieldOf? w_UNICODE_CHAR "java/lang/Enum" "ordinal" "I" = s.fieldOf? w_CHAR "java/lang/Enum" "ordinal" "I" := by rw [q]
    rw [o_UNICODE_CHAR, o_CHAR] at q2
    simp at q2
  have ne_POINT_CHAR : ¬ (w_POINT = w_CHAR) := fun q => by
    have q2 : s.fieldOf? w_POINT "java/lang/Enum" "ordinal" "I" = s.fieldOf? w_CHAR "java/lang/Enum" "ordinal" "I" := by rw [q]
    rw [o_POINT, o_CHAR] at q2
    simp at q2
  have ne_POINT_UNICODE_CHAR : ¬ (w_POINT = w_UNICODE_CHAR) := fun q => by
    have q2 : s.fieldOf? w_POINT "java/lang/Enum" "ordinal" "I" = s.fieldOf? w_UNICODE_CHAR "java/lang/Enum" "ordinal" "I" := by rw [q]
    rw [o_POINT, o_UNICODE_CHAR] at q2
    simp at q2
  have ne_CIRCLE_CHAR : ¬ (w_CIRCLE = w_CHAR) := fun q => by
    have q2 : s.fieldOf? w_CIRCLE "java/lang/Enum" "ordinal" "I" = s.fieldOf? w_CHAR "java/lang/Enum" "ordinal" "I" := by rw [q]
    rw [o_CIRCLE, o_CHAR] at q2
    simp at q2
  have ne_CIRCLE_UNICODE_CHAR : ¬ (w_CIRCLE = w_UNICODE_CHAR) := fun q => by
    have q2 : s.fieldOf? w_CIRCLE "java/lang/Enum" "ordinal" "I" = s.fieldOf? w_UNICODE_CHAR "java/lang/Enum" "ordinal" "I" := by rw [q]
    rw [o_CIRCLE, o_UNICODE_CHAR] at q2
    simp at q2
  have hlaw := own_law i0
  obtain ⟨n, o, h1, h2, h3, v, L, rfl, ⟨hv, N, -⟩, hq⟩ := rm_law l s _ hw tables_1 i0 w_BIT w_BOOLEAN w_UNSIGNED_BYTE w_SHORT w_INT w_LONG w_FLOAT w_DOUBLE w_CHAR w_UNICODE_CHAR w_POINT w_CIRCLE kc l_CHAR v_CHAR cl_CHAR l_POINT v_POINT cl_POINT l_CIRCLE v_CIRCLE cl_CIRCLE s.heap s.heap.size (Nat.le_refl _) (Nat.le_refl _) (hcalls.1 _ (List.mem_singleton.mpr rfl)) hcw S_BIT E_BIT S_BOOLEAN E_BOOLEAN S_UNSIGNED_BYTE E_UNSIGNED_BYTE S_SHORT E_SHORT S_INT E_INT S_LONG E_LONG S_FLOAT E_FLOAT S_DOUBLE E_DOUBLE S_CHAR E_CHAR S_UNICODE_CHAR E_UNICODE_CHAR S_POINT E_POINT S_CIRCLE E_CIRCLE ne_BIT_CHAR ne_BIT_UNICODE_CHAR ne_BOOLEAN_CHAR ne_BOOLEAN_UNICODE_CHAR ne_UNSIGNED_BYTE_CHAR ne_UNSIGNED_BYTE_UNICODE_CHAR ne_SHORT_CHAR ne_SHORT_UNICODE_CHAR ne_INT_CHAR ne_INT_UNICODE_CHAR ne_LONG_CHAR ne_LONG_UNICODE_CHAR ne_FLOAT_CHAR ne_FLOAT_UNICODE_CHAR ne_DOUBLE_CHAR ne_DOUBLE_UNICODE_CHAR ne_UNICODE_CHAR_CHAR ne_POINT_CHAR ne_POINT_UNICODE_CHAR ne_CIRCLE_CHAR ne_CIRCLE_UNICODE_CHAR S_cs hkc HL_CHAR EL_CHAR HC_CHAR HV_CHAR Ar_CHAR hsz_CHAR hat_CHAR HL_POINT EL_POINT HC_POINT HV_POINT Ar_POINT hsz_POINT hat_POINT HL_CIRCLE EL_CIRCLE HC_CIRCLE HV_CIRCLE Ar_CIRCLE hsz_CIRCLE hat_CIRCLE FX_BIT FX_SHORT FX_UNSIGNED_BYTE FX_DOUBLE FX_INT FX_BOOLEAN FX_FLOAT FX_LONG FX_UNICODE_CHAR p e ha hc hk s m _ below hf ((Spec.applies_iff_loose hf).mp happ).1 ⟨rfl, State.Warmed39.refl s, rfl, rfl⟩ trivial
  rw [hlaw] at hv
  subst hv
  refine ⟨n, _, h1, h2, h3, hpost _ _ _ _ _ _ ⟨Cond.after_iff.mpr rfl, Cond.after_iff.mpr (eq_i res_at (Term.int_eval (1)) rfl), trivial⟩ ⟨hq.1, hq.2.1, hq.2.2.1, (hq.2.2.2.sift fun y hy => Or.inr (N y hy)).mono (by decide) (by decide)⟩⟩
theorem main_1_1 : Claimed_1_1 := own_comes fun _ _ _ _ _ _ h hF => ⟨h.1, hF⟩
theorem main_1_2 : Claimed_1_2 := own_comes fun _ _ _ _ _ _ h hF => ⟨h.2.1, hF⟩
end Jvm.Pilot.@@N@@
namespace Jvm.Pilot.@@N@@
open Jvm Jvm.ClassFile Sem Op Lib Jvm.Free Jvm.Stand Jvm.Pilot.@@N@@.Jvm.D
/-! MADE BY PROGRAM (witnessworld.py) out of the Statement's table words and the real class files: 18 classes; the members and pool entries that the words name. The judged class is class 1, her method 2. -/
namespace start1
open Jvm.ClassFile
def u (s : String) : CpInfo := .utf8 (stringToUtf16 s)
/-- a pool by its gaps: so many unusable entries, then the entry; so many at the end -/
def gap : Nat → List CpInfo → List CpInfo
  | 0, r => r
  | n + 1, r => .unusable :: gap n r
def poolList (es : List (Nat × CpInfo)) (last : Nat) : List CpInfo := es.foldr (fun e r => gap e.1 (e.2 :: r)) (gap last [])
def pool (es : List (Nat × CpInfo)) (last : Nat) : Array CpInfo := ⟨poolList es last⟩
def fileOf (pool : Array CpInfo) (this : Nat) (attrs : Array Attribute := #[]) (ms : Array MethodInfo := #[]) (fl : Nat := 33) (sup : Nat := 0) (ifs : Array Nat := #[]) (fds : Array FieldInfo := #[]) : ClassFile where
  minorVersion := 0
  majorVersion := 65
  constantPool := pool
  accessFlags := fl
  thisClass := this
  superClass := sup
  interfaces := ifs
  fields := fds
  methods := ms
  attributes := attrs
def plain (name : String) (sup : Option ClassId) : Class where
  name := name
  kind := .ordinary
  loader := none
  accessFlags := 33
  super := sup
  interfaces := #[]
  cf := none
  fields := #[]
  methods := #[]
  instanceTypes := #[]
  staticTypes := #[]
  resolved := #[]
  callSites := []
  init := .initialized
  statics := none
  mirror := none

def pool0 : Array CpInfo := pool [(5, u "<init>"), (0, u "()V"), (1, .class_ 10), (1, u "java/lang/Object")] 113

def k0m0 : Method := { name := "<init>", desc := "()V", sig := { parameters := [], returnType := none }, accessFlags := 1, code := none }
/-- java/lang/Object -/
def k0 : Class := { plain "java/lang/Object" none with
  accessFlags := 33
  interfaces := #[]
  cf := some (fileOf pool0 8 #[] #[{ accessFlags := 1, nameIndex := 5, descriptorIndex := 6, attributes := #[] }] 33 0 #[] #[])
  fields := #[]
  methods := #[k0m0]
  instanceTypes := #[]
  staticTypes := #[]
  resolved := Array.replicate 124 none
  statics := none }

def pool1 : Array CpInfo := pool [(2, .class_ 4), (1, u "java/lang/Object"), (0, u "<init>"), (0, u "()V"), (0, .fieldref 8 9), (0, .class_ 10), (0, .nameAndType 11 12), (0, u "com/example/starquarry/starquarry/model/ColumnType"), (0, u "BIT"), (0, u "Lcom/example/starquarry/starquarry/model/ColumnType;"), (0, .fieldref 8 14), (0, .nameAndType 15 12), (0, u "BOOLEAN"), (0, .fieldref 8 17), (0, .nameAndType 18 12), (0, u "UNSIGNED_BYTE"), (0, .fieldref 8 20), (0, .nameAndType 21 12), (0, u "SHORT"), (0, .fieldref 8 23), (0, .nameAndType 24 12), (0, u "INT"), (0, .fieldref 8 26), (0, .nameAndType 27 12), (0, u "LONG"), (0, .fieldref 8 29), (0, .nameAndType 30 12), (0, u "FLOAT"), (0, .fieldref 8 32), (0, .nameAndType 33 12), (0, u "DOUBLE"), (0, .fieldref 8 35), (0, .nameAndType 36 12), (0, u "CHAR"), (0, .fieldref 8 38), (0, .nameAndType 39 12), (0, u "UNICODE_CHAR"), (0, .fieldref 8 41), (0, .nameAndType 42 12), (0, u "POINT"), (0, .fieldref 8 44), (0, .nameAndType 45 12), (0, u "CIRCLE"), (0, .integer 2147483647), (0, .methodref 48 49), (0, .class_ 50), (0, .nameAndType 51 52), (0, u "com/example/starquarry/starquarry/model/ColumnTypeIsTextPinLaw"), (0, u "pick"), (0, u "(I)Lcom/example/starquarry/starquarry/model/ColumnType;"), (0, .string 54), (0, u "*"), (0, .methodref 8 56), (0, .nameAndType 57 58), (0, u "arraysize"), (0, u "()Ljava/lang/String;"), (0, .methodref 60 61), (0, .class_ 62), (0, .nameAndType 63 64), (0, u "java/lang/String"), (0, u "equals"), (0, u "(Ljava/lang/Object;)Z"), (0, .methodref 8 66), (0, .nameAndType 67 68), (0, u "isText"), (0, u "()Z"), (3, u "law"), (0, u "(I)Z")] 2

def k1m0 : Method := { name := "<init>", desc := "()V", sig := { parameters := [], returnType := none }, accessFlags := 2, code := none }
def k1c1 : Code := { maxStack := 2, maxLocals := 1, code := method_2_code, exceptionTable := #[], attributes := #[] }
def k1m1 : Method := { name := "pick", desc := "(I)Lcom/example/starquarry/starquarry/model/ColumnType;", sig := { parameters := [.int], returnType := some (.object "com/example/starquarry/starquarry/model/ColumnType") }, accessFlags := 10, code := some k1c1 }
def k1c2 : Code := { maxStack := 2, maxLocals := 6, code := code, exceptionTable := #[], attributes := #[] }
def k1m2 : Method := { name := "law", desc := "(I)Z", sig := { parameters := [.int], returnType := some .boolean }, accessFlags := 9, code := some k1c2 }
/-- com/example/starquarry/starquarry/model/ColumnTypeIsTextPinLaw -/
def k1 : Class := { plain "com/example/starquarry/starquarry/model/ColumnTypeIsTextPinLaw" (some 0) with
  accessFlags := 49
  interfaces := #[]
  cf := some (fileOf pool1 48 #[] #[{ accessFlags := 2, nameIndex := 5, descriptorIndex := 6, attributes := #[] }, { accessFlags := 10, nameIndex := 51, descriptorIndex := 52, attributes := #[] }, { accessFlags := 9, nameIndex := 72, descriptorIndex := 73, attributes := #[] }] 49 2 #[] #[])
  fields := #[]
  methods := #[k1m0, k1m1, k1m2]
  instanceTypes := #[]
  staticTypes := #[]
  resolved := Array.replicate 76 none
  statics := none }

def pool2 : Array CpInfo := pool [(1, .class_ 2), (0, u "java/lang/constant/Constable"), (0, .class_ 4), (0, u "java/lang/Object")] 6

/-- java/lang/constant/Constable -/
def k2 : Class := { plain "java/lang/constant/Constable" (some 0) with
  accessFlags := 1537
  interfaces := #[]
  cf := some (fileOf pool2 1 #[] #[] 1537 3 #[] #[])
  fields := #[]
  methods := #[]
  instanceTypes := #[]
  staticTypes := #[]
  resolved := Array.replicate 11 none
  statics := none }

def pool3 : Array CpInfo := pool [(1, .class_ 2), (0, u "java/lang/Comparable"), (0, .class_ 4), (0, u "java/lang/Object")] 7

/-- java/lang/Comparable -/
def k3 : Class := { plain "java/lang/Comparable" (some 0) with
  accessFlags := 1537
  interfaces := #[]
  cf := some (fileOf pool3 1 #[] #[] 1537 3 #[] #[])
  fields := #[]
  methods := #[]
  instanceTypes := #[]
  staticTypes := #[]
  resolved := Array.replicate 12 none
  statics := none }

def pool4 : Array CpInfo := pool [(1, .class_ 2), (0, u "java/io/Serializable"), (0, .class_ 4), (0, u "java/lang/Object")] 2

/-- java/io/Serializable -/
def k4 : Class := { plain "java/io/Serializable" (some 0) with
  accessFlags := 1537
  interfaces := #[]
  cf := some (fileOf pool4 1 #[] #[] 1537 3 #[] #[])
  fields := #[]
  methods := #[]
  instanceTypes := #[]
  staticTypes := #[]
  resolved := Array.replicate 7 none
  statics := none }

def pool5 : Array CpInfo := pool [(2, .class_ 4), (1, u "java/lang/Enum"), (0, u "name"), (0, u "Ljava/lang/String;"), (2, u "ordinal"), (0, u "I"), (1, .class_ 14), (1, u "java/lang/Object"), (4, u "hash"), (86, .class_ 108), (1, u "java/lang/Enum$EnumDesc"), (2, .class_ 112), (0, u "java/lang/constant/Constable"), (0, .class_ 114), (0, u "java/lang/Comparable"), (0, .class_ 116), (0, u "java/io/Serializable")] 87

/-- java/lang/Enum -/
def k5 : Class := { plain "java/lang/Enum" (some 0) with
  accessFlags := 1057
  interfaces := #[2, 3, 4]
  cf := some (fileOf pool5 2 #[.nestMembers #[106]] #[] 1057 12 #[111, 113, 115] #[{ accessFlags := 18, nameIndex := 5, descriptorIndex := 6, attributes := #[] }, { accessFlags := 18, nameIndex := 9, descriptorIndex := 10, attributes := #[] }, { accessFlags := 2, nameIndex := 19, descriptorIndex := 10, attributes := #[] }])
  fields := #[{ name := "name", type := (.object "java/lang/String"), accessFlags := 18, slot := 0, constantValue := 0 }, { name := "ordinal", type := .int, accessFlags := 18, slot := 1, constantValue := 0 }, { name := "hash", type := .int, accessFlags := 2, slot := 2, constantValue := 0 }]
  methods := #[]
  instanceTypes := #[(.object "java/lang/String"), .int, .int]
  staticTypes := #[]
  resolved := Array.replicate 204 none
  statics := none }

def pool6 : Array CpInfo := pool [(1, .class_ 2), (0, u "com/example/starquarry/starquarry/model/ColumnType"), (2, u "BIT"), (0, u "Lcom/example/starquarry/starquarry/model/ColumnType;"), (2, u "BOOLEAN"), (2, u "UNSIGNED_BYTE"), (2, u "SHORT"), (2, u "INT"), (2, u "LONG"), (2, u "FLOAT"), (2, u "DOUBLE"), (0, .fieldref 1 29), (0, .nameAndType 30 6), (0, u "CHAR"), (0, .fieldref 1 32), (0, .nameAndType 33 6), (0, u "UNICODE_CHAR"), (2, u "POINT"), (2, u "CIRCLE"), (2, u "$VALUES"), (0, u "[Lcom/example/starquarry/starquarry/model/ColumnType;"), (6, .class_ 52), (1, u "java/lang/Enum"), (11, u "datatype"), (0, u "Ljava/lang/String;"), (0, .fieldref 1 67), (0, .nameAndType 68 65), (0, u "arraysize"), (2, u "valueClass"), (0, u "Ljava/lang/Class;"), (2, u "xtype"), (27, u "()Z"), (87, u "()Ljava/lang/String;"), (7, u "isText")] 28

def k6c0 : Code := { maxStack := 1, maxLocals := 1, code := prog_120_method_7_code, exceptionTable := #[], attributes := #[] }
def k6m0 : Method := { name := "arraysize", desc := "()Ljava/lang/String;", sig := { parameters := [], returnType := some (.object "java/lang/String") }, accessFlags := 1, code := some k6c0 }
def k6c1 : Code := { maxStack := 2, maxLocals := 1, code := prog_120_method_14_code, exceptionTable := #[], attributes := #[] }
def k6m1 : Method := { name := "isText", desc := "()Z", sig := { parameters := [], returnType := some .boolean }, accessFlags := 1, code := some k6c1 }
/-- com/example/starquarry/starquarry/model/ColumnType -/
def k6 : Class := { plain "com/example/starquarry/starquarry/model/ColumnType" (some 5) with
  accessFlags := 16433
  interfaces := #[]
  cf := some (fileOf pool6 1 #[] #[{ accessFlags := 1, nameIndex := 68, descriptorIndex := 191, attributes := #[] }, { accessFlags := 1, nameIndex := 199, descriptorIndex := 103, attributes := #[] }] 16433 50 #[] #[{ accessFlags := 16409, nameIndex := 5, descriptorIndex := 6, attributes := #[] }, { accessFlags := 16409, nameIndex := 9, descriptorIndex := 6, attributes := #[] }, { accessFlags := 16409, nameIndex := 12, descriptorIndex := 6, attributes := #[] }, { accessFlags := 16409, nameIndex := 15, descriptorIndex := 6, attributes := #[] }, { accessFlags := 16409, nameIndex := 18, descriptorIndex := 6, attributes := #[] }, { accessFlags := 16409, nameIndex := 21, descriptorIndex := 6, attributes := #[] }, { accessFlags := 16409, nameIndex := 24, descriptorIndex := 6, attributes := #[] }, { accessFlags := 16409, nameIndex := 27, descriptorIndex := 6, attributes := #[] }, { accessFlags := 16409, nameIndex := 30, descriptorIndex := 6, attributes := #[] }, { accessFlags := 16409, nameIndex := 33, descriptorIndex := 6, attributes := #[] }, { accessFlags := 16409, nameIndex := 36, descriptorIndex := 6, attributes := #[] }, { accessFlags := 16409, nameIndex := 39, descriptorIndex := 6, attributes := #[] }, { accessFlags := 18, nameIndex := 64, descriptorIndex := 65, attributes := #[] }, { accessFlags := 18, nameIndex := 68, descriptorIndex := 65, attributes := #[] }, { accessFlags := 18, nameIndex := 71, descriptorIndex := 72, attributes := #[] }, { accessFlags := 18, nameIndex := 75, descriptorIndex := 65, attributes := #[] }, { accessFlags := 4122, nameIndex := 42, descriptorIndex := 43, attributes := #[] }])
  fields := #[{ name := "BIT", type := (.object "com/example/starquarry/starquarry/model/ColumnType"), accessFlags := 16409, slot := 0, constantValue := 0 }, { name := "BOOLEAN", type := (.object "com/example/starquarry/starquarry/model/ColumnType"), accessFlags := 16409, slot := 1, constantValue := 0 }, { name := "UNSIGNED_BYTE", type := (.object "com/example/starquarry/starquarry/model/ColumnType"), accessFlags := 16409, slot := 2, constantValue := 0 }, { name := "SHORT", type := (.object "com/example/starquarry/starquarry/model/ColumnType"), accessFlags := 16409, slot := 3, constantValue := 0 }, { name := "INT", type := (.object "com/example/starquarry/starquarry/model/ColumnType"), accessFlags := 16409, slot := 4, constantValue := 0 }, { name := "LONG", type := (.object "com/example/starquarry/starquarry/model/ColumnType"), accessFlags := 16409, slot := 5, constantValue := 0 }, { name := "FLOAT", type := (.object "com/example/starquarry/starquarry/model/ColumnType"), accessFlags := 16409, slot := 6, constantValue := 0 }, { name := "DOUBLE", type := (.object "com/example/starquarry/starquarry/model/ColumnType"), accessFlags := 16409, slot := 7, constantValue := 0 }, { name := "CHAR", type := (.object "com/example/starquarry/starquarry/model/ColumnType"), accessFlags := 16409, slot := 8, constantValue := 0 }, { name := "UNICODE_CHAR", type := (.object "com/example/starquarry/starquarry/model/ColumnType"), accessFlags := 16409, slot := 9, constantValue := 0 }, { name := "POINT", type := (.object "com/example/starquarry/starquarry/model/ColumnType"), accessFlags := 16409, slot := 10, constantValue := 0 }, { name := "CIRCLE", type := (.object "com/example/starquarry/starquarry/model/ColumnType"), accessFlags := 16409, slot := 11, constantValue := 0 }, { name := "datatype", type := (.object "java/lang/String"), accessFlags := 18, slot := 3, constantValue := 0 }, { name := "arraysize", type := (.object "java/lang/String"), accessFlags := 18, slot := 4, constantValue := 0 }, { name := "valueClass", type := (.object "java/lang/Class"), accessFlags := 18, slot := 5, constantValue := 0 }, { name := "xtype", type := (.object "java/lang/String"), accessFlags := 18, slot := 6, constantValue := 0 }, { name := "$VALUES", type := (.array (.object "com/example/starquarry/starquarry/model/ColumnType")), accessFlags := 4122, slot := 12, constantValue := 0 }]
  methods := #[k6m0, k6m1]
  instanceTypes := #[(.object "java/lang/String"), .int, .int, (.object "java/lang/String"), (.object "java/lang/String"), (.object "java/lang/Class"), (.object "java/lang/String")]
  staticTypes := #[(.object "com/example/starquarry/starquarry/model/ColumnType"), (.object "com/example/starquarry/starquarry/model/ColumnType"), (.object "com/example/starquarry/starquarry/model/ColumnType"), (.object "com/example/starquarry/starquarry/model/ColumnType"), (.object "com/example/starquarry/starquarry/model/ColumnType"), (.object "com/example/starquarry/starquarry/model/ColumnType"), (.object "com/example/starquarry/starquarry/model/ColumnType"), (.object "com/example/starquarry/starquarry/model/ColumnType"), (.object "com/example/starquarry/starquarry/model/ColumnType"), (.object "com/example/starquarry/starquarry/model/ColumnType"), (.object "com/example/starquarry/starquarry/model/ColumnType"), (.object "com/example/starquarry/starquarry/model/ColumnType"), (.array (.object "com/example/starquarry/starquarry/model/ColumnType"))]
  resolved := Array.replicate 228 none
  statics := some 0 }

def pool7 : Array CpInfo := pool [(2, .class_ 4), (1, u "java/lang/CharSequence"), (42, .class_ 48), (0, u "java/lang/CharSequence$1CodePointIterator"), (10, .class_ 60), (0, u "java/lang/CharSequence$1CharIterator"), (5, .class_ 67), (0, u "java/lang/Object")] 63

/-- java/lang/CharSequence -/
def k7 : Class := { plain "java/lang/CharSequence" (some 0) with
  accessFlags := 1537
  interfaces := #[]
  cf := some (fileOf pool7 2 #[.nestMembers #[47, 59]] #[] 1537 66 #[] #[])
  fields := #[]
  methods := #[]
  instanceTypes := #[]
  staticTypes := #[]
  resolved := Array.replicate 131 none
  statics := none }

def pool8 : Array CpInfo := pool [(1, .class_ 2), (0, u "java/lang/constant/ConstantDesc"), (0, .class_ 4), (0, u "java/lang/Object")] 32

/-- java/lang/constant/ConstantDesc -/
def k8 : Class := { plain "java/lang/constant/ConstantDesc" (some 0) with
  accessFlags := 1537
  interfaces := #[]
  cf := some (fileOf pool8 1 #[] #[] 1537 3 #[] #[])
  fields := #[]
  methods := #[]
  instanceTypes := #[]
  staticTypes := #[]
  resolved := Array.replicate 37 none
  statics := none }

def pool9 : Array CpInfo := pool [(2, .class_ 4), (1, u "java/lang/Object"), (0, u "<init>"), (0, u "()V"), (2, .fieldref 10 11), (0, .class_ 12), (0, .nameAndType 13 14), (0, u "java/lang/String"), (0, u "value"), (0, u "[B"), (0, .fieldref 10 16), (0, .nameAndType 17 18), (0, u "coder"), (0, u "B"), (2, u "hash"), (0, u "I"), (2, u "hashIsZero"), (0, u "Z"), (11, .fieldref 10 39), (0, .nameAndType 40 26), (0, u "COMPACT_STRINGS"), (66, .class_ 109), (1, u "java/lang/StringLatin1"), (431, .methodref 107 542), (0, .nameAndType 543 544), (0, u "equals"), (0, u "([B[B)Z"), (28, u "(Ljava/lang/Object;)Z"), (1, .class_ 576), (0, u "java/lang/CharSequence"), (22, u "CASE_INSENSITIVE_ORDER"), (0, u "Ljava/util/Comparator;"), (500, u "serialPersistentFields"), (0, u "[Ljava/io/ObjectStreamField;"), (0, .class_ 1104), (0, u "java/lang/String$CaseInsensitiveComparator"), (1, .class_ 1107), (0, u "java/io/Serializable"), (0, .class_ 1109), (0, u "java/lang/Comparable"), (0, .class_ 1111), (0, u "java/lang/constant/Constable"), (0, .class_ 1113), (0, u "java/lang/constant/ConstantDesc"), (2, u "serialVersionUID"), (0, u "J"), (3, u "REPL"), (0, u "C"), (2, u "LATIN1"), (1, u "UTF16")] 323

def k9m0 : Method := { name := "<init>", desc := "()V", sig := { parameters := [], returnType := none }, accessFlags := 1, code := none }
def k9c1 : Code := { maxStack := 2, maxLocals := 3, code := jdk_42_method_66_code, exceptionTable := #[], attributes := #[] }
def k9m1 : Method := { name := "equals", desc := "(Ljava/lang/Object;)Z", sig := { parameters := [(.object "java/lang/Object")], returnType := some .boolean }, accessFlags := 1, code := some k9c1 }
/-- java/lang/String -/
def k9 : Class := { plain "java/lang/String" (some 0) with
  accessFlags := 49
  interfaces := #[4, 3, 7, 2, 8]
  cf := some (fileOf pool9 10 #[.nestMembers #[1103]] #[{ accessFlags := 1, nameIndex := 5, descriptorIndex := 6, attributes := #[] }, { accessFlags := 1, nameIndex := 543, descriptorIndex := 573, attributes := #[] }] 49 2 #[1106, 1108, 575, 1110, 1112] #[{ accessFlags := 18, nameIndex := 13, descriptorIndex := 14, attributes := #[] }, { accessFlags := 18, nameIndex := 17, descriptorIndex := 18, attributes := #[] }, { accessFlags := 2, nameIndex := 21, descriptorIndex := 22, attributes := #[] }, { accessFlags := 2, nameIndex := 25, descriptorIndex := 26, attributes := #[] }, { accessFlags := 26, nameIndex := 1116, descriptorIndex := 1117, attributes := #[] }, { accessFlags := 24, nameIndex := 40, descriptorIndex := 26, attributes := #[] }, { accessFlags := 26, nameIndex := 1101, descriptorIndex := 1102, attributes := #[] }, { accessFlags := 26, nameIndex := 1121, descriptorIndex := 1122, attributes := #[] }, { accessFlags := 25, nameIndex := 599, descriptorIndex := 600, attributes := #[] }, { accessFlags := 24, nameIndex := 1125, descriptorIndex := 18, attributes := #[] }, { accessFlags := 24, nameIndex := 1127, descriptorIndex := 18, attributes := #[] }])
  fields := #[{ name := "value", type := (.array .byte), accessFlags := 18, slot := 0, constantValue := 0 }, { name := "coder", type := .byte, accessFlags := 18, slot := 1, constantValue := 0 }, { name := "hash", type := .int, accessFlags := 2, slot := 2, constantValue := 0 }, { name := "hashIsZero", type := .boolean, accessFlags := 2, slot := 3, constantValue := 0 }, { name := "serialVersionUID", type := .long, accessFlags := 26, slot := 0, constantValue := 0 }, { name := "COMPACT_STRINGS", type := .boolean, accessFlags := 24, slot := 1, constantValue := 0 }, { name := "serialPersistentFields", type := (.array (.object "java/io/ObjectStreamField")), accessFlags := 26, slot := 2, constantValue := 0 }, { name := "REPL", type := .char, accessFlags := 26, slot := 3, constantValue := 0 }, { name := "CASE_INSENSITIVE_ORDER", type := (.object "java/util/Comparator"), accessFlags := 25, slot := 4, constantValue := 0 }, { name := "LATIN1", type := .byte, accessFlags := 24, slot := 5, constantValue := 0 }, { name := "UTF16", type := .byte, accessFlags := 24, slot := 6, constantValue := 0 }]
  methods := #[k9m0, k9m1]
  instanceTypes := #[(.array .byte), .byte, .int, .boolean]
  staticTypes := #[.long, .boolean, (.array (.object "java/io/ObjectStreamField")), .char, (.object "java/util/Comparator"), .byte, .byte]
  resolved := Array.replicate 1451 none
  statics := some 1 }

def pool10 : Array CpInfo := pool [(4, .class_ 6), (1, u "java/lang/Object"), (0, u "<init>"), (0, u "()V"), (5, .class_ 16), (1, u "java/lang/StringLatin1"), (104, u "$assertionsDisabled"), (0, u "Z"), (98, .class_ 223), (1, u "java/lang/StringLatin1$LinesSpliterator"), (57, u "equals"), (0, u "([B[B)Z"), (107, .class_ 391), (0, u "java/lang/StringLatin1$CharsSpliterator")] 3

def k10m0 : Method := { name := "<init>", desc := "()V", sig := { parameters := [], returnType := none }, accessFlags := 0, code := none }
def k10c1 : Code := { maxStack := 3, maxLocals := 3, code := jdk_43_method_13_code, exceptionTable := #[], attributes := #[] }
def k10m1 : Method := { name := "equals", desc := "([B[B)Z", sig := { parameters := [(.array .byte), (.array .byte)], returnType := some .boolean }, accessFlags := 9, code := some k10c1 }
/-- java/lang/StringLatin1 -/
def k10 : Class := { plain "java/lang/StringLatin1" (some 0) with
  accessFlags := 48
  interfaces := #[]
  cf := some (fileOf pool10 14 #[.nestMembers #[390, 221]] #[{ accessFlags := 0, nameIndex := 7, descriptorIndex := 8, attributes := #[] }, { accessFlags := 9, nameIndex := 281, descriptorIndex := 282, attributes := #[] }] 48 4 #[] #[{ accessFlags := 4120, nameIndex := 121, descriptorIndex := 122, attributes := #[] }])
  fields := #[{ name := "$assertionsDisabled", type := .boolean, accessFlags := 4120, slot := 0, constantValue := 0 }]
  methods := #[k10m0, k10m1]
  instanceTypes := #[]
  staticTypes := #[.boolean]
  resolved := Array.replicate 395 none
  statics := none }

def pool11 : Array CpInfo := pool [(2, .class_ 4), (1, u "java/lang/Object"), (0, u "<init>"), (0, u "()V"), (17, .class_ 26), (1, u "jdk/internal/util/Preconditions"), (28, .class_ 56), (0, u "jdk/internal/util/Preconditions$4"), (57, .class_ 115), (0, u "jdk/internal/util/Preconditions$1"), (7, u "SIOOBE_FORMATTER"), (0, u "Ljava/util/function/BiFunction;"), (0, .class_ 126), (0, u "jdk/internal/util/Preconditions$2"), (3, u "AIOOBE_FORMATTER"), (0, .class_ 132), (0, u "jdk/internal/util/Preconditions$3"), (3, u "IOOBE_FORMATTER")] 57

def k11m0 : Method := { name := "<init>", desc := "()V", sig := { parameters := [], returnType := none }, accessFlags := 1, code := none }
/-- jdk/internal/util/Preconditions -/
def k11 : Class := { plain "jdk/internal/util/Preconditions" (some 0) with
  accessFlags := 33
  interfaces := #[]
  cf := some (fileOf pool11 24 #[.nestMembers #[55, 131, 125, 114]] #[{ accessFlags := 1, nameIndex := 5, descriptorIndex := 6, attributes := #[] }] 33 2 #[] #[{ accessFlags := 25, nameIndex := 123, descriptorIndex := 124, attributes := #[] }, { accessFlags := 25, nameIndex := 130, descriptorIndex := 124, attributes := #[] }, { accessFlags := 25, nameIndex := 136, descriptorIndex := 124, attributes := #[] }])
  fields := #[{ name := "SIOOBE_FORMATTER", type := (.object "java/util/function/BiFunction"), accessFlags := 25, slot := 0, constantValue := 0 }, { name := "AIOOBE_FORMATTER", type := (.object "java/util/function/BiFunction"), accessFlags := 25, slot := 1, constantValue := 0 }, { name := "IOOBE_FORMATTER", type := (.object "java/util/function/BiFunction"), accessFlags := 25, slot := 2, constantValue := 0 }]
  methods := #[k11m0]
  instanceTypes := #[]
  staticTypes := #[(.object "java/util/function/BiFunction"), (.object "java/util/function/BiFunction"), (.object "java/util/function/BiFunction")]
  resolved := Array.replicate 194 none
  statics := some 2 }

def pool12 : Array CpInfo := pool [(9, u "<init>"), (6, .class_ 18), (1, u "java/lang/Object"), (0, u "()V"), (1, .class_ 23), (1, u "jdk/internal/util/ArraysSupport"), (0, u "LOG2_ARRAY_LONG_INDEX_SCALE"), (0, u "I"), (2, u "U"), (0, u "Ljdk/internal/misc/Unsafe;"), (8, u "BIG_ENDIAN"), (0, u "Z"), (8, u "LOG2_BYTE_BIT_SIZE"), (4, u "LOG2_ARRAY_INT_INDEX_SCALE"), (54, u "JLA"), (0, u "Ljdk/internal/access/JavaLangAccess;"), (11, u "LOG2_ARRAY_BOOLEAN_INDEX_SCALE"), (9, u "LOG2_ARRAY_BYTE_INDEX_SCALE"), (5, u "LOG2_ARRAY_CHAR_INDEX_SCALE"), (5, u "LOG2_ARRAY_SHORT_INDEX_SCALE"), (18, u "LOG2_ARRAY_FLOAT_INDEX_SCALE"), (24, u "LOG2_ARRAY_DOUBLE_INDEX_SCALE"), (89, u "T_BOOLEAN"), (2, u "T_CHAR"), (1, u "T_FLOAT"), (1, u "T_DOUBLE"), (1, u "T_BYTE"), (1, u "T_SHORT"), (1, u "T_INT"), (1, u "T_LONG"), (1, u "SOFT_MAX_ARRAY_LENGTH")] 83

def k12m0 : Method := { name := "<init>", desc := "()V", sig := { parameters := [], returnType := none }, accessFlags := 2, code := none }
/-- jdk/internal/util/ArraysSupport -/
def k12 : Class := { plain "jdk/internal/util/ArraysSupport" (some 0) with
  accessFlags := 33
  interfaces := #[]
  cf := some (fileOf pool12 21 #[] #[{ accessFlags := 2, nameIndex := 9, descriptorIndex := 19, attributes := #[] }] 33 16 #[] #[{ accessFlags := 24, nameIndex := 28, descriptorIndex := 29, attributes := #[] }, { accessFlags := 26, nameIndex := 38, descriptorIndex := 39, attributes := #[] }, { accessFlags := 25, nameIndex := 121, descriptorIndex := 25, attributes := #[] }, { accessFlags := 25, nameIndex := 131, descriptorIndex := 25, attributes := #[] }, { accessFlags := 25, nameIndex := 137, descriptorIndex := 25, attributes := #[] }, { accessFlags := 25, nameIndex := 143, descriptorIndex := 25, attributes := #[] }, { accessFlags := 25, nameIndex := 53, descriptorIndex := 25, attributes := #[] }, { accessFlags := 25, nameIndex := 24, descriptorIndex := 25, attributes := #[] }, { accessFlags := 25, nameIndex := 162, descriptorIndex := 25, attributes := #[] }, { accessFlags := 25, nameIndex := 187, descriptorIndex := 25, attributes := #[] }, { accessFlags := 26, nameIndex := 48, descriptorIndex := 25, attributes := #[] }, { accessFlags := 25, nameIndex := 277, descriptorIndex := 25, attributes := #[] }, { accessFlags := 25, nameIndex := 280, descriptorIndex := 25, attributes := #[] }, { accessFlags := 25, nameIndex := 282, descriptorIndex := 25, attributes := #[] }, { accessFlags := 25, nameIndex := 284, descriptorIndex := 25, attributes := #[] }, { accessFlags := 25, nameIndex := 286, descriptorIndex := 25, attributes := #[] }, { accessFlags := 25, nameIndex := 288, descriptorIndex := 25, attributes := #[] }, { accessFlags := 25, nameIndex := 290, descriptorIndex := 25, attributes := #[] }, { accessFlags := 25, nameIndex := 292, descriptorIndex := 25, attributes := #[] }, { accessFlags := 26, nameIndex := 108, descriptorIndex := 109, attributes := #[] }, { accessFlags := 25, nameIndex := 294, descriptorIndex := 25, attributes := #[] }])
  fields := #[{ name := "U", type := (.object "jdk/internal/misc/Unsafe"), accessFlags := 24, slot := 0, constantValue := 0 }, { name := "BIG_ENDIAN", type := .boolean, accessFlags := 26, slot := 1, constantValue := 0 }, { name := "LOG2_ARRAY_BOOLEAN_INDEX_SCALE", type := .int, accessFlags := 25, slot := 2, constantValue := 0 }, { name := "LOG2_ARRAY_BYTE_INDEX_SCALE", type := .int, accessFlags := 25, slot := 3, constantValue := 0 }, { name := "LOG2_ARRAY_CHAR_INDEX_SCALE", type := .int, accessFlags := 25, slot := 4, constantValue := 0 }, { name := "LOG2_ARRAY_SHORT_INDEX_SCALE", type := .int, accessFlags := 25, slot := 5, constantValue := 0 }, { name := "LOG2_ARRAY_INT_INDEX_SCALE", type := .int, accessFlags := 25, slot := 6, constantValue := 0 }, { name := "LOG2_ARRAY_LONG_INDEX_SCALE", type := .int, accessFlags := 25, slot := 7, constantValue := 0 }, { name := "LOG2_ARRAY_FLOAT_INDEX_SCALE", type := .int, accessFlags := 25, slot := 8, constantValue := 0 }, { name := "LOG2_ARRAY_DOUBLE_INDEX_SCALE", type := .int, accessFlags := 25, slot := 9, constantValue := 0 }, { name := "LOG2_BYTE_BIT_SIZE", type := .int, accessFlags := 26, slot := 10, constantValue := 0 }, { name := "T_BOOLEAN", type := .int, accessFlags := 25, slot := 11, constantValue := 0 }, { name := "T_CHAR", type := .int, accessFlags := 25, slot := 12, constantValue := 0 }, { name := "T_FLOAT", type := .int, accessFlags := 25, slot := 13, constantValue := 0 }, { name := "T_DOUBLE", type := .int, accessFlags := 25, slot := 14, constantValue := 0 }, { name := "T_BYTE", type := .int, accessFlags := 25, slot := 15, constantValue := 0 }, { name := "T_SHORT", type := .int, accessFlags := 25, slot := 16, constantValue := 0 }, { name := "T_INT", type := .int, accessFlags := 25, slot := 17, constantValue := 0 }, { name := "T_LONG", type := .int, accessFlags := 25, slot := 18, constantValue := 0 }, { name := "JLA", type := (.object "jdk/internal/access/JavaLangAccess"), accessFlags := 26, slot := 19, constantValue := 0 }, { name := "SOFT_MAX_ARRAY_LENGTH", type := .int, accessFlags := 25, slot := 20, constantValue := 0 }]
  methods := #[k12m0]
  instanceTypes := #[]
  staticTypes := #[(.object "jdk/internal/misc/Unsafe"), .boolean, .int, .int, .int, .int, .int, .int, .int, .int, .int, .int, .int, .int, .int, .int, .int, .int, .int, (.object "jdk/internal/access/JavaLangAccess"), .int]
  resolved := Array.replicate 378 none
  statics := none }

def pool13 : Array CpInfo := pool [(1, u "java/lang/Cloneable"), (0, .class_ 1), (0, u "java/lang/Object"), (0, .class_ 3)] 3

/-- java/lang/Cloneable -/
def k13 : Class := { plain "java/lang/Cloneable" (some 0) with
  accessFlags := 1537
  interfaces := #[]
  cf := some (fileOf pool13 2 #[] #[] 1537 4 #[] #[])
  fields := #[]
  methods := #[]
  instanceTypes := #[]
  staticTypes := #[]
  resolved := Array.replicate 8 none
  statics := none }

/-- the primitive byte -/
def k14 : Class := { plain "byte" none with kind := .primitive 'B', accessFlags := 0x411 }
/-- [B -/
def k15 : Class := { plain "[B" (some 0) with kind := .array 14 .byte, interfaces := #[13, 4], accessFlags := 1041 }

/-- the primitive int -/
def k16 : Class := { plain "int" none with kind := .primitive 'I', accessFlags := 0x411 }
/-- [I -/
def k17 : Class := { plain "[I" (some 0) with kind := .array 16 .int, interfaces := #[13, 4], accessFlags := 1041 }

def heap : Heap := #[{ cls := 6, slots := #[.ref 3, .ref 15, .ref 7, .ref 6, .ref 12, .ref 20, .ref 19, .ref 8, .ref 4, .ref 5, .ref 16, .ref 9, .null], vm := .statics 6 },
  { cls := 9, slots := #[.long 0, .int 1, .null, .int 0, .null, .int 0, .int 0], vm := .statics 9 },
  { cls := 11, slots := #[.null, .null, .null], vm := .statics 11 },
  { cls := 6, slots := #[.null, .int 0, .int 0, .null, .null, .null, .null], vm := .none },
  { cls := 6, slots := #[.null, .int 8, .int 0, .null, .ref 13, .null, .null], vm := .none },
  { cls := 6, slots := #[.null, .int 9, .int 0, .null, .ref 13, .null, .null], vm := .none },
  { cls := 6, slots := #[.null, .int 3, .int 0, .null, .null, .null, .null], vm := .none },
  { cls := 6, slots := #[.null, .int 2, .int 0, .null, .null, .null, .null], vm := .none },
  { cls := 6, slots := #[.null, .int 7, .int 0, .null, .null, .null, .null], vm := .none },
  { cls := 6, slots := #[.null, .int 11, .int 0, .null, .ref 10, .null, .null], vm := .none },
  { cls := 9, slots := #[.ref 11, .int 0, .int 0, .int 0], vm := .none },
  { cls := 15, slots := #[.int 51], vm := .none },
  { cls := 6, slots := #[.null, .int 4, .int 0, .null, .null, .null, .null], vm := .none },
  { cls := 9, slots := #[.ref 14, .int 0, .int 0, .int 0], vm := .none },
  { cls := 15, slots := #[.int 42], vm := .none },
  { cls := 6, slots := #[.null, .int 1, .int 0, .null, .null, .null, .null], vm := .none },
  { cls := 6, slots := #[.null, .int 10, .int 0, .null, .ref 17, .null, .null], vm := .none },
  { cls := 9, slots := #[.ref 18, .int 0, .int 0, .int 0], vm := .none },
  { cls := 15, slots := #[.int 50], vm := .none },
  { cls := 6, slots := #[.null, .int 6, .int 0, .null, .null, .null, .null], vm := .none },
  { cls := 6, slots := #[.null, .int 5, .int 0, .null, .null, .null, .null], vm := .none }]
def classes : Array Class := #[k0, k1, k2, k3, k4, k5, k6, k7, k8, k9, k10, k11, k12, k13, k14, k15, k16, k17]
def interned : List (Array UInt16 × Addr) := []
def slotsUsed : Nat := 122
def theMethod : MethodId := ⟨1, 2⟩
def args0 : Array Value := #[.int 5]
def aboutOver (below : List Frame) : State where
  vm := { classes := classes, interned := interned.toArray }
  heap := heap
  slotsUsed := slotsUsed
  threads := #[{ frames := .invoking theMethod args0 :: below }]
def below0 : List Frame := [.native { method := ⟨0, 0⟩, args := #[] }]
def about1 : State := aboutOver below0
def p0 : Program := .bare "" "" ""
def e0 : Env := launch0.env 0 0 0
theorem w_frames : about1.frames = Frame.invoking theMethod args0 :: below0 := rfl
set_option maxRecDepth 65536 in
theorem w_args : argsFit about1.vm theMethod args0 = true := by decide +kernel
set_option maxRecDepth 65536 in
theorem w_heap : heapFits about1 = true := by decide +kernel
set_option maxRecDepth 65536 in
theorem w_runnable : about1.curStatus? = some .runnable := by decide +kernel
set_option maxRecDepth 65536 in
theorem w_alone : about1.alone = true := by decide +kernel
set_option maxRecDepth 65536 in
theorem w_named : about1.methodNamed? x = some theMethod := by decide +kernel
set_option maxRecDepth 65536 in
theorem w_hears : about1.hears theMethod below0 = true := by decide +kernel
set_option maxRecDepth 65536 in
theorem w_ripe : about1.ripe theMethod args0 below0 = true := by decide +kernel
theorem w_running : about1.status = .running := rfl
set_option maxRecDepth 65536 in
theorem w_room : about1.hasRoom e0.platform room_1 = true :=
  launch0.hasRoom_least _ room_1 (by decide +kernel) (by decide +kernel) (by decide +kernel) (by decide +kernel) (by decide +kernel) (by decide +kernel)
theorem allAtoms_all (ts : List Jvm.Cond) (a : Array Jvm.Value) (st : Jvm.State) : (allAtoms ts).before a st = ts.all (fun c => c.before a st) := by
  induction ts with
  | nil => rfl
  | cons c t ih =>
    show (Jvm.Cond.and c (allAtoms t)).before a st = _
    rw [Jvm.Cond.before_and, ih, List.all_cons]
def words1 : List Jvm.Cond := Jvm.Cond.code x code maxLocals ret :: tables_1
/-- a 'code' word, met by the world's own term for the bytes: nothing is compared byte by byte -/
theorem code_word {y : MethodName} {bytes : ByteArray} {mx : Nat} {rt : Option FieldType} {a : Array Value} {s : State} {m : MethodId} {meth : Method} {c : Code} (h1 : s.methodNamed? y = some m) (h2 : s.vm.method? m = some meth) (h3 : meth.code = some c) (h4 : c.code = bytes)
    (h5 : (c.maxLocals == mx && c.exceptionTable.isEmpty && decide (c.maxStack ≤ mostOperands) && decide (meth.sig.returnType = rt) && !meth.locks && decide (parseMethodDescriptor y.desc = some meth.sig)) = true) : (Jvm.Cond.code y bytes mx rt).before a s = true := by
  simp only [Bool.and_eq_true, beq_iff_eq, Bool.not_eq_true', decide_eq_true_eq] at h5
  obtain ⟨⟨⟨⟨⟨g1, g2⟩, g3⟩, g4⟩, g5⟩, g6⟩ := h5
  simp [Cond.before, Cond.holds, Cond.value, h1, h2, h3, h4, g1, g2, g3, g4, g5, g6]
def isCode : Jvm.Cond → Bool
  | .code _ _ _ _ => true
  | _ => false
theorem all_split {L : List Jvm.Cond} {P : Jvm.Cond → Bool} (h1 : L.all (fun c => isCode c || P c) = true) (h2 : ∀ c ∈ L.filter isCode, P c = true) : L.all P = true := by
  refine List.all_eq_true.mpr fun c hc => ?_
  have h := List.all_eq_true.mp h1 c hc
  rcases Bool.eq_false_or_eq_true (isCode c) with hi | hi
  · exact h2 c (List.mem_filter.mpr ⟨hc, hi⟩)
  · simpa [hi] using h
set_option maxRecDepth 65536 in
theorem w_c0 : (Jvm.Cond.code x code maxLocals ret).before args0 about1 = true := code_word (m := ⟨1, 2⟩) (meth := k1m2) (c := k1c2) (by decide +kernel) rfl rfl rfl (by decide +kernel)
set_option maxRecDepth 65536 in
theorem w_c1 : (Jvm.Cond.code ({ cls := "com/example/starquarry/starquarry/model/ColumnTypeIsTextPinLaw", name := "pick", desc := "(I)Lcom/example/starquarry/starquarry/model/ColumnType;" } : Jvm.MethodName) method_2_code (1 : Nat) (Option.some (Jvm.ClassFile.FieldType.object "com/example/starquarry/starquarry/model/ColumnType"))).before args0 about1 = true := code_word (m := ⟨1, 1⟩) (meth := k1m1) (c := k1c1) (by decide +kernel) rfl rfl rfl (by decide +kernel)
set_option maxRecDepth 65536 in
theorem w_c2 : (Jvm.Cond.code ({ cls := "com/example/starquarry/starquarry/model/ColumnType", name := "arraysize", desc := "()Ljava/lang/String;" } : Jvm.MethodName) prog_120_method_7_code (1 : Nat) (Option.some (Jvm.ClassFile.FieldType.object "java/lang/String"))).before args0 about1 = true := code_word (m := ⟨6, 0⟩) (meth := k6m0) (c := k6c0) (by decide +kernel) rfl rfl rfl (by decide +kernel)
set_option maxRecDepth 65536 in
theorem w_c3 : (Jvm.Cond.code ({ cls := "java/lang/String", name := "equals", desc := "(Ljava/lang/Object;)Z" } : Jvm.MethodName) jdk_42_method_66_code (3 : Nat) (Option.some Jvm.ClassFile.FieldType.boolean)).before args0 about1 = true := code_word (m := ⟨9, 1⟩) (meth := k9m1) (c := k9c1) (by decide +kernel) rfl rfl rfl (by decide +kernel)
set_option maxRecDepth 65536 in
theorem w_c4 : (Jvm.Cond.code ({ cls := "com/example/starquarry/starquarry/model/ColumnType", name := "isText", desc := "()Z" } : Jvm.MethodName) prog_120_method_14_code (1 : Nat) (Option.some Jvm.ClassFile.FieldType.boolean)).before args0 about1 = true := code_word (m := ⟨6, 1⟩) (meth := k6m1) (c := k6c1) (by decide +kernel) rfl rfl rfl (by decide +kernel)
set_option maxRecDepth 65536 in
theorem w_c5 : (Jvm.Cond.code ({ cls := "java/lang/StringLatin1", name := "equals", desc := "([B[B)Z" } : Jvm.MethodName) jdk_43_method_13_code (3 : Nat) (Option.some Jvm.ClassFile.FieldType.boolean)).before args0 about1 = true := code_word (m := ⟨10, 1⟩) (meth := k10m1) (c := k10c1) (by decide +kernel) rfl rfl rfl (by decide +kernel)
def codes1 : List Jvm.Cond := [Jvm.Cond.code x code maxLocals ret, Jvm.Cond.code ({ cls := "com/example/starquarry/starquarry/model/ColumnTypeIsTextPinLaw", name := "pick", desc := "(I)Lcom/example/starquarry/starquarry/model/ColumnType;" } : Jvm.MethodName) method_2_code (1 : Nat) (Option.some (Jvm.ClassFile.FieldType.object "com/example/starquarry/starquarry/model/ColumnType")), Jvm.Cond.code ({ cls := "com/example/starquarry/starquarry/model/ColumnType", name := "arraysize", desc := "()Ljava/lang/String;" } : Jvm.MethodName) prog_120_method_7_code (1 : Nat) (Option.some (Jvm.ClassFile.FieldType.object "java/lang/String")), Jvm.Cond.code ({ cls := "java/lang/String", name := "equals", desc := "(Ljava/lang/Object;)Z" } : Jvm.MethodName) jdk_42_method_66_code (3 : Nat) (Option.some Jvm.ClassFile.FieldType.boolean), Jvm.Cond.code ({ cls := "com/example/starquarry/starquarry/model/ColumnType", name := "isText", desc := "()Z" } : Jvm.MethodName) prog_120_method_14_code (1 : Nat) (Option.some Jvm.ClassFile.FieldType.boolean), Jvm.Cond.code ({ cls := "java/lang/StringLatin1", name := "equals", desc := "([B[B)Z" } : Jvm.MethodName) jdk_43_method_13_code (3 : Nat) (Option.some Jvm.ClassFile.FieldType.boolean)]
set_option maxRecDepth 65536 in
theorem codes_eq : words1.filter isCode = codes1 := rfl
theorem w_codes : ∀ c ∈ words1.filter isCode, c.before args0 about1 = true := by
  rw [codes_eq]
  intro c hc
  simp only [codes1, List.mem_cons, List.not_mem_nil, or_false] at hc
  rcases hc with rfl | rfl | rfl | rfl | rfl | rfl
  · exact w_c0
  · exact w_c1
  · exact w_c2
  · exact w_c3
  · exact w_c4
  · exact w_c5
set_option maxRecDepth 65536 in
theorem w_t1 : (words1.take 24).all (fun c => isCode c || c.before args0 about1) = true := by decide +kernel
set_option maxRecDepth 65536 in
theorem w_t2 : ((words1.drop 24).take 24).all (fun c => isCode c || c.before args0 about1) = true := by decide +kernel
set_option maxRecDepth 65536 in
theorem w_t3 : ((words1.drop 24).drop 24).all (fun c => isCode c || c.before args0 about1) = true := by decide +kernel
theorem w_tables : (allAtoms (Jvm.Cond.code x code maxLocals ret :: tables_1)).before args0 about1 = true := by
  rw [allAtoms_all]
  show words1.all (fun c => c.before args0 about1) = true
  refine all_split ?_ w_codes
  rw [← List.take_append_drop 24 words1, List.all_append, w_t1, ← List.take_append_drop 24 (words1.drop 24), List.all_append, w_t2, w_t3]
  rfl
set_option maxRecDepth 65536 in
theorem w_rest : rest_1_c.before args0 about1 = true := by decide +kernel
set_option maxRecDepth 65536 in
theorem w_case : (Jvm.Cond.and given_1 narrow_1).before args0 about1 = true := by decide +kernel
set_option maxRecDepth 65536 in
theorem w_consts : constsHeld consts_1 about1 := Jvm.Lit.constsHeldB_iff.mp (by decide +kernel)
theorem w_applies : (headSpec (Jvm.Cond.code x code maxLocals ret :: tables_1) room_1).applies x e0.platform about1 = true :=
  (Spec.applies_iff w_frames).mpr ⟨w_running, w_runnable, w_alone, w_named, w_hears, w_ripe, w_room, w_tables⟩
theorem atStart : AtStart classFile x code maxLocals ret World_1 tables_1 room_1 Calls_1 rest_1 Pre_1 launch0 p0 e0 about1 theMethod args0 below0 :=
  ⟨lists_1, trivial, launch0.admits_env _ _ _, launch0.least_env, fairChoices_fair.cas, fairChoices_fair.clock, w_frames, w_args, w_heap, w_applies, ⟨w_consts, trivial⟩, w_rest, w_case⟩
end start1
theorem witness_1 : WitnessClaimed_1 := ⟨start1.p0, start1.e0, start1.about1, start1.theMethod, start1.args0, start1.below0, start1.atStart⟩
end Jvm.Pilot.@@N@@
