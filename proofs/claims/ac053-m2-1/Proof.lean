import JvmDerived
import JvmDerived.Pilot.@@N@@Statement
import JvmDerived.Pilot.@@N@@Code
set_option linter.unusedVariables false
set_option linter.unusedSimpArgs false
@@BLOCK:NumsL.lean.txt@@
namespace Jvm.Pilot.@@N@@
open Jvm Jvm.ClassFile Sem Op Lib Jvm.Free Jvm.Stand Jvm.LawKit Jvm.RoadKit Bundle Jvm.Pilot.@@N@@.Jvm.D
theorem own_retI {p : Program} {l : Launch} {e : Env} {R : Room} {s : State} {m : MethodId} {args : Array Value} {below : List Frame} {meth : Method} {c : Code} {T : State} {locs : List Loc} {cells slots : Nat} (X : Stand p l e R s m args below meth c T locs cells slots) (hx : p.tables.exec = Jvm.exec) {pc : Nat} {Ls : Array Slot} {z : Int32} {rest : List Value} (hret : meth.sig.returnType = some .int) (hd : decode c.code pc = .ok (.ireturn, 1)) {fs : List Frame}
    (hl : ∀ (f : JFrame) (acts : List Action), f.method = m → f.locked = none → f.entered = [] → (doReturn e (T.setTop f) acts (some (.int z))).1 = T.setFrames fs) : Steps p.tables e below (T.setTop (mkF m pc Ls (.int z :: rest))) (T.setFrames fs) :=
  retOut X hx hret rfl (Or.inl ⟨rfl, Or.inl rfl, z, rfl⟩) hd hl
theorem own_retA {p : Program} {l : Launch} {e : Env} {R : Room} {s : State} {m : MethodId} {args : Array Value} {below : List Frame} {meth : Method} {c : Code} {T : State} {locs : List Loc} {cells slots : Nat} (X : Stand p l e R s m args below meth c T locs cells slots) (hx : p.tables.exec = Jvm.exec) {pc : Nat} {Ls : Array Slot} {w : Value} {t : FieldType} {rest : List Value} (hret : meth.sig.returnType = some t) (ht : t.isReference = true) (hw : w.isRef = true) (hn : narrow t w = w) (hd : decode c.code pc = .ok (.areturn, 1)) {fs : List Frame}
    (hl : ∀ (f : JFrame) (acts : List Action), f.method = m → f.locked = none → f.entered = [] → (doReturn e (T.setTop f) acts (some w)).1 = T.setFrames fs) : Steps p.tables e below (T.setTop (mkF m pc Ls (w :: rest))) (T.setFrames fs) :=
  retOut X hx hret hn (Or.inr (Or.inr (Or.inr (Or.inr ⟨rfl, ht, hw⟩)))) hd hl
theorem own_retJ {p : Program} {l : Launch} {e : Env} {R : Room} {s : State} {m : MethodId} {args : Array Value} {below : List Frame} {meth : Method} {c : Code} {T : State} {locs : List Loc} {cells slots : Nat} (X : Stand p l e R s m args below meth c T locs cells slots) (hx : p.tables.exec = Jvm.exec) {pc : Nat} {Ls : Array Slot} {z : Int64} {rest : List Value} (hret : meth.sig.returnType = some .long) (hd : decode c.code pc = .ok (.lreturn, 1)) {fs : List Frame}
    (hl : ∀ (f : JFrame) (acts : List Action), f.method = m → f.locked = none → f.entered = [] → (doReturn e (T.setTop f) acts (some (.long z))).1 = T.setFrames fs) : Steps p.tables e below (T.setTop (mkF m pc Ls (.long z :: rest))) (T.setFrames fs) :=
  retOut X hx hret rfl (Or.inr (Or.inl ⟨rfl, rfl, z, rfl⟩)) hd hl
theorem own_exttr {h0 h h' : Heap} (E : Ext h0 h) (E' : Ext h h') : Ext h0 h' := ⟨Nat.le_trans E.1 E'.1, fun a c q => E'.2 _ _ (E.2 _ _ q)⟩
theorem own_extwr {h0 h h' : Heap} {a : Addr} {sl : Nat} {v : Value} (E : Ext h0 h) (W : Wr h h' a sl v) (q : h0.size ≤ a) : Ext h0 h' := by
  refine ⟨Nat.le_trans E.1 (Nat.le_of_eq W.size.symm), fun x c hc => ?_⟩
  obtain ⟨c', e1, -, -, -, e5, -⟩ := wr_at W (E.2 x c hc)
  have hx : x < h0.size := (Array.getElem?_eq_some_iff.mp hc).1
  rw [e5 (Nat.ne_of_lt (Nat.lt_of_lt_of_le hx q))] at e1
  exact e1
theorem own_wmono {s t : State} {o : Outcome} {L : List Loc} {k n k' n' : Nat} (h : ReturnedEndW s o t L k n) (hk : k ≤ k') (hn : n ≤ n') : ReturnedEndW s o t L k' n' := ⟨h.1, h.2.1, h.2.2.1, h.2.2.2.mono hk hn⟩
theorem own_strAtoms {Z : State} {a0 : Array Value} (w1 : (Jvm.Cond.initialized "java/lang/String").before a0 Z = true) (w2 : (Jvm.Cond.instantiable "java/lang/String" 4).before a0 Z = true) (w3 : (Jvm.Cond.arrayClass .byte).before a0 Z = true) (w4 : (Jvm.Cond.laysFinal "java/lang/String" "java/lang/String" "value" "[B").before a0 Z = true) (w5 : (Jvm.Cond.laysFinal "java/lang/String" "java/lang/String" "coder" "B").before a0 Z = true) (w6 : (Jvm.Cond.soleField "java/lang/String" "value").before a0 Z = true) (w7 : (Jvm.Cond.soleField "java/lang/String" "coder").before a0 Z = true) : ∀ a ∈ Bundle.stringAtoms, a.before a0 Z = true := by
  intro a ha
  simp only [Bundle.stringAtoms, List.mem_cons, List.not_mem_nil, or_false] at ha
  rcases ha with rfl | rfl | rfl | rfl | rfl | rfl | rfl <;> assumption
theorem own_extkeep {h0 h h' : Heap} {a : Addr} (E : Ext h0 h) (K : Keep h h' [a]) (q : h0.size ≤ a) : Ext h0 h' := ⟨Nat.le_trans E.1 K.1, fun x c hc => K.2.1 x c (E.2 x c hc) (fun hm => absurd (List.mem_singleton.mp hm) (Nat.ne_of_lt (Nat.lt_of_lt_of_le (Array.getElem?_eq_some_iff.mp hc).1 q)))⟩
theorem own_fld2 {Z : State} {h : Heap} {a : Addr} {C O n d O1 n1 d1 : String} {v1 : Value} {a0 : Array Value} {k : Nat} (E : Exa Z h a C) (F : Fld Z h a O1 n1 d1 v1) (L : Laid Z a0 C O n d) (wi : (Jvm.Cond.instantiable C k).before a0 Z = true) : ∃ v, Fld Z h a O n d v := by
  obtain ⟨cell, kc, h1, h2, h3, h4, h5⟩ := E
  obtain ⟨cell', cf', k', i', f', g1, -, -, g4, g5, -, -⟩ := F
  cases h1.symm.trans g1
  obtain ⟨c, k2, cf, kf, i, f, a1, a2, a3, a4, a5, a6, -⟩ := L.spec
  cases h2.symm.trans a1
  cases h3.symm.trans a2
  obtain ⟨c2, k3, i1, i2, i3, -⟩ := Cond.instantiable_spec wi
  cases h2.symm.trans i1
  cases h3.symm.trans i2
  have hs := h5 i3
  have hlt : f.slot < cell.slots.size := by rw [hs]; exact (Array.getElem?_eq_some_iff.mp a6).1
  exact ⟨cell.slots[f.slot], cell, cf, kf, i, f, h1, a3, a4, g4, g5, a5, Array.getElem?_eq_getElem hlt⟩
theorem own_retD {p : Program} {l : Launch} {e : Env} {R : Room} {s : State} {m : MethodId} {args : Array Value} {below : List Frame} {meth : Method} {c : Code} {T : State} {locs : List Loc} {cells slots : Nat} (X : Stand p l e R s m args below meth c T locs cells slots) (hx : p.tables.exec = Jvm.exec) {pc : Nat} {Ls : Array Slot} {z : UInt64} {rest : List Value} (hret : meth.sig.returnType = some .double) (hd : decode c.code pc = .ok (.dreturn, 1)) {fs : List Frame}
    (hl : ∀ (f : JFrame) (acts : List Action), f.method = m → f.locked = none → f.entered = [] → (doReturn e (T.setTop f) acts (some (.double z))).1 = T.setFrames fs) : Steps p.tables e below (T.setTop (mkF m pc Ls (.double z :: rest))) (T.setFrames fs) :=
  retOut X hx hret rfl (Or.inr (Or.inr (Or.inl ⟨rfl, rfl, z, rfl⟩))) hd hl
theorem own_eqk {args : Array Value} {first s : State} {o : Option Outcome} {idx : List Nat} {t : Term} {k : Int32} (h : (Jvm.Cond.eq t (.int k)).value args first o s idx = some true) : t.eval args first o idx s = some (.int k) := by
  have hk : (Term.int k).eval args first o idx s = some (.int k) := Term.int_eval k
  cases ht : t.eval args first o idx s with
  | none => simp [Cond.value, ht] at h
  | some x => cases x <;> simp [Cond.value, ht, hk] at h ⊢ <;> exact h
theorem own_gcls {p : Program} {l : Launch} {e : Env} {R : Room} {s : State} {m : MethodId} {args : Array Value} {below : List Frame} {meth : Method} {c : Code} {T : State} {locs : List Loc} {cells slots : Nat} {Z : State} {h : Heap} {a : Addr} (X : Stand p l e R s m args below meth c T locs cells slots) (hx : p.tables.exec = Jvm.exec) (hZ : Z.Warmed39 s.vm) {a0 : Array Value} {own C : String} {index : Nat} (hown : s.vm.findClass own = some m.cls)
    (w1 : (Jvm.Cond.methodLink own index ⟨"java/lang/Object", "getClass", "()Ljava/lang/Class;"⟩).before a0 Z = true) (w2 : (Jvm.Cond.declares ⟨"java/lang/Object", "getClass", "()Ljava/lang/Class;"⟩).before a0 Z = true) (w4 : (Jvm.Cond.selects C ⟨"java/lang/Object", "getClass", "()Ljava/lang/Class;"⟩ ⟨"java/lang/Object", "getClass", "()Ljava/lang/Class;"⟩).before a0 Z = true)
    (w5 : (Jvm.Cond.instanceMethod ⟨"java/lang/Object", "getClass", "()Ljava/lang/Class;"⟩).before a0 Z = true) (w6 : (Jvm.Cond.native ⟨"java/lang/Object", "getClass", "()Ljava/lang/Class;"⟩).before a0 Z = true) (eT : T.heap = h) (E : Exa Z h a C) {mr : Addr} (M : Mir Z C mr)
    {g : JFrame} (hg : g.method = m) (hsize : g.locals.size = c.maxLocals) {rest : List Value} (hs : g.stack = .ref a :: rest) (hd : decode c.code g.pc = .ok (.invokevirtual index, 3)) (hf : 1 ≤ R.frames) (hl : 2 * g.monitorRoom + (rest.map fun v => v.category).sum + (nativeFrameWords "java/lang/Object" "getClass" 1 + 11) ≤ R.locals) :
    ∃ T', Stand p l e R s m args below meth c T' locs cells slots ∧ T'.heap = h ∧ ∀ target, Steps p.tables e below (T'.setTop { g with pc := g.pc + 3, stack := .ref mr :: rest }) target → Steps p.tables e below (T.setTop g) target := by
  obtain ⟨cB, kB, f1, f2, f3⟩ := isOf hZ eT E
  obtain ⟨cM, kM, m1, m2, m3, -⟩ := M
  obtain ⟨k', r1, r2⟩ := hZ.alike.2.2 _ _ m2
  have f1' := f1
  rw [hZ.alike.findClass] at f1'
  cases f1'.symm.trans m1
  obtain ⟨vm', X', st⟩ := X.getClassOf hx hown (mvT hZ w1) (mvT hZ w2) (notFace_of_selects (args := #[]) (mvT hZ w4)) (mvT hZ w4) (mvT hZ w5) (mvT hZ w6) f1 f3 r1 (by rw [r2]; exact m3) hg hsize hs hd hf hl
  exact ⟨_, X', eT, st⟩
theorem own_pn0 : plainName "com/example/starquarry/starquarry/model/ColumnTypeIsLogicalPinLaw" = true := by first | (simp [plainName, overriddenIn]; done) | decide +kernel
theorem own_d_pick_0 : decode method_2_code 0 = .ok (.iload_n 0, 1) := by decide +kernel
theorem own_d_pick_1 : decode method_2_code 1 = .ok (.ifCond .ne 7, 3) := by decide +kernel
theorem own_d_pick_4 : decode method_2_code 4 = .ok (.getstatic 7, 3) := by decide +kernel
theorem own_d_pick_7 : decode method_2_code 7 = .ok (.areturn, 1) := by decide +kernel
theorem own_d_pick_8 : decode method_2_code 8 = .ok (.iload_n 0, 1) := by decide +kernel
theorem own_d_pick_9 : decode method_2_code 9 = .ok (.iconst 1, 1) := by decide +kernel
theorem own_d_pick_10 : decode method_2_code 10 = .ok (.if_icmp .ne 7, 3) := by decide +kernel
theorem own_d_pick_13 : decode method_2_code 13 = .ok (.getstatic 13, 3) := by decide +kernel
theorem own_d_pick_16 : decode method_2_code 16 = .ok (.areturn, 1) := by decide +kernel
theorem own_d_pick_17 : decode method_2_code 17 = .ok (.iload_n 0, 1) := by decide +kernel
theorem own_d_pick_18 : decode method_2_code 18 = .ok (.iconst 2, 1) := by decide +kernel
theorem own_d_pick_19 : decode method_2_code 19 = .ok (.if_icmp .ne 7, 3) := by decide +kernel
theorem own_d_pick_22 : decode method_2_code 22 = .ok (.getstatic 16, 3) := by decide +kernel
theorem own_d_pick_25 : decode method_2_code 25 = .ok (.areturn, 1) := by decide +kernel
theorem own_d_pick_26 : decode method_2_code 26 = .ok (.iload_n 0, 1) := by decide +kernel
theorem own_d_pick_27 : decode method_2_code 27 = .ok (.iconst 3, 1) := by decide +kernel
theorem own_d_pick_28 : decode method_2_code 28 = .ok (.if_icmp .ne 7, 3) := by decide +kernel
theorem own_d_pick_31 : decode method_2_code 31 = .ok (.getstatic 19, 3) := by decide +kernel
theorem own_d_pick_34 : decode method_2_code 34 = .ok (.areturn, 1) := by decide +kernel
theorem own_d_pick_35 : decode method_2_code 35 = .ok (.iload_n 0, 1) := by decide +kernel
theorem own_d_pick_36 : decode method_2_code 36 = .ok (.iconst 4, 1) := by decide +kernel
theorem own_d_pick_37 : decode method_2_code 37 = .ok (.if_icmp .ne 7, 3) := by decide +kernel
theorem own_d_pick_40 : decode method_2_code 40 = .ok (.getstatic 22, 3) := by decide +kernel
theorem own_d_pick_43 : decode method_2_code 43 = .ok (.areturn, 1) := by decide +kernel
theorem own_d_pick_44 : decode method_2_code 44 = .ok (.iload_n 0, 1) := by decide +kernel
theorem own_d_pick_45 : decode method_2_code 45 = .ok (.iconst 5, 1) := by decide +kernel
theorem own_d_pick_46 : decode method_2_code 46 = .ok (.if_icmp .ne 7, 3) := by decide +kernel
theorem own_d_pick_49 : decode method_2_code 49 = .ok (.getstatic 25, 3) := by decide +kernel
theorem own_d_pick_52 : decode method_2_code 52 = .ok (.areturn, 1) := by decide +kernel
theorem own_d_pick_53 : decode method_2_code 53 = .ok (.iload_n 0, 1) := by decide +kernel
theorem own_d_pick_54 : decode method_2_code 54 = .ok (.bipush 6, 2) := by decide +kernel
theorem own_d_pick_56 : decode method_2_code 56 = .ok (.if_icmp .ne 7, 3) := by decide +kernel
theorem own_d_pick_59 : decode method_2_code 59 = .ok (.getstatic 28, 3) := by decide +kernel
theorem own_d_pick_62 : decode method_2_code 62 = .ok (.areturn, 1) := by decide +kernel
theorem own_d_pick_63 : decode method_2_code 63 = .ok (.iload_n 0, 1) := by decide +kernel
theorem own_d_pick_64 : decode method_2_code 64 = .ok (.bipush 7, 2) := by decide +kernel
theorem own_d_pick_66 : decode method_2_code 66 = .ok (.if_icmp .ne 7, 3) := by decide +kernel
theorem own_d_pick_69 : decode method_2_code 69 = .ok (.getstatic 31, 3) := by decide +kernel
theorem own_d_pick_72 : decode method_2_code 72 = .ok (.areturn, 1) := by decide +kernel
theorem own_d_pick_73 : decode method_2_code 73 = .ok (.iload_n 0, 1) := by decide +kernel
theorem own_d_pick_74 : decode method_2_code 74 = .ok (.bipush 8, 2) := by decide +kernel
theorem own_d_pick_76 : decode method_2_code 76 = .ok (.if_icmp .ne 7, 3) := by decide +kernel
theorem own_d_pick_79 : decode method_2_code 79 = .ok (.getstatic 34, 3) := by decide +kernel
theorem own_d_pick_82 : decode method_2_code 82 = .ok (.areturn, 1) := by decide +kernel
theorem own_d_pick_83 : decode method_2_code 83 = .ok (.iload_n 0, 1) := by decide +kernel
theorem own_d_pick_84 : decode method_2_code 84 = .ok (.bipush 9, 2) := by decide +kernel
theorem own_d_pick_86 : decode method_2_code 86 = .ok (.if_icmp .ne 7, 3) := by decide +kernel
theorem own_d_pick_89 : decode method_2_code 89 = .ok (.getstatic 37, 3) := by decide +kernel
theorem own_d_pick_92 : decode method_2_code 92 = .ok (.areturn, 1) := by decide +kernel
theorem own_d_pick_93 : decode method_2_code 93 = .ok (.iload_n 0, 1) := by decide +kernel
theorem own_d_pick_94 : decode method_2_code 94 = .ok (.bipush 10, 2) := by decide +kernel
theorem own_d_pick_96 : decode method_2_code 96 = .ok (.if_icmp .ne 7, 3) := by decide +kernel
theorem own_d_pick_99 : decode method_2_code 99 = .ok (.getstatic 40, 3) := by decide +kernel
theorem own_d_pick_102 : decode method_2_code 102 = .ok (.areturn, 1) := by decide +kernel
theorem own_d_pick_103 : decode method_2_code 103 = .ok (.getstatic 43, 3) := by decide +kernel
theorem own_d_pick_106 : decode method_2_code 106 = .ok (.areturn, 1) := by decide +kernel
def F_pick (p0 : Int32) (w_BIT : Addr) (w_BOOLEAN : Addr) (w_UNSIGNED_BYTE : Addr) (w_SHORT : Addr) (w_INT : Addr) (w_LONG : Addr) (w_FLOAT : Addr) (w_DOUBLE : Addr) (w_CHAR : Addr) (w_UNICODE_CHAR : Addr) (w_POINT : Addr) (w_CIRCLE : Addr) : Addr := (if p0 = (0 : Int32) then w_BIT else (if p0 = (1 : Int32) then w_BOOLEAN else (if p0 = (2 : Int32) then w_UNSIGNED_BYTE else (if p0 = (3 : Int32) then w_SHORT else (if p0 = (4 : Int32) then w_INT else (if p0 = (5 : Int32) then w_LONG else (if p0 = (6 : Int32) then w_FLOAT else (if p0 = (7 : Int32) then w_DOUBLE else (if p0 = (8 : Int32) then w_CHAR else (if p0 = (9 : Int32) then w_UNICODE_CHAR else (if p0 = (10 : Int32) then w_POINT else w_CIRCLE)))))))))))
theorem own_ef_pick (m : MethodId) (p0 : Int32) : entryFrame m #[(.int p0)] 1 = mkF m 0 #[.val (.int p0)] [] := by first | (simp [entryFrame, mkF, argsToLocals, Value.category]; done) | rfl
def Q_pick (Z : State) (p0 : Int32) (w_BIT : Addr) (w_BOOLEAN : Addr) (w_UNSIGNED_BYTE : Addr) (w_SHORT : Addr) (w_INT : Addr) (w_LONG : Addr) (w_FLOAT : Addr) (w_DOUBLE : Addr) (w_CHAR : Addr) (w_UNICODE_CHAR : Addr) (w_POINT : Addr) (w_CIRCLE : Addr) (h0 : Heap) (n0 : Nat) (v : Option Value) (h : Heap) (L : List Loc) : Prop := v = some (.ref (F_pick p0 w_BIT w_BOOLEAN w_UNSIGNED_BYTE w_SHORT w_INT w_LONG w_FLOAT w_DOUBLE w_CHAR w_UNICODE_CHAR w_POINT w_CIRCLE)) ∧ Fr n0 L ∧ h = h0
set_option maxRecDepth 65536 in
set_option maxHeartbeats 40000000 in
theorem rm_pick (l : Launch) (Z : State) (a0' : Array Value) (hw : ∀ d ∈ tables_1, d.before a0' Z = true) (ws : List Jvm.Cond) (p0 : Int32) (w_BIT : Addr) (w_BOOLEAN : Addr) (w_UNSIGNED_BYTE : Addr) (w_SHORT : Addr) (w_INT : Addr) (w_LONG : Addr) (w_FLOAT : Addr) (w_DOUBLE : Addr) (w_CHAR : Addr) (w_UNICODE_CHAR : Addr) (w_POINT : Addr) (w_CIRCLE : Addr) (h0 : Heap) (n0 : Nat) (Z0 : n0 ≤ h0.size) (S_BIT : Sta Z h0 "com/example/starquarry/starquarry/model/ColumnType" "BIT" "Lcom/example/starquarry/starquarry/model/ColumnType;" (.ref w_BIT)) (S_BOOLEAN : Sta Z h0 "com/example/starquarry/starquarry/model/ColumnType" "BOOLEAN" "Lcom/example/starquarry/starquarry/model/ColumnType;" (.ref w_BOOLEAN)) (S_UNSIGNED_BYTE : Sta Z h0 "com/example/starquarry/starquarry/model/ColumnType" "UNSIGNED_BYTE" "Lcom/example/starquarry/starquarry/model/ColumnType;" (.ref w_UNSIGNED_BYTE)) (S_SHORT : Sta Z h0 "com/example/starquarry/starquarry/model/ColumnType" "SHORT" "Lcom/example/starquarry/starquarry/model/ColumnType;" (.ref w_SHORT)) (S_INT : Sta Z h0 "com/example/starquarry/starquarry/model/ColumnType" "INT" "Lcom/example/starquarry/starquarry/model/ColumnType;" (.ref w_INT)) (S_LONG : Sta Z h0 "com/example/starquarry/starquarry/model/ColumnType" "LONG" "Lcom/example/starquarry/starquarry/model/ColumnType;" (.ref w_LONG)) (S_FLOAT : Sta Z h0 "com/example/starquarry/starquarry/model/ColumnType" "FLOAT" "Lcom/example/starquarry/starquarry/model/ColumnType;" (.ref w_FLOAT)) (S_DOUBLE : Sta Z h0 "com/example/starquarry/starquarry/model/ColumnType" "DOUBLE" "Lcom/example/starquarry/starquarry/model/ColumnType;" (.ref w_DOUBLE)) (S_CHAR : Sta Z h0 "com/example/starquarry/starquarry/model/ColumnType" "CHAR" "Lcom/example/starquarry/starquarry/model/ColumnType;" (.ref w_CHAR)) (S_UNICODE_CHAR : Sta Z h0 "com/example/starquarry/starquarry/model/ColumnType" "UNICODE_CHAR" "Lcom/example/starquarry/starquarry/model/ColumnType;" (.ref w_UNICODE_CHAR)) (S_POINT : Sta Z h0 "com/example/starquarry/starquarry/model/ColumnType" "POINT" "Lcom/example/starquarry/starquarry/model/ColumnType;" (.ref w_POINT)) (S_CIRCLE : Sta Z h0 "com/example/starquarry/starquarry/model/ColumnType" "CIRCLE" "Lcom/example/starquarry/starquarry/model/ColumnType;" (.ref w_CIRCLE)) :
    MetFree l (⟨"com/example/starquarry/starquarry/model/ColumnTypeIsLogicalPinLaw", "pick", "(I)Lcom/example/starquarry/starquarry/model/ColumnType;"⟩ : MethodName) (head1 (Jvm.Cond.code (⟨"com/example/starquarry/starquarry/model/ColumnTypeIsLogicalPinLaw", "pick", "(I)Lcom/example/starquarry/starquarry/model/ColumnType;"⟩ : MethodName) method_2_code 1 (some (.object "com/example/starquarry/starquarry/model/ColumnType")) :: ws) ({ frames := 0, cells := 0, slots := 0, locals := 0 } : Room)) (fun a U => a = #[(.int p0)] ∧ Z.Warmed39 U.vm ∧ U.heap = h0) (fun _ _ _ _ _ => True) (fun _ U o U' => ∃ v L, o = .returned v ∧ Q_pick Z p0 w_BIT w_BOOLEAN w_UNSIGNED_BYTE w_SHORT w_INT w_LONG w_FLOAT w_DOUBLE w_CHAR w_UNICODE_CHAR w_POINT w_CIRCLE h0 n0 v U'.heap L ∧ FrameEnd U o U' L ({ frames := 0, cells := 0, slots := 0, locals := 0 } : Room).cells ({ frames := 0, cells := 0, slots := 0, locals := 0 } : Room).slots) := by
  refine MetFree.of_bodySF (plainFor_of_name own_pn0) hisR ?_
  intro p e s m args below meth c s₁ Bd hml0 hP hK
  obtain ⟨rfl, hZ, hh⟩ := hP
  have hx := Bd.exec
  have hby := Bd.bytes
  have hml : c.maxLocals = 1 := hml0
  have hown : s.vm.findClass "com/example/starquarry/starquarry/model/ColumnTypeIsLogicalPinLaw" = some m.cls := findClass_of_methodNamed Bd.named
  have hnm := (name_of_methodNamed Bd.named Bd.method).1
  have X0 : Stand p l e ({ frames := 0, cells := 0, slots := 0, locals := 0 } : Room) s m #[(.int p0)] below meth c s₁ [] 0 0 := Stand.of_body Bd
  have e0 : s₁.heap = h0 := by rw [← hh, Bd.state]; rfl
  have N0 := Fr.nil n0
  have pre0 : ∀ t, Steps p.tables e below (s₁.setTop (mkF m 0 #[.val (.int p0)] [])) t → Steps p.tables e below (s₁.setTop (entryFrame m #[(.int p0)] 1)) t := fun t k => castTop (own_ef_pick m p0) k
  have pre2 : ∀ t, Steps p.tables e below (s₁.setTop (mkF m 1 #[.val (.int p0)] [(.int p0)])) t → Steps p.tables e below (s₁.setTop (entryFrame m #[(.int p0)] 1)) t := fun t k => pre0 t (by
    show Steps p.tables e below (s₁.setTop (mkF m 0 #[.val (.int p0)] [])) _
    refine XS.iloadN X0.here hx rfl (hb hby own_d_pick_0) rfl ?_
    exact k)
  by_cases hc1_1 : p0 = (0 : Int32)
  · obtain ⟨T3, X3, e3, st3⟩ := getS2 X0 hx hZ hown (host := "") (Or.inl (hw _ (List.mem_of_getElem? (i := 5) rfl))) Via.refl e0 S_BIT (g := (mkF m 4 #[.val (.int p0)] [])) rfl (hb hby own_d_pick_4)
    obtain ⟨fs, hr, hrun, hended, hW, hsame⟩ := X3.leave (v := some (.ref w_BIT)) (fun h => by rw [Bd.returns] at h; cases h)
    refine ⟨_, _, pre2 _ ?_, hrun, hended, _, _, rfl, ?_, ⟨_, rfl⟩, hW, hsame.mono (by decide) (by decide)⟩
    · show Steps p.tables e below (s₁.setTop (mkF m 1 #[.val (.int p0)] [(.int p0)])) _
      refine XS.ifNo X0.here hx rfl (hb hby own_d_pick_1) rfl ((if0 _ _).trans (teq hc1_1).2) ?_
      show Steps p.tables e below (s₁.setTop (mkF m 4 #[.val (.int p0)] [])) _
      refine st3 _ ?_
      show Steps p.tables e below (T3.setTop (mkF m 7 #[.val (.int p0)] [(.ref w_BIT)])) _
      exact own_retA X3 hx Bd.returns rfl rfl rfl (hb hby own_d_pick_7) hr
    · show Q_pick Z p0 w_BIT w_BOOLEAN w_UNSIGNED_BYTE w_SHORT w_INT w_LONG w_FLOAT w_DOUBLE w_CHAR w_UNICODE_CHAR w_POINT w_CIRCLE h0 n0 _ T3.heap _
      refine ⟨?_, N0, e3⟩
      rw [F_pick, if_pos hc1_1]
  · have pre5 : ∀ t, Steps p.tables e below (s₁.setTop (mkF m 10 #[.val (.int p0)] [(.int (1 : Int32)), (.int p0)])) t → Steps p.tables e below (s₁.setTop (entryFrame m #[(.int p0)] 1)) t := fun t k => pre2 t (by
      show Steps p.tables e below (s₁.setTop (mkF m 1 #[.val (.int p0)] [(.int p0)])) _
      refine XS.ifYes X0.here hx rfl (pc0 := 1) (pc' := 8) rfl (hb hby own_d_pick_1) rfl ((if0 _ _).trans (feq hc1_1).2) (by decide) (by decide) ?_
      show Steps p.tables e below (s₁.setTop (mkF m 8 #[.val (.int p0)] [])) _
      refine XS.iloadN X0.here hx rfl (hb hby own_d_pick_8) rfl ?_
      show Steps p.tables e below (s₁.setTop (mkF m 9 #[.val (.int p0)] [(.int p0)])) _
      refine XS.iconst X0.here hx rfl (hb hby own_d_pick_9) ?_
      exact k)
    by_cases hc10_4 : p0 = (1 : Int32)
    · obtain ⟨T6, X6, e6, st6⟩ := getS2 X0 hx hZ hown (host := "") (Or.inl (hw _ (List.mem_of_getElem? (i := 65) rfl))) Via.refl e0 S_BOOLEAN (g := (mkF m 13 #[.val (.int p0)] [])) rfl (hb hby own_d_pick_13)
      obtain ⟨fs, hr, hrun, hended, hW, hsame⟩ := X6.leave (v := some (.ref w_BOOLEAN)) (fun h => by rw [Bd.returns] at h; cases h)
      refine ⟨_, _, pre5 _ ?_, hrun, hended, _, _, rfl, ?_, ⟨_, rfl⟩, hW, hsame.mono (by decide) (by decide)⟩
      · show Steps p.tables e below (s₁.setTop (mkF m 10 #[.val (.int p0)] [(.int (1 : Int32)), (.int p0)])) _
        refine XS.icmpNo X0.here hx rfl (hb hby own_d_pick_10) rfl (teq hc10_4).2 ?_
        show Steps p.tables e below (s₁.setTop (mkF m 13 #[.val (.int p0)] [])) _
        refine st6 _ ?_
        show Steps p.tables e below (T6.setTop (mkF m 16 #[.val (.int p0)] [(.ref w_BOOLEAN)])) _
        exact own_retA X6 hx Bd.returns rfl rfl rfl (hb hby own_d_pick_16) hr
      · show Q_pick Z p0 w_BIT w_BOOLEAN w_UNSIGNED_BYTE w_SHORT w_INT w_LONG w_FLOAT w_DOUBLE w_CHAR w_UNICODE_CHAR w_POINT w_CIRCLE h0 n0 _ T6.heap _
        refine ⟨?_, N0, e6⟩
        rw [F_pick, if_neg hc1_1, if_pos hc10_4]
    · have pre8 : ∀ t, Steps p.tables e below (s₁.setTop (mkF m 19 #[.val (.int p0)] [(.int (2 : Int32)), (.int p0)])) t → Steps p.tables e below (s₁.setTop (entryFrame m #[(.int p0)] 1)) t := fun t k => pre5 t (by
        show Steps p.tables e below (s₁.setTop (mkF m 10 #[.val (.int p0)] [(.int (1 : Int32)), (.int p0)])) _
        refine XS.icmpYes X0.here hx rfl (pc0 := 10) (pc' := 17) rfl (hb hby own_d_pick_10) rfl (feq hc10_4).2 (by decide) (by decide) ?_
        show Steps p.tables e below (s₁.setTop (mkF m 17 #[.val (.int p0)] [])) _
        refine XS.iloadN X0.here hx rfl (hb hby own_d_pick_17) rfl ?_
        show Steps p.tables e below (s₁.setTop (mkF m 18 #[.val (.int p0)] [(.int p0)])) _
        refine XS.iconst X0.here hx rfl (hb hby own_d_pick_18) ?_
        exact k)
      by_cases hc19_7 : p0 = (2 : Int32)
      · obtain ⟨T9, X9, e9, st9⟩ := getS2 X0 hx hZ hown (host := "") (Or.inl (hw _ (List.mem_of_getElem? (i := 58) rfl))) Via.refl e0 S_UNSIGNED_BYTE (g := (mkF m 22 #[.val (.int p0)] [])) rfl (hb hby own_d_pick_22)
        obtain ⟨fs, hr, hrun, hended, hW, hsame⟩ := X9.leave (v := some (.ref w_UNSIGNED_BYTE)) (fun h => by rw [Bd.returns] at h; cases h)
        refine ⟨_, _, pre8 _ ?_, hrun, hended, _, _, rfl, ?_, ⟨_, rfl⟩, hW, hsame.mono (by decide) (by decide)⟩
        · show Steps p.tables e below (s₁.setTop (mkF m 19 #[.val (.int p0)] [(.int (2 : Int32)), (.int p0)])) _
          refine XS.icmpNo X0.here hx rfl (hb hby own_d_pick_19) rfl (teq hc19_7).2 ?_
          show Steps p.tables e below (s₁.setTop (mkF m 22 #[.val (.int p0)] [])) _
          refine st9 _ ?_
          show Steps p.tables e below (T9.setTop (mkF m 25 #[.val (.int p0)] [(.ref w_UNSIGNED_BYTE)])) _
          exact own_retA X9 hx Bd.returns rfl rfl rfl (hb hby own_d_pick_25) hr
        · show Q_pick Z p0 w_BIT w_BOOLEAN w_UNSIGNED_BYTE w_SHORT w_INT w_LONG w_FLOAT w_DOUBLE w_CHAR w_UNICODE_CHAR w_POINT w_CIRCLE h0 n0 _ T9.heap _
          refine ⟨?_, N0, e9⟩
          rw [F_pick, if_neg hc1_1, if_neg hc10_4, if_pos hc19_7]
      · have pre11 : ∀ t, Steps p.tables e below (s₁.setTop (mkF m 28 #[.val (.int p0)] [(.int (3 : Int32)), (.int p0)])) t → Steps p.tables e below (s₁.setTop (entryFrame m #[(.int p0)] 1)) t := fun t k => pre8 t (by
          show Steps p.tables e below (s₁.setTop (mkF m 19 #[.val (.int p0)] [(.int (2 : Int32)), (.int p0)])) _
          refine XS.icmpYes X0.here hx rfl (pc0 := 19) (pc' := 26) rfl (hb hby own_d_pick_19) rfl (feq hc19_7).2 (by decide) (by decide) ?_
          show Steps p.tables e below (s₁.setTop (mkF m 26 #[.val (.int p0)] [])) _
          refine XS.iloadN X0.here hx rfl (hb hby own_d_pick_26) rfl ?_
          show Steps p.tables e below (s₁.setTop (mkF m 27 #[.val (.int p0)] [(.int p0)])) _
          refine XS.iconst X0.here hx rfl (hb hby own_d_pick_27) ?_
          exact k)
        by_cases hc28_10 : p0 = (3 : Int32)
        · obtain ⟨T12, X12, e12, st12⟩ := getS2 X0 hx hZ hown (host := "") (Or.inl (hw _ (List.mem_of_getElem? (i := 52) rfl))) Via.refl e0 S_SHORT (g := (mkF m 31 #[.val (.int p0)] [])) rfl (hb hby own_d_pick_31)
          obtain ⟨fs, hr, hrun, hended, hW, hsame⟩ := X12.leave (v := some (.ref w_SHORT)) (fun h => by rw [Bd.returns] at h; cases h)
          refine ⟨_, _, pre11 _ ?_, hrun, hended, _, _, rfl, ?_, ⟨_, rfl⟩, hW, hsame.mono (by decide) (by decide)⟩
          · show Steps p.tables e below (s₁.setTop (mkF m 28 #[.val (.int p0)] [(.int (3 : Int32)), (.int p0)])) _
            refine XS.icmpNo X0.here hx rfl (hb hby own_d_pick_28) rfl (teq hc28_10).2 ?_
            show Steps p.tables e below (s₁.setTop (mkF m 31 #[.val (.int p0)] [])) _
            refine st12 _ ?_
            show Steps p.tables e below (T12.setTop (mkF m 34 #[.val (.int p0)] [(.ref w_SHORT)])) _
            exact own_retA X12 hx Bd.returns rfl rfl rfl (hb hby own_d_pick_34) hr
          · show Q_pick Z p0 w_BIT w_BOOLEAN w_UNSIGNED_BYTE w_SHORT w_INT w_LONG w_FLOAT w_DOUBLE w_CHAR w_UNICODE_CHAR w_POINT w_CIRCLE h0 n0 _ T12.heap _
            refine ⟨?_, N0, e12⟩
            rw [F_pick, if_neg hc1_1, if_neg hc10_4, if_neg hc19_7, if_pos hc28_10]
        · have pre14 : ∀ t, Steps p.tables e below (s₁.setTop (mkF m 37 #[.val (.int p0)] [(.int (4 : Int32)), (.int p0)])) t → Steps p.tables e below (s₁.setTop (entryFrame m #[(.int p0)] 1)) t := fun t k => pre11 t (by
            show Steps p.tables e below (s₁.setTop (mkF m 28 #[.val (.int p0)] [(.int (3 : Int32)), (.int p0)])) _
            refine XS.icmpYes X0.here hx rfl (pc0 := 28) (pc' := 35) rfl (hb hby own_d_pick_28) rfl (feq hc28_10).2 (by decide) (by decide) ?_
            show Steps p.tables e below (s₁.setTop (mkF m 35 #[.val (.int p0)] [])) _
            refine XS.iloadN X0.here hx rfl (hb hby own_d_pick_35) rfl ?_
            show Steps p.tables e below (s₁.setTop (mkF m 36 #[.val (.int p0)] [(.int p0)])) _
            refine XS.iconst X0.here hx rfl (hb hby own_d_pick_36) ?_
            exact k)
          by_cases hc37_13 : p0 = (4 : Int32)
          · obtain ⟨T15, X15, e15, st15⟩ := getS2 X0 hx hZ hown (host := "") (Or.inl (hw _ (List.mem_of_getElem? (i := 62) rfl))) Via.refl e0 S_INT (g := (mkF m 40 #[.val (.int p0)] [])) rfl (hb hby own_d_pick_40)
            obtain ⟨fs, hr, hrun, hended, hW, hsame⟩ := X15.leave (v := some (.ref w_INT)) (fun h => by rw [Bd.returns] at h; cases h)
            refine ⟨_, _, pre14 _ ?_, hrun, hended, _, _, rfl, ?_, ⟨_, rfl⟩, hW, hsame.mono (by decide) (by decide)⟩
            · show Steps p.tables e below (s₁.setTop (mkF m 37 #[.val (.int p0)] [(.int (4 : Int32)), (.int p0)])) _
              refine XS.icmpNo X0.here hx rfl (hb hby own_d_pick_37) rfl (teq hc37_13).2 ?_
              show Steps p.tables e below (s₁.setTop (mkF m 40 #[.val (.int p0)] [])) _
              refine st15 _ ?_
              show Steps p.tables e below (T15.setTop (mkF m 43 #[.val (.int p0)] [(.ref w_INT)])) _
              exact own_retA X15 hx Bd.returns rfl rfl rfl (hb hby own_d_pick_43) hr
            · show Q_pick Z p0 w_BIT w_BOOLEAN w_UNSIGNED_BYTE w_SHORT w_INT w_LONG w_FLOAT w_DOUBLE w_CHAR w_UNICODE_CHAR w_POINT w_CIRCLE h0 n0 _ T15.heap _
              refine ⟨?_, N0, e15⟩
              rw [F_pick, if_neg hc1_1, if_neg hc10_4, if_neg hc19_7, if_neg hc28_10, if_pos hc37_13]
          · have pre17 : ∀ t, Steps p.tables e below (s₁.setTop (mkF m 46 #[.val (.int p0)] [(.int (5 : Int32)), (.int p0)])) t → Steps p.tables e below (s₁.setTop (entryFrame m #[(.int p0)] 1)) t := fun t k => pre14 t (by
              show Steps p.tables e below (s₁.setTop (mkF m 37 #[.val (.int p0)] [(.int (4 : Int32)), (.int p0)])) _
              refine XS.icmpYes X0.here hx rfl (pc0 := 37) (pc' := 44) rfl (hb hby own_d_pick_37) rfl (feq hc37_13).2 (by decide) (by decide) ?_
              show Steps p.tables e below (s₁.setTop (mkF m 44 #[.val (.int p0)] [])) _
              refine XS.iloadN X0.here hx rfl (hb hby own_d_pick_44) rfl ?_
              show Steps p.tables e below (s₁.setTop (mkF m 45 #[.val (.int p0)] [(.int p0)])) _
              refine XS.iconst X0.here hx rfl (hb hby own_d_pick_45) ?_
              exact k)
            by_cases hc46_16 : p0 = (5 : Int32)
            · obtain ⟨T18, X18, e18, st18⟩ := getS2 X0 hx hZ hown (host := "") (Or.inl (hw _ (List.mem_of_getElem? (i := 71) rfl))) Via.refl e0 S_LONG (g := (mkF m 49 #[.val (.int p0)] [])) rfl (hb hby own_d_pick_49)
              obtain ⟨fs, hr, hrun, hended, hW, hsame⟩ := X18.leave (v := some (.ref w_LONG)) (fun h => by rw [Bd.returns] at h; cases h)
              refine ⟨_, _, pre17 _ ?_, hrun, hended, _, _, rfl, ?_, ⟨_, rfl⟩, hW, hsame.mono (by decide) (by decide)⟩
              · show Steps p.tables e below (s₁.setTop (mkF m 46 #[.val (.int p0)] [(.int (5 : Int32)), (.int p0)])) _
                refine XS.icmpNo X0.here hx rfl (hb hby own_d_pick_46) rfl (teq hc46_16).2 ?_
                show Steps p.tables e below (s₁.setTop (mkF m 49 #[.val (.int p0)] [])) _
                refine st18 _ ?_
                show Steps p.tables e below (T18.setTop (mkF m 52 #[.val (.int p0)] [(.ref w_LONG)])) _
                exact own_retA X18 hx Bd.returns rfl rfl rfl (hb hby own_d_pick_52) hr
              · show Q_pick Z p0 w_BIT w_BOOLEAN w_UNSIGNED_BYTE w_SHORT w_INT w_LONG w_FLOAT w_DOUBLE w_CHAR w_UNICODE_CHAR w_POINT w_CIRCLE h0 n0 _ T18.heap _
                refine ⟨?_, N0, e18⟩
                rw [F_pick, if_neg hc1_1, if_neg hc10_4, if_neg hc19_7, if_neg hc28_10, if_neg hc37_13, if_pos hc46_16]
            · have pre20 : ∀ t, Steps p.tables e below (s₁.setTop (mkF m 56 #[.val (.int p0)] [(.int (6 : Int32)), (.int p0)])) t → Steps p.tables e below (s₁.setTop (entryFrame m #[(.int p0)] 1)) t := fun t k => pre17 t (by
                show Steps p.tables e below (s₁.setTop (mkF m 46 #[.val (.int p0)] [(.int (5 : Int32)), (.int p0)])) _
                refine XS.icmpYes X0.here hx rfl (pc0 := 46) (pc' := 53) rfl (hb hby own_d_pick_46) rfl (feq hc46_16).2 (by decide) (by decide) ?_
                show Steps p.tables e below (s₁.setTop (mkF m 53 #[.val (.int p0)] [])) _
                refine XS.iloadN X0.here hx rfl (hb hby own_d_pick_53) rfl ?_
                show Steps p.tables e below (s₁.setTop (mkF m 54 #[.val (.int p0)] [(.int p0)])) _
                refine XS.bipush X0.here hx rfl (hb hby own_d_pick_54) ?_
                exact k)
              by_cases hc56_19 : p0 = (6 : Int32)
              · obtain ⟨T21, X21, e21, st21⟩ := getS2 X0 hx hZ hown (host := "") (Or.inl (hw _ (List.mem_of_getElem? (i := 69) rfl))) Via.refl e0 S_FLOAT (g := (mkF m 59 #[.val (.int p0)] [])) rfl (hb hby own_d_pick_59)
                obtain ⟨fs, hr, hrun, hended, hW, hsame⟩ := X21.leave (v := some (.ref w_FLOAT)) (fun h => by rw [Bd.returns] at h; cases h)
                refine ⟨_, _, pre20 _ ?_, hrun, hended, _, _, rfl, ?_, ⟨_, rfl⟩, hW, hsame.mono (by decide) (by decide)⟩
                · show Steps p.tables e below (s₁.setTop (mkF m 56 #[.val (.int p0)] [(.int (6 : Int32)), (.int p0)])) _
                  refine XS.icmpNo X0.here hx rfl (hb hby own_d_pick_56) rfl (teq hc56_19).2 ?_
                  show Steps p.tables e below (s₁.setTop (mkF m 59 #[.val (.int p0)] [])) _
                  refine st21 _ ?_
                  show Steps p.tables e below (T21.setTop (mkF m 62 #[.val (.int p0)] [(.ref w_FLOAT)])) _
                  exact own_retA X21 hx Bd.returns rfl rfl rfl (hb hby own_d_pick_62) hr
                · show Q_pick Z p0 w_BIT w_BOOLEAN w_UNSIGNED_BYTE w_SHORT w_INT w_LONG w_FLOAT w_DOUBLE w_CHAR w_UNICODE_CHAR w_POINT w_CIRCLE h0 n0 _ T21.heap _
                  refine ⟨?_, N0, e21⟩
                  rw [F_pick, if_neg hc1_1, if_neg hc10_4, if_neg hc19_7, if_neg hc28_10, if_neg hc37_13, if_neg hc46_16, if_pos hc56_19]
              · have pre23 : ∀ t, Steps p.tables e below (s₁.setTop (mkF m 66 #[.val (.int p0)] [(.int (7 : Int32)), (.int p0)])) t → Steps p.tables e below (s₁.setTop (entryFrame m #[(.int p0)] 1)) t := fun t k => pre20 t (by
                  show Steps p.tables e below (s₁.setTop (mkF m 56 #[.val (.int p0)] [(.int (6 : Int32)), (.int p0)])) _
                  refine XS.icmpYes X0.here hx rfl (pc0 := 56) (pc' := 63) rfl (hb hby own_d_pick_56) rfl (feq hc56_19).2 (by decide) (by decide) ?_
                  show Steps p.tables e below (s₁.setTop (mkF m 63 #[.val (.int p0)] [])) _
                  refine XS.iloadN X0.here hx rfl (hb hby own_d_pick_63) rfl ?_
                  show Steps p.tables e below (s₁.setTop (mkF m 64 #[.val (.int p0)] [(.int p0)])) _
                  refine XS.bipush X0.here hx rfl (hb hby own_d_pick_64) ?_
                  exact k)
                by_cases hc66_22 : p0 = (7 : Int32)
                · obtain ⟨T24, X24, e24, st24⟩ := getS2 X0 hx hZ hown (host := "") (Or.inl (hw _ (List.mem_of_getElem? (i := 59) rfl))) Via.refl e0 S_DOUBLE (g := (mkF m 69 #[.val (.int p0)] [])) rfl (hb hby own_d_pick_69)
                  obtain ⟨fs, hr, hrun, hended, hW, hsame⟩ := X24.leave (v := some (.ref w_DOUBLE)) (fun h => by rw [Bd.returns] at h; cases h)
                  refine ⟨_, _, pre23 _ ?_, hrun, hended, _, _, rfl, ?_, ⟨_, rfl⟩, hW, hsame.mono (by decide) (by decide)⟩
                  · show Steps p.tables e below (s₁.setTop (mkF m 66 #[.val (.int p0)] [(.int (7 : Int32)), (.int p0)])) _
                    refine XS.icmpNo X0.here hx rfl (hb hby own_d_pick_66) rfl (teq hc66_22).2 ?_
                    show Steps p.tables e below (s₁.setTop (mkF m 69 #[.val (.int p0)] [])) _
                    refine st24 _ ?_
                    show Steps p.tables e below (T24.setTop (mkF m 72 #[.val (.int p0)] [(.ref w_DOUBLE)])) _
                    exact own_retA X24 hx Bd.returns rfl rfl rfl (hb hby own_d_pick_72) hr
                  · show Q_pick Z p0 w_BIT w_BOOLEAN w_UNSIGNED_BYTE w_SHORT w_INT w_LONG w_FLOAT w_DOUBLE w_CHAR w_UNICODE_CHAR w_POINT w_CIRCLE h0 n0 _ T24.heap _
                    refine ⟨?_, N0, e24⟩
                    rw [F_pick, if_neg hc1_1, if_neg hc10_4, if_neg hc19_7, if_neg hc28_10, if_neg hc37_13, if_neg hc46_16, if_neg hc56_19, if_pos hc66_22]
                · have pre26 : ∀ t, Steps p.tables e below (s₁.setTop (mkF m 76 #[.val (.int p0)] [(.int (8 : Int32)), (.int p0)])) t → Steps p.tables e below (s₁.setTop (entryFrame m #[(.int p0)] 1)) t := fun t k => pre23 t (by
                    show Steps p.tables e below (s₁.setTop (mkF m 66 #[.val (.int p0)] [(.int (7 : Int32)), (.int p0)])) _
                    refine XS.icmpYes X0.here hx rfl (pc0 := 66) (pc' := 73) rfl (hb hby own_d_pick_66) rfl (feq hc66_22).2 (by decide) (by decide) ?_
                    show Steps p.tables e below (s₁.setTop (mkF m 73 #[.val (.int p0)] [])) _
                    refine XS.iloadN X0.here hx rfl (hb hby own_d_pick_73) rfl ?_
                    show Steps p.tables e below (s₁.setTop (mkF m 74 #[.val (.int p0)] [(.int p0)])) _
                    refine XS.bipush X0.here hx rfl (hb hby own_d_pick_74) ?_
                    exact k)
                  by_cases hc76_25 : p0 = (8 : Int32)
                  · obtain ⟨T27, X27, e27, st27⟩ := getS2 X0 hx hZ hown (host := "") (Or.inl (hw _ (List.mem_of_getElem? (i := 64) rfl))) Via.refl e0 S_CHAR (g := (mkF m 79 #[.val (.int p0)] [])) rfl (hb hby own_d_pick_79)
                    obtain ⟨fs, hr, hrun, hended, hW, hsame⟩ := X27.leave (v := some (.ref w_CHAR)) (fun h => by rw [Bd.returns] at h; cases h)
                    refine ⟨_, _, pre26 _ ?_, hrun, hended, _, _, rfl, ?_, ⟨_, rfl⟩, hW, hsame.mono (by decide) (by decide)⟩
                    · show Steps p.tables e below (s₁.setTop (mkF m 76 #[.val (.int p0)] [(.int (8 : Int32)), (.int p0)])) _
                      refine XS.icmpNo X0.here hx rfl (hb hby own_d_pick_76) rfl (teq hc76_25).2 ?_
                      show Steps p.tables e below (s₁.setTop (mkF m 79 #[.val (.int p0)] [])) _
                      refine st27 _ ?_
                      show Steps p.tables e below (T27.setTop (mkF m 82 #[.val (.int p0)] [(.ref w_CHAR)])) _
                      exact own_retA X27 hx Bd.returns rfl rfl rfl (hb hby own_d_pick_82) hr
                    · show Q_pick Z p0 w_BIT w_BOOLEAN w_UNSIGNED_BYTE w_SHORT w_INT w_LONG w_FLOAT w_DOUBLE w_CHAR w_UNICODE_CHAR w_POINT w_CIRCLE h0 n0 _ T27.heap _
                      refine ⟨?_, N0, e27⟩
                      rw [F_pick, if_neg hc1_1, if_neg hc10_4, if_neg hc19_7, if_neg hc28_10, if_neg hc37_13, if_neg hc46_16, if_neg hc56_19, if_neg hc66_22, if_pos hc76_25]
                  · have pre29 : ∀ t, Steps p.tables e below (s₁.setTop (mkF m 86 #[.val (.int p0)] [(.int (9 : Int32)), (.int p0)])) t → Steps p.tables e below (s₁.setTop (entryFrame m #[(.int p0)] 1)) t := fun t k => pre26 t (by
                      show Steps p.tables e below (s₁.setTop (mkF m 76 #[.val (.int p0)] [(.int (8 : Int32)), (.int p0)])) _
                      refine XS.icmpYes X0.here hx rfl (pc0 := 76) (pc' := 83) rfl (hb hby own_d_pick_76) rfl (feq hc76_25).2 (by decide) (by decide) ?_
                      show Steps p.tables e below (s₁.setTop (mkF m 83 #[.val (.int p0)] [])) _
                      refine XS.iloadN X0.here hx rfl (hb hby own_d_pick_83) rfl ?_
                      show Steps p.tables e below (s₁.setTop (mkF m 84 #[.val (.int p0)] [(.int p0)])) _
                      refine XS.bipush X0.here hx rfl (hb hby own_d_pick_84) ?_
                      exact k)
                    by_cases hc86_28 : p0 = (9 : Int32)
                    · obtain ⟨T30, X30, e30, st30⟩ := getS2 X0 hx hZ hown (host := "") (Or.inl (hw _ (List.mem_of_getElem? (i := 68) rfl))) Via.refl e0 S_UNICODE_CHAR (g := (mkF m 89 #[.val (.int p0)] [])) rfl (hb hby own_d_pick_89)
                      obtain ⟨fs, hr, hrun, hended, hW, hsame⟩ := X30.leave (v := some (.ref w_UNICODE_CHAR)) (fun h => by rw [Bd.returns] at h; cases h)
                      refine ⟨_, _, pre29 _ ?_, hrun, hended, _, _, rfl, ?_, ⟨_, rfl⟩, hW, hsame.mono (by decide) (by decide)⟩
                      · show Steps p.tables e below (s₁.setTop (mkF m 86 #[.val (.int p0)] [(.int (9 : Int32)), (.int p0)])) _
                        refine XS.icmpNo X0.here hx rfl (hb hby own_d_pick_86) rfl (teq hc86_28).2 ?_
                        show Steps p.tables e below (s₁.setTop (mkF m 89 #[.val (.int p0)] [])) _
                        refine st30 _ ?_
                        show Steps p.tables e below (T30.setTop (mkF m 92 #[.val (.int p0)] [(.ref w_UNICODE_CHAR)])) _
                        exact own_retA X30 hx Bd.returns rfl rfl rfl (hb hby own_d_pick_92) hr
                      · show Q_pick Z p0 w_BIT w_BOOLEAN w_UNSIGNED_BYTE w_SHORT w_INT w_LONG w_FLOAT w_DOUBLE w_CHAR w_UNICODE_CHAR w_POINT w_CIRCLE h0 n0 _ T30.heap _
                        refine ⟨?_, N0, e30⟩
                        rw [F_pick, if_neg hc1_1, if_neg hc10_4, if_neg hc19_7, if_neg hc28_10, if_neg hc37_13, if_neg hc46_16, if_neg hc56_19, if_neg hc66_22, if_neg hc76_25, if_pos hc86_28]
                    · have pre32 : ∀ t, Steps p.tables e below (s₁.setTop (mkF m 96 #[.val (.int p0)] [(.int (10 : Int32)), (.int p0)])) t → Steps p.tables e below (s₁.setTop (entryFrame m #[(.int p0)] 1)) t := fun t k => pre29 t (by
                        show Steps p.tables e below (s₁.setTop (mkF m 86 #[.val (.int p0)] [(.int (9 : Int32)), (.int p0)])) _
                        refine XS.icmpYes X0.here hx rfl (pc0 := 86) (pc' := 93) rfl (hb hby own_d_pick_86) rfl (feq hc86_28).2 (by decide) (by decide) ?_
                        show Steps p.tables e below (s₁.setTop (mkF m 93 #[.val (.int p0)] [])) _
                        refine XS.iloadN X0.here hx rfl (hb hby own_d_pick_93) rfl ?_
                        show Steps p.tables e below (s₁.setTop (mkF m 94 #[.val (.int p0)] [(.int p0)])) _
                        refine XS.bipush X0.here hx rfl (hb hby own_d_pick_94) ?_
                        exact k)
                      by_cases hc96_31 : p0 = (10 : Int32)
                      · obtain ⟨T33, X33, e33, st33⟩ := getS2 X0 hx hZ hown (host := "") (Or.inl (hw _ (List.mem_of_getElem? (i := 66) rfl))) Via.refl e0 S_POINT (g := (mkF m 99 #[.val (.int p0)] [])) rfl (hb hby own_d_pick_99)
                        obtain ⟨fs, hr, hrun, hended, hW, hsame⟩ := X33.leave (v := some (.ref w_POINT)) (fun h => by rw [Bd.returns] at h; cases h)
                        refine ⟨_, _, pre32 _ ?_, hrun, hended, _, _, rfl, ?_, ⟨_, rfl⟩, hW, hsame.mono (by decide) (by decide)⟩
                        · show Steps p.tables e below (s₁.setTop (mkF m 96 #[.val (.int p0)] [(.int (10 : Int32)), (.int p0)])) _
                          refine XS.icmpNo X0.here hx rfl (hb hby own_d_pick_96) rfl (teq hc96_31).2 ?_
                          show Steps p.tables e below (s₁.setTop (mkF m 99 #[.val (.int p0)] [])) _
                          refine st33 _ ?_
                          show Steps p.tables e below (T33.setTop (mkF m 102 #[.val (.int p0)] [(.ref w_POINT)])) _
                          exact own_retA X33 hx Bd.returns rfl rfl rfl (hb hby own_d_pick_102) hr
                        · show Q_pick Z p0 w_BIT w_BOOLEAN w_UNSIGNED_BYTE w_SHORT w_INT w_LONG w_FLOAT w_DOUBLE w_CHAR w_UNICODE_CHAR w_POINT w_CIRCLE h0 n0 _ T33.heap _
                          refine ⟨?_, N0, e33⟩
                          rw [F_pick, if_neg hc1_1, if_neg hc10_4, if_neg hc19_7, if_neg hc28_10, if_neg hc37_13, if_neg hc46_16, if_neg hc56_19, if_neg hc66_22, if_neg hc76_25, if_neg hc86_28, if_pos hc96_31]
                      · obtain ⟨T34, X34, e34, st34⟩ := getS2 X0 hx hZ hown (host := "") (Or.inl (hw _ (List.mem_of_getElem? (i := 60) rfl))) Via.refl e0 S_CIRCLE (g := (mkF m 103 #[.val (.int p0)] [])) rfl (hb hby own_d_pick_103)
                        obtain ⟨fs, hr, hrun, hended, hW, hsame⟩ := X34.leave (v := some (.ref w_CIRCLE)) (fun h => by rw [Bd.returns] at h; cases h)
                        refine ⟨_, _, pre32 _ ?_, hrun, hended, _, _, rfl, ?_, ⟨_, rfl⟩, hW, hsame.mono (by decide) (by decide)⟩
                        · show Steps p.tables e below (s₁.setTop (mkF m 96 #[.val (.int p0)] [(.int (10 : Int32)), (.int p0)])) _
                          refine XS.icmpYes X0.here hx rfl (pc0 := 96) (pc' := 103) rfl (hb hby own_d_pick_96) rfl (feq hc96_31).2 (by decide) (by decide) ?_
                          show Steps p.tables e below (s₁.setTop (mkF m 103 #[.val (.int p0)] [])) _
                          refine st34 _ ?_
                          show Steps p.tables e below (T34.setTop (mkF m 106 #[.val (.int p0)] [(.ref w_CIRCLE)])) _
                          exact own_retA X34 hx Bd.returns rfl rfl rfl (hb hby own_d_pick_106) hr
                        · show Q_pick Z p0 w_BIT w_BOOLEAN w_UNSIGNED_BYTE w_SHORT w_INT w_LONG w_FLOAT w_DOUBLE w_CHAR w_UNICODE_CHAR w_POINT w_CIRCLE h0 n0 _ T34.heap _
                          refine ⟨?_, N0, e34⟩
                          rw [F_pick, if_neg hc1_1, if_neg hc10_4, if_neg hc19_7, if_neg hc28_10, if_neg hc37_13, if_neg hc46_16, if_neg hc56_19, if_neg hc66_22, if_neg hc76_25, if_neg hc86_28, if_neg hc96_31]
theorem own_pn1 : plainName "com/example/starquarry/starquarry/model/ColumnType" = true := by first | (simp [plainName, overriddenIn]; done) | decide +kernel
theorem own_d_lg_0 : decode prog_120_method_13_code 0 = .ok (.aload_n 0, 1) := by decide +kernel
theorem own_d_lg_1 : decode prog_120_method_13_code 1 = .ok (.getstatic 3, 3) := by decide +kernel
theorem own_d_lg_4 : decode prog_120_method_13_code 4 = .ok (.if_acmp .eq 10, 3) := by decide +kernel
theorem own_d_lg_14 : decode prog_120_method_13_code 14 = .ok (.iconst 1, 1) := by decide +kernel
theorem own_d_lg_15 : decode prog_120_method_13_code 15 = .ok (.goto 4, 3) := by decide +kernel
theorem own_d_lg_19 : decode prog_120_method_13_code 19 = .ok (.ireturn, 1) := by decide +kernel
theorem own_d_lg_7 : decode prog_120_method_13_code 7 = .ok (.aload_n 0, 1) := by decide +kernel
theorem own_d_lg_8 : decode prog_120_method_13_code 8 = .ok (.getstatic 7, 3) := by decide +kernel
theorem own_d_lg_11 : decode prog_120_method_13_code 11 = .ok (.if_acmp .ne 7, 3) := by decide +kernel
theorem own_d_lg_18 : decode prog_120_method_13_code 18 = .ok (.iconst 0, 1) := by decide +kernel
def F_lg (a0 : Addr) (w_BIT : Addr) (w_BOOLEAN : Addr) : Int32 := (if a0 = w_BIT then (1 : Int32) else (if a0 = w_BOOLEAN then (1 : Int32) else (0 : Int32)))
theorem own_ef_lg (m : MethodId) (a0 : Addr) : entryFrame m #[(.ref a0)] 1 = mkF m 0 #[.val (.ref a0)] [] := by first | (simp [entryFrame, mkF, argsToLocals, Value.category]; done) | rfl
def Q_lg (Z : State) (a0 : Addr) (w_BIT : Addr) (w_BOOLEAN : Addr) (h0 : Heap) (n0 : Nat) (v : Option Value) (h : Heap) (L : List Loc) : Prop := v = some (.int (F_lg a0 w_BIT w_BOOLEAN)) ∧ Fr n0 L ∧ h = h0
set_option maxRecDepth 65536 in
set_option maxHeartbeats 40000000 in
theorem rm_lg (l : Launch) (Z : State) (a0' : Array Value) (hw : ∀ d ∈ tables_1, d.before a0' Z = true) (ws : List Jvm.Cond) (a0 : Addr) (w_BIT : Addr) (w_BOOLEAN : Addr) (h0 : Heap) (n0 : Nat) (Z0 : n0 ≤ h0.size) (S_BIT : Sta Z h0 "com/example/starquarry/starquarry/model/ColumnType" "BIT" "Lcom/example/starquarry/starquarry/model/ColumnType;" (.ref w_BIT)) (S_BOOLEAN : Sta Z h0 "com/example/starquarry/starquarry/model/ColumnType" "BOOLEAN" "Lcom/example/starquarry/starquarry/model/ColumnType;" (.ref w_BOOLEAN)) :
    MetFree l (⟨"com/example/starquarry/starquarry/model/ColumnType", "isLogical", "()Z"⟩ : MethodName) (head1 (Jvm.Cond.code (⟨"com/example/starquarry/starquarry/model/ColumnType", "isLogical", "()Z"⟩ : MethodName) prog_120_method_13_code 1 (some .boolean) :: ws) ({ frames := 0, cells := 0, slots := 0, locals := 0 } : Room)) (fun a U => a = #[(.ref a0)] ∧ Z.Warmed39 U.vm ∧ U.heap = h0) (fun _ _ _ _ _ => True) (fun _ U o U' => ∃ v L, o = .returned v ∧ Q_lg Z a0 w_BIT w_BOOLEAN h0 n0 v U'.heap L ∧ FrameEnd U o U' L ({ frames := 0, cells := 0, slots := 0, locals := 0 } : Room).cells ({ frames := 0, cells := 0, slots := 0, locals := 0 } : Room).slots) := by
  refine MetFree.of_bodySF (plainFor_of_name own_pn1) hisR ?_
  intro p e s m args below meth c s₁ Bd hml0 hP hK
  obtain ⟨rfl, hZ, hh⟩ := hP
  have hx := Bd.exec
  have hby := Bd.bytes
  have hml : c.maxLocals = 1 := hml0
  have hown : s.vm.findClass "com/example/starquarry/starquarry/model/ColumnType" = some m.cls := findClass_of_methodNamed Bd.named
  have hnm := (name_of_methodNamed Bd.named Bd.method).1
  have X0 : Stand p l e ({ frames := 0, cells := 0, slots := 0, locals := 0 } : Room) s m #[(.ref a0)] below meth c s₁ [] 0 0 := Stand.of_body Bd
  have e0 : s₁.heap = h0 := by rw [← hh, Bd.state]; rfl
  have N0 := Fr.nil n0
  have pre0 : ∀ t, Steps p.tables e below (s₁.setTop (mkF m 0 #[.val (.ref a0)] [])) t → Steps p.tables e below (s₁.setTop (entryFrame m #[(.ref a0)] 1)) t := fun t k => castTop (own_ef_lg m a0) k
  obtain ⟨T35, X35, e35, st35⟩ := getS2 X0 hx hZ hown (host := "") (Or.inl (hw _ (List.mem_of_getElem? (i := 13) rfl))) Via.refl e0 S_BIT (g := (mkF m 1 #[.val (.ref a0)] [(.ref a0)])) rfl (hb hby own_d_lg_1)
  have pre37 : ∀ t, Steps p.tables e below (T35.setTop (mkF m 4 #[.val (.ref a0)] [(.ref w_BIT), (.ref a0)])) t → Steps p.tables e below (s₁.setTop (entryFrame m #[(.ref a0)] 1)) t := fun t k => pre0 t (by
    show Steps p.tables e below (s₁.setTop (mkF m 0 #[.val (.ref a0)] [])) _
    refine XS.aloadN X0.here hx rfl (hb hby own_d_lg_0) rfl rfl ?_
    show Steps p.tables e below (s₁.setTop (mkF m 1 #[.val (.ref a0)] [(.ref a0)])) _
    refine st35 _ ?_
    exact k)
  by_cases hc4_36 : a0 = w_BIT
  · obtain ⟨fs, hr, hrun, hended, hW, hsame⟩ := X35.leave (v := some (.int (1 : Int32))) (fun h => by rw [Bd.returns] at h; cases h)
    refine ⟨_, _, pre37 _ ?_, hrun, hended, _, _, rfl, ?_, ⟨_, rfl⟩, hW, hsame.mono (by decide) (by decide)⟩
    · show Steps p.tables e below (T35.setTop (mkF m 4 #[.val (.ref a0)] [(.ref w_BIT), (.ref a0)])) _
      refine Jvm.RoadKit.acmp (g := (mkF m 4 #[.val (.ref a0)] [(.ref w_BIT), (.ref a0)])) X35 hx rfl rfl rfl (pc0 := 4) (pc' := 14) (same := true) rfl (hb hby own_d_lg_4) rfl (decide_eq_true (congrArg Value.ref hc4_36)) (by decide) (by decide) ?_
      show Steps p.tables e below (T35.setTop (mkF m 14 #[.val (.ref a0)] [])) _
      refine XS.iconst X35.here hx rfl (hb hby own_d_lg_14) ?_
      show Steps p.tables e below (T35.setTop (mkF m 15 #[.val (.ref a0)] [(.int (1 : Int32))])) _
      refine XS.goto X35.here hx rfl (pc0 := 15) (pc' := 19) rfl (hb hby own_d_lg_15) (by decide) (by decide) ?_
      show Steps p.tables e below (T35.setTop (mkF m 19 #[.val (.ref a0)] [(.int (1 : Int32))])) _
      exact retN X35 hx (t := .boolean) Bd.returns (by simp) (hb hby own_d_lg_19) hr
    · show Q_lg Z a0 w_BIT w_BOOLEAN h0 n0 _ T35.heap _
      refine ⟨?_, N0, e35⟩
      rw [F_lg, if_pos hc4_36]
  · obtain ⟨T38, X38, e38, st38⟩ := getS2 X35 hx hZ hown (host := "") (Or.inl (hw _ (List.mem_of_getElem? (i := 54) rfl))) Via.refl e35 S_BOOLEAN (g := (mkF m 8 #[.val (.ref a0)] [(.ref a0)])) rfl (hb hby own_d_lg_8)
    have pre40 : ∀ t, Steps p.tables e below (T38.setTop (mkF m 11 #[.val (.ref a0)] [(.ref w_BOOLEAN), (.ref a0)])) t → Steps p.tables e below (s₁.setTop (entryFrame m #[(.ref a0)] 1)) t := fun t k => pre37 t (by
      show Steps p.tables e below (T35.setTop (mkF m 4 #[.val (.ref a0)] [(.ref w_BIT), (.ref a0)])) _
      refine Jvm.RoadKit.acmp (g := (mkF m 4 #[.val (.ref a0)] [(.ref w_BIT), (.ref a0)])) X35 hx rfl rfl rfl (pc0 := 4) (pc' := 7) (same := false) rfl (hb hby own_d_lg_4) rfl (decide_eq_false fun q => hc4_36 (Value.ref.inj q)) (by decide) (by decide) ?_
      show Steps p.tables e below (T35.setTop (mkF m 7 #[.val (.ref a0)] [])) _
      refine XS.aloadN X35.here hx rfl (hb hby own_d_lg_7) rfl rfl ?_
      show Steps p.tables e below (T35.setTop (mkF m 8 #[.val (.ref a0)] [(.ref a0)])) _
      refine st38 _ ?_
      exact k)
    by_cases hc11_39 : a0 = w_BOOLEAN
    · obtain ⟨fs, hr, hrun, hended, hW, hsame⟩ := X38.leave (v := some (.int (1 : Int32))) (fun h => by rw [Bd.returns] at h; cases h)
      refine ⟨_, _, pre40 _ ?_, hrun, hended, _, _, rfl, ?_, ⟨_, rfl⟩, hW, hsame.mono (by decide) (by decide)⟩
      · show Steps p.tables e below (T38.setTop (mkF m 11 #[.val (.ref a0)] [(.ref w_BOOLEAN), (.ref a0)])) _
        refine Jvm.RoadKit.acmp (g := (mkF m 11 #[.val (.ref a0)] [(.ref w_BOOLEAN), (.ref a0)])) X38 hx rfl rfl rfl (pc0 := 11) (pc' := 14) (same := true) rfl (hb hby own_d_lg_11) rfl (decide_eq_true (congrArg Value.ref hc11_39)) (by decide) (by decide) ?_
        show Steps p.tables e below (T38.setTop (mkF m 14 #[.val (.ref a0)] [])) _
        refine XS.iconst X38.here hx rfl (hb hby own_d_lg_14) ?_
        show Steps p.tables e below (T38.setTop (mkF m 15 #[.val (.ref a0)] [(.int (1 : Int32))])) _
        refine XS.goto X38.here hx rfl (pc0 := 15) (pc' := 19) rfl (hb hby own_d_lg_15) (by decide) (by decide) ?_
        show Steps p.tables e below (T38.setTop (mkF m 19 #[.val (.ref a0)] [(.int (1 : Int32))])) _
        exact retN X38 hx (t := .boolean) Bd.returns (by simp) (hb hby own_d_lg_19) hr
      · show Q_lg Z a0 w_BIT w_BOOLEAN h0 n0 _ T38.heap _
        refine ⟨?_, N0, e38⟩
        rw [F_lg, if_neg hc4_36, if_pos hc11_39]
    · obtain ⟨fs, hr, hrun, hended, hW, hsame⟩ := X38.leave (v := some (.int (0 : Int32))) (fun h => by rw [Bd.returns] at h; cases h)
      refine ⟨_, _, pre40 _ ?_, hrun, hended, _, _, rfl, ?_, ⟨_, rfl⟩, hW, hsame.mono (by decide) (by decide)⟩
      · show Steps p.tables e below (T38.setTop (mkF m 11 #[.val (.ref a0)] [(.ref w_BOOLEAN), (.ref a0)])) _
        refine Jvm.RoadKit.acmp (g := (mkF m 11 #[.val (.ref a0)] [(.ref w_BOOLEAN), (.ref a0)])) X38 hx rfl rfl rfl (pc0 := 11) (pc' := 18) (same := false) rfl (hb hby own_d_lg_11) rfl (decide_eq_false fun q => hc11_39 (Value.ref.inj q)) (by decide) (by decide) ?_
        show Steps p.tables e below (T38.setTop (mkF m 18 #[.val (.ref a0)] [])) _
        refine XS.iconst X38.here hx rfl (hb hby own_d_lg_18) ?_
        show Steps p.tables e below (T38.setTop (mkF m 19 #[.val (.ref a0)] [(.int (0 : Int32))])) _
        exact retN X38 hx (t := .boolean) Bd.returns (by simp) (hb hby own_d_lg_19) hr
      · show Q_lg Z a0 w_BIT w_BOOLEAN h0 n0 _ T38.heap _
        refine ⟨?_, N0, e38⟩
        rw [F_lg, if_neg hc4_36, if_neg hc11_39]
theorem own_d_tx_0 : decode prog_120_method_14_code 0 = .ok (.aload_n 0, 1) := by decide +kernel
theorem own_d_tx_1 : decode prog_120_method_14_code 1 = .ok (.getstatic 28, 3) := by decide +kernel
theorem own_d_tx_4 : decode prog_120_method_14_code 4 = .ok (.if_acmp .eq 10, 3) := by decide +kernel
theorem own_d_tx_14 : decode prog_120_method_14_code 14 = .ok (.iconst 1, 1) := by decide +kernel
theorem own_d_tx_15 : decode prog_120_method_14_code 15 = .ok (.goto 4, 3) := by decide +kernel
theorem own_d_tx_19 : decode prog_120_method_14_code 19 = .ok (.ireturn, 1) := by decide +kernel
theorem own_d_tx_7 : decode prog_120_method_14_code 7 = .ok (.aload_n 0, 1) := by decide +kernel
theorem own_d_tx_8 : decode prog_120_method_14_code 8 = .ok (.getstatic 31, 3) := by decide +kernel
theorem own_d_tx_11 : decode prog_120_method_14_code 11 = .ok (.if_acmp .ne 7, 3) := by decide +kernel
theorem own_d_tx_18 : decode prog_120_method_14_code 18 = .ok (.iconst 0, 1) := by decide +kernel
def F_tx (a0 : Addr) (w_CHAR : Addr) (w_UNICODE_CHAR : Addr) : Int32 := (if a0 = w_CHAR then (1 : Int32) else (if a0 = w_UNICODE_CHAR then (1 : Int32) else (0 : Int32)))
theorem own_ef_tx (m : MethodId) (a0 : Addr) : entryFrame m #[(.ref a0)] 1 = mkF m 0 #[.val (.ref a0)] [] := by first | (simp [entryFrame, mkF, argsToLocals, Value.category]; done) | rfl
def Q_tx (Z : State) (a0 : Addr) (w_CHAR : Addr) (w_UNICODE_CHAR : Addr) (h0 : Heap) (n0 : Nat) (v : Option Value) (h : Heap) (L : List Loc) : Prop := v = some (.int (F_tx a0 w_CHAR w_UNICODE_CHAR)) ∧ Fr n0 L ∧ h = h0
set_option maxRecDepth 65536 in
set_option maxHeartbeats 40000000 in
theorem rm_tx (l : Launch) (Z : State) (a0' : Array Value) (hw : ∀ d ∈ tables_1, d.before a0' Z = true) (ws : List Jvm.Cond) (a0 : Addr) (w_CHAR : Addr) (w_UNICODE_CHAR : Addr) (h0 : Heap) (n0 : Nat) (Z0 : n0 ≤ h0.size) (S_CHAR : Sta Z h0 "com/example/starquarry/starquarry/model/ColumnType" "CHAR" "Lcom/example/starquarry/starquarry/model/ColumnType;" (.ref w_CHAR)) (S_UNICODE_CHAR : Sta Z h0 "com/example/starquarry/starquarry/model/ColumnType" "UNICODE_CHAR" "Lcom/example/starquarry/starquarry/model/ColumnType;" (.ref w_UNICODE_CHAR)) :
    MetFree l (⟨"com/example/starquarry/starquarry/model/ColumnType", "isText", "()Z"⟩ : MethodName) (head1 (Jvm.Cond.code (⟨"com/example/starquarry/starquarry/model/ColumnType", "isText", "()Z"⟩ : MethodName) prog_120_method_14_code 1 (some .boolean) :: ws) ({ frames := 0, cells := 0, slots := 0, locals := 0 } : Room)) (fun a U => a = #[(.ref a0)] ∧ Z.Warmed39 U.vm ∧ U.heap = h0) (fun _ _ _ _ _ => True) (fun _ U o U' => ∃ v L, o = .returned v ∧ Q_tx Z a0 w_CHAR w_UNICODE_CHAR h0 n0 v U'.heap L ∧ FrameEnd U o U' L ({ frames := 0, cells := 0, slots := 0, locals := 0 } : Room).cells ({ frames := 0, cells := 0, slots := 0, locals := 0 } : Room).slots) := by
  refine MetFree.of_bodySF (plainFor_of_name own_pn1) hisR ?_
  intro p e s m args below meth c s₁ Bd hml0 hP hK
  obtain ⟨rfl, hZ, hh⟩ := hP
  have hx := Bd.exec
  have hby := Bd.bytes
  have hml : c.maxLocals = 1 := hml0
  have hown : s.vm.findClass "com/example/starquarry/starquarry/model/ColumnType" = some m.cls := findClass_of_methodNamed Bd.named
  have hnm := (name_of_methodNamed Bd.named Bd.method).1
  have X0 : Stand p l e ({ frames := 0, cells := 0, slots := 0, locals := 0 } : Room) s m #[(.ref a0)] below meth c s₁ [] 0 0 := Stand.of_body Bd
  have e0 : s₁.heap = h0 := by rw [← hh, Bd.state]; rfl
  have N0 := Fr.nil n0
  have pre0 : ∀ t, Steps p.tables e below (s₁.setTop (mkF m 0 #[.val (.ref a0)] [])) t → Steps p.tables e below (s₁.setTop (entryFrame m #[(.ref a0)] 1)) t := fun t k => castTop (own_ef_tx m a0) k
  obtain ⟨T41, X41, e41, st41⟩ := getS2 X0 hx hZ hown (host := "") (Or.inl (hw _ (List.mem_of_getElem? (i := 41) rfl))) Via.refl e0 S_CHAR (g := (mkF m 1 #[.val (.ref a0)] [(.ref a0)])) rfl (hb hby own_d_tx_1)
  have pre43 : ∀ t, Steps p.tables e below (T41.setTop (mkF m 4 #[.val (.ref a0)] [(.ref w_CHAR), (.ref a0)])) t → Steps p.tables e below (s₁.setTop (entryFrame m #[(.ref a0)] 1)) t := fun t k => pre0 t (by
    show Steps p.tables e below (s₁.setTop (mkF m 0 #[.val (.ref a0)] [])) _
    refine XS.aloadN X0.here hx rfl (hb hby own_d_tx_0) rfl rfl ?_
    show Steps p.tables e below (s₁.setTop (mkF m 1 #[.val (.ref a0)] [(.ref a0)])) _
    refine st41 _ ?_
    exact k)
  by_cases hc4_42 : a0 = w_CHAR
  · obtain ⟨fs, hr, hrun, hended, hW, hsame⟩ := X41.leave (v := some (.int (1 : Int32))) (fun h => by rw [Bd.returns] at h; cases h)
    refine ⟨_, _, pre43 _ ?_, hrun, hended, _, _, rfl, ?_, ⟨_, rfl⟩, hW, hsame.mono (by decide) (by decide)⟩
    · show Steps p.tables e below (T41.setTop (mkF m 4 #[.val (.ref a0)] [(.ref w_CHAR), (.ref a0)])) _
      refine Jvm.RoadKit.acmp (g := (mkF m 4 #[.val (.ref a0)] [(.ref w_CHAR), (.ref a0)])) X41 hx rfl rfl rfl (pc0 := 4) (pc' := 14) (same := true) rfl (hb hby own_d_tx_4) rfl (decide_eq_true (congrArg Value.ref hc4_42)) (by decide) (by decide) ?_
      show Steps p.tables e below (T41.setTop (mkF m 14 #[.val (.ref a0)] [])) _
      refine XS.iconst X41.here hx rfl (hb hby own_d_tx_14) ?_
      show Steps p.tables e below (T41.setTop (mkF m 15 #[.val (.ref a0)] [(.int (1 : Int32))])) _
      refine XS.goto X41.here hx rfl (pc0 := 15) (pc' := 19) rfl (hb hby own_d_tx_15) (by decide) (by decide) ?_
      show Steps p.tables e below (T41.setTop (mkF m 19 #[.val (.ref a0)] [(.int (1 : Int32))])) _
      exact retN X41 hx (t := .boolean) Bd.returns (by simp) (hb hby own_d_tx_19) hr
    · show Q_tx Z a0 w_CHAR w_UNICODE_CHAR h0 n0 _ T41.heap _
      refine ⟨?_, N0, e41⟩
      rw [F_tx, if_pos hc4_42]
  · obtain ⟨T44, X44, e44, st44⟩ := getS2 X41 hx hZ hown (host := "") (Or.inl (hw _ (List.mem_of_getElem? (i := 43) rfl))) Via.refl e41 S_UNICODE_CHAR (g := (mkF m 8 #[.val (.ref a0)] [(.ref a0)])) rfl (hb hby own_d_tx_8)
    have pre46 : ∀ t, Steps p.tables e below (T44.setTop (mkF m 11 #[.val (.ref a0)] [(.ref w_UNICODE_CHAR), (.ref a0)])) t → Steps p.tables e below (s₁.setTop (entryFrame m #[(.ref a0)] 1)) t := fun t k => pre43 t (by
      show Steps p.tables e below (T41.setTop (mkF m 4 #[.val (.ref a0)] [(.ref w_CHAR), (.ref a0)])) _
      refine Jvm.RoadKit.acmp (g := (mkF m 4 #[.val (.ref a0)] [(.ref w_CHAR), (.ref a0)])) X41 hx rfl rfl rfl (pc0 := 4) (pc' := 7) (same := false) rfl (hb hby own_d_tx_4) rfl (decide_eq_false fun q => hc4_42 (Value.ref.inj q)) (by decide) (by decide) ?_
      show Steps p.tables e below (T41.setTop (mkF m 7 #[.val (.ref a0)] [])) _
      refine XS.aloadN X41.here hx rfl (hb hby own_d_tx_7) rfl rfl ?_
      show Steps p.tables e below (T41.setTop (mkF m 8 #[.val (.ref a0)] [(.ref a0)])) _
      refine st44 _ ?_
      exact k)
    by_cases hc11_45 : a0 = w_UNICODE_CHAR
    · obtain ⟨fs, hr, hrun, hended, hW, hsame⟩ := X44.leave (v := some (.int (1 : Int32))) (fun h => by rw [Bd.returns] at h; cases h)
      refine ⟨_, _, pre46 _ ?_, hrun, hended, _, _, rfl, ?_, ⟨_, rfl⟩, hW, hsame.mono (by decide) (by decide)⟩
      · show Steps p.tables e below (T44.setTop (mkF m 11 #[.val (.ref a0)] [(.ref w_UNICODE_CHAR), (.ref a0)])) _
        refine Jvm.RoadKit.acmp (g := (mkF m 11 #[.val (.ref a0)] [(.ref w_UNICODE_CHAR), (.ref a0)])) X44 hx rfl rfl rfl (pc0 := 11) (pc' := 14) (same := true) rfl (hb hby own_d_tx_11) rfl (decide_eq_true (congrArg Value.ref hc11_45)) (by decide) (by decide) ?_
        show Steps p.tables e below (T44.setTop (mkF m 14 #[.val (.ref a0)] [])) _
        refine XS.iconst X44.here hx rfl (hb hby own_d_tx_14) ?_
        show Steps p.tables e below (T44.setTop (mkF m 15 #[.val (.ref a0)] [(.int (1 : Int32))])) _
        refine XS.goto X44.here hx rfl (pc0 := 15) (pc' := 19) rfl (hb hby own_d_tx_15) (by decide) (by decide) ?_
        show Steps p.tables e below (T44.setTop (mkF m 19 #[.val (.ref a0)] [(.int (1 : Int32))])) _
        exact retN X44 hx (t := .boolean) Bd.returns (by simp) (hb hby own_d_tx_19) hr
      · show Q_tx Z a0 w_CHAR w_UNICODE_CHAR h0 n0 _ T44.heap _
        refine ⟨?_, N0, e44⟩
        rw [F_tx, if_neg hc4_42, if_pos hc11_45]
    · obtain ⟨fs, hr, hrun, hended, hW, hsame⟩ := X44.leave (v := some (.int (0 : Int32))) (fun h => by rw [Bd.returns] at h; cases h)
      refine ⟨_, _, pre46 _ ?_, hrun, hended, _, _, rfl, ?_, ⟨_, rfl⟩, hW, hsame.mono (by decide) (by decide)⟩
      · show Steps p.tables e below (T44.setTop (mkF m 11 #[.val (.ref a0)] [(.ref w_UNICODE_CHAR), (.ref a0)])) _
        refine Jvm.RoadKit.acmp (g := (mkF m 11 #[.val (.ref a0)] [(.ref w_UNICODE_CHAR), (.ref a0)])) X44 hx rfl rfl rfl (pc0 := 11) (pc' := 18) (same := false) rfl (hb hby own_d_tx_11) rfl (decide_eq_false fun q => hc11_45 (Value.ref.inj q)) (by decide) (by decide) ?_
        show Steps p.tables e below (T44.setTop (mkF m 18 #[.val (.ref a0)] [])) _
        refine XS.iconst X44.here hx rfl (hb hby own_d_tx_18) ?_
        show Steps p.tables e below (T44.setTop (mkF m 19 #[.val (.ref a0)] [(.int (0 : Int32))])) _
        exact retN X44 hx (t := .boolean) Bd.returns (by simp) (hb hby own_d_tx_19) hr
      · show Q_tx Z a0 w_CHAR w_UNICODE_CHAR h0 n0 _ T44.heap _
        refine ⟨?_, N0, e44⟩
        rw [F_tx, if_neg hc4_42, if_neg hc11_45]
theorem own_d_geoN_0 : decode prog_120_method_15_code 0 = .ok (.aload_n 0, 1) := by decide +kernel
theorem own_d_geoN_1 : decode prog_120_method_15_code 1 = .ok (.getfield 73, 3) := by decide +kernel
theorem own_d_geoN_4 : decode prog_120_method_15_code 4 = .ok (.ifnull 7, 3) := by decide +kernel
theorem own_d_geoN_11 : decode prog_120_method_15_code 11 = .ok (.iconst 0, 1) := by decide +kernel
theorem own_d_geoN_12 : decode prog_120_method_15_code 12 = .ok (.ireturn, 1) := by decide +kernel
def F_geoN  : Int32 := (0 : Int32)
theorem own_ef_geoN (m : MethodId) (a0 : Addr) : entryFrame m #[(.ref a0)] 1 = mkF m 0 #[.val (.ref a0)] [] := by first | (simp [entryFrame, mkF, argsToLocals, Value.category]; done) | rfl
def Q_geoN (Z : State) (a0 : Addr) (h0 : Heap) (n0 : Nat) (v : Option Value) (h : Heap) (L : List Loc) : Prop := v = some (.int F_geoN) ∧ Fr n0 L ∧ h = h0
set_option maxRecDepth 65536 in
set_option maxHeartbeats 40000000 in
theorem rm_geoN (l : Launch) (Z : State) (a0' : Array Value) (hw : ∀ d ∈ tables_1, d.before a0' Z = true) (ws : List Jvm.Cond) (a0 : Addr) (h0 : Heap) (n0 : Nat) (Z0 : n0 ≤ h0.size) (FX : Fld Z h0 a0 "com/example/starquarry/starquarry/model/ColumnType" "xtype" "Ljava/lang/String;" .null) :
    MetFree l (⟨"com/example/starquarry/starquarry/model/ColumnType", "isGeometry", "()Z"⟩ : MethodName) (head1 (Jvm.Cond.code (⟨"com/example/starquarry/starquarry/model/ColumnType", "isGeometry", "()Z"⟩ : MethodName) prog_120_method_15_code 1 (some .boolean) :: ws) ({ frames := 0, cells := 0, slots := 0, locals := 0 } : Room)) (fun a U => a = #[(.ref a0)] ∧ Z.Warmed39 U.vm ∧ U.heap = h0) (fun _ _ _ _ _ => True) (fun _ U o U' => ∃ v L, o = .returned v ∧ Q_geoN Z a0 h0 n0 v U'.heap L ∧ FrameEnd U o U' L ({ frames := 0, cells := 0, slots := 0, locals := 0 } : Room).cells ({ frames := 0, cells := 0, slots := 0, locals := 0 } : Room).slots) := by
  refine MetFree.of_bodySF (plainFor_of_name own_pn1) hisR ?_
  intro p e s m args below meth c s₁ Bd hml0 hP hK
  obtain ⟨rfl, hZ, hh⟩ := hP
  have hx := Bd.exec
  have hby := Bd.bytes
  have hml : c.maxLocals = 1 := hml0
  have hown : s.vm.findClass "com/example/starquarry/starquarry/model/ColumnType" = some m.cls := findClass_of_methodNamed Bd.named
  have hnm := (name_of_methodNamed Bd.named Bd.method).1
  have X0 : Stand p l e ({ frames := 0, cells := 0, slots := 0, locals := 0 } : Room) s m #[(.ref a0)] below meth c s₁ [] 0 0 := Stand.of_body Bd
  have e0 : s₁.heap = h0 := by rw [← hh, Bd.state]; rfl
  have N0 := Fr.nil n0
  have pre0 : ∀ t, Steps p.tables e below (s₁.setTop (mkF m 0 #[.val (.ref a0)] [])) t → Steps p.tables e below (s₁.setTop (entryFrame m #[(.ref a0)] 1)) t := fun t k => castTop (own_ef_geoN m a0) k
  obtain ⟨T47, X47, e47, st47⟩ := getF X0 hx hZ hown (host := "") (Or.inl (hw _ (List.mem_of_getElem? (i := 50) rfl))) Via.refl e0 FX (g := (mkF m 1 #[.val (.ref a0)] [(.ref a0)])) rfl rfl (hb hby own_d_geoN_1)
  obtain ⟨fs, hr, hrun, hended, hW, hsame⟩ := X47.leave (v := some (.int (0 : Int32))) (fun h => by rw [Bd.returns] at h; cases h)
  refine ⟨_, _, pre0 _ ?_, hrun, hended, _, _, rfl, ?_, ⟨_, rfl⟩, hW, hsame.mono (by decide) (by decide)⟩
  · show Steps p.tables e below (s₁.setTop (mkF m 0 #[.val (.ref a0)] [])) _
    refine XS.aloadN X0.here hx rfl (hb hby own_d_geoN_0) rfl rfl ?_
    show Steps p.tables e below (s₁.setTop (mkF m 1 #[.val (.ref a0)] [(.ref a0)])) _
    refine st47 _ ?_
    show Steps p.tables e below (T47.setTop (mkF m 4 #[.val (.ref a0)] [.null])) _
    refine XS.ifnullYes X47.here hx rfl (pc0 := 4) (pc' := 11) rfl (hb hby own_d_geoN_4) rfl (by decide) (by decide) ?_
    show Steps p.tables e below (T47.setTop (mkF m 11 #[.val (.ref a0)] [])) _
    refine XS.iconst X47.here hx rfl (hb hby own_d_geoN_11) ?_
    show Steps p.tables e below (T47.setTop (mkF m 12 #[.val (.ref a0)] [(.int (0 : Int32))])) _
    exact retN X47 hx (t := .boolean) Bd.returns (by simp) (hb hby own_d_geoN_12) hr
  · show Q_geoN Z a0 h0 n0 _ T47.heap _
    refine ⟨?_, N0, e47⟩
    rw [F_geoN]
theorem own_d_geoR_0 : decode prog_120_method_15_code 0 = .ok (.aload_n 0, 1) := by decide +kernel
theorem own_d_geoR_1 : decode prog_120_method_15_code 1 = .ok (.getfield 73, 3) := by decide +kernel
theorem own_d_geoR_4 : decode prog_120_method_15_code 4 = .ok (.ifnull 7, 3) := by decide +kernel
theorem own_d_geoR_7 : decode prog_120_method_15_code 7 = .ok (.iconst 1, 1) := by decide +kernel
theorem own_d_geoR_8 : decode prog_120_method_15_code 8 = .ok (.goto 4, 3) := by decide +kernel
theorem own_d_geoR_12 : decode prog_120_method_15_code 12 = .ok (.ireturn, 1) := by decide +kernel
def F_geoR  : Int32 := (1 : Int32)
theorem own_ef_geoR (m : MethodId) (a0 : Addr) : entryFrame m #[(.ref a0)] 1 = mkF m 0 #[.val (.ref a0)] [] := by first | (simp [entryFrame, mkF, argsToLocals, Value.category]; done) | rfl
def Q_geoR (Z : State) (a0 : Addr) (r : Addr) (h0 : Heap) (n0 : Nat) (v : Option Value) (h : Heap) (L : List Loc) : Prop := v = some (.int F_geoR) ∧ Fr n0 L ∧ h = h0
set_option maxRecDepth 65536 in
set_option maxHeartbeats 40000000 in
theorem rm_geoR (l : Launch) (Z : State) (a0' : Array Value) (hw : ∀ d ∈ tables_1, d.before a0' Z = true) (ws : List Jvm.Cond) (a0 : Addr) (r : Addr) (h0 : Heap) (n0 : Nat) (Z0 : n0 ≤ h0.size) (FX : Fld Z h0 a0 "com/example/starquarry/starquarry/model/ColumnType" "xtype" "Ljava/lang/String;" (.ref r)) :
    MetFree l (⟨"com/example/starquarry/starquarry/model/ColumnType", "isGeometry", "()Z"⟩ : MethodName) (head1 (Jvm.Cond.code (⟨"com/example/starquarry/starquarry/model/ColumnType", "isGeometry", "()Z"⟩ : MethodName) prog_120_method_15_code 1 (some .boolean) :: ws) ({ frames := 0, cells := 0, slots := 0, locals := 0 } : Room)) (fun a U => a = #[(.ref a0)] ∧ Z.Warmed39 U.vm ∧ U.heap = h0) (fun _ _ _ _ _ => True) (fun _ U o U' => ∃ v L, o = .returned v ∧ Q_geoR Z a0 r h0 n0 v U'.heap L ∧ FrameEnd U o U' L ({ frames := 0, cells := 0, slots := 0, locals := 0 } : Room).cells ({ frames := 0, cells := 0, slots := 0, locals := 0 } : Room).slots) := by
  refine MetFree.of_bodySF (plainFor_of_name own_pn1) hisR ?_
  intro p e s m args below meth c s₁ Bd hml0 hP hK
  obtain ⟨rfl, hZ, hh⟩ := hP
  have hx := Bd.exec
  have hby := Bd.bytes
  have hml : c.maxLocals = 1 := hml0
  have hown : s.vm.findClass "com/example/starquarry/starquarry/model/ColumnType" = some m.cls := findClass_of_methodNamed Bd.named
  have hnm := (name_of_methodNamed Bd.named Bd.method).1
  have X0 : Stand p l e ({ frames := 0, cells := 0, slots := 0, locals := 0 } : Room) s m #[(.ref a0)] below meth c s₁ [] 0 0 := Stand.of_body Bd
  have e0 : s₁.heap = h0 := by rw [← hh, Bd.state]; rfl
  have N0 := Fr.nil n0
  have pre0 : ∀ t, Steps p.tables e below (s₁.setTop (mkF m 0 #[.val (.ref a0)] [])) t → Steps p.tables e below (s₁.setTop (entryFrame m #[(.ref a0)] 1)) t := fun t k => castTop (own_ef_geoR m a0) k
  obtain ⟨T48, X48, e48, st48⟩ := getF X0 hx hZ hown (host := "") (Or.inl (hw _ (List.mem_of_getElem? (i := 50) rfl))) Via.refl e0 FX (g := (mkF m 1 #[.val (.ref a0)] [(.ref a0)])) rfl rfl (hb hby own_d_geoR_1)
  obtain ⟨fs, hr, hrun, hended, hW, hsame⟩ := X48.leave (v := some (.int (1 : Int32))) (fun h => by rw [Bd.returns] at h; cases h)
  refine ⟨_, _, pre0 _ ?_, hrun, hended, _, _, rfl, ?_, ⟨_, rfl⟩, hW, hsame.mono (by decide) (by decide)⟩
  · show Steps p.tables e below (s₁.setTop (mkF m 0 #[.val (.ref a0)] [])) _
    refine XS.aloadN X0.here hx rfl (hb hby own_d_geoR_0) rfl rfl ?_
    show Steps p.tables e below (s₁.setTop (mkF m 1 #[.val (.ref a0)] [(.ref a0)])) _
    refine st48 _ ?_
    show Steps p.tables e below (T48.setTop (mkF m 4 #[.val (.ref a0)] [(.ref r)])) _
    refine XS.ifnullNo X48.here hx rfl (hb hby own_d_geoR_4) rfl ?_
    show Steps p.tables e below (T48.setTop (mkF m 7 #[.val (.ref a0)] [])) _
    refine XS.iconst X48.here hx rfl (hb hby own_d_geoR_7) ?_
    show Steps p.tables e below (T48.setTop (mkF m 8 #[.val (.ref a0)] [(.int (1 : Int32))])) _
    refine XS.goto X48.here hx rfl (pc0 := 8) (pc' := 12) rfl (hb hby own_d_geoR_8) (by decide) (by decide) ?_
    show Steps p.tables e below (T48.setTop (mkF m 12 #[.val (.ref a0)] [(.int (1 : Int32))])) _
    exact retN X48 hx (t := .boolean) Bd.returns (by simp) (hb hby own_d_geoR_12) hr
  · show Q_geoR Z a0 r h0 n0 _ T48.heap _
    refine ⟨?_, N0, e48⟩
    rw [F_geoR]
theorem own_pn2 : plainName "java/lang/Enum" = true := by first | (simp [plainName, overriddenIn]; done) | decide +kernel
theorem own_d_cmp_0 : decode jdk_37_method_8_code 0 = .ok (.aload_n 1, 1) := by decide +kernel
theorem own_d_cmp_1 : decode jdk_37_method_8_code 1 = .ok (.astore_n 2, 1) := by decide +kernel
theorem own_d_cmp_2 : decode jdk_37_method_8_code 2 = .ok (.aload_n 0, 1) := by decide +kernel
theorem own_d_cmp_3 : decode jdk_37_method_8_code 3 = .ok (.astore_n 3, 1) := by decide +kernel
theorem own_d_cmp_4 : decode jdk_37_method_8_code 4 = .ok (.aload_n 3, 1) := by decide +kernel
theorem own_d_cmp_5 : decode jdk_37_method_8_code 5 = .ok (.invokevirtual 29, 3) := by decide +kernel
theorem own_d_cmp_8 : decode jdk_37_method_8_code 8 = .ok (.aload_n 2, 1) := by decide +kernel
theorem own_d_cmp_9 : decode jdk_37_method_8_code 9 = .ok (.invokevirtual 29, 3) := by decide +kernel
theorem own_d_cmp_12 : decode jdk_37_method_8_code 12 = .ok (.if_acmp .eq 22, 3) := by decide +kernel
theorem own_d_cmp_34 : decode jdk_37_method_8_code 34 = .ok (.aload_n 3, 1) := by decide +kernel
theorem own_d_cmp_35 : decode jdk_37_method_8_code 35 = .ok (.getfield 7, 3) := by decide +kernel
theorem own_d_cmp_38 : decode jdk_37_method_8_code 38 = .ok (.aload_n 2, 1) := by decide +kernel
theorem own_d_cmp_39 : decode jdk_37_method_8_code 39 = .ok (.getfield 7, 3) := by decide +kernel
theorem own_d_cmp_42 : decode jdk_37_method_8_code 42 = .ok (.isub, 1) := by decide +kernel
theorem own_d_cmp_43 : decode jdk_37_method_8_code 43 = .ok (.ireturn, 1) := by decide +kernel
def F_cmp (o0 : Int32) (o1 : Int32) : Int32 := (o0 - o1)
theorem own_ef_cmp (m : MethodId) (a0 : Addr) (a1 : Addr) : entryFrame m #[(.ref a0), (.ref a1)] 4 = mkF m 0 #[.val (.ref a0), .val (.ref a1), .unset, .unset] [] := by first | (simp [entryFrame, mkF, argsToLocals, Value.category]; done) | rfl
def Q_cmp (Z : State) (a0 : Addr) (a1 : Addr) (o0 : Int32) (o1 : Int32) (mr : Addr) (h0 : Heap) (n0 : Nat) (v : Option Value) (h : Heap) (L : List Loc) : Prop := v = some (.int (F_cmp o0 o1)) ∧ Fr n0 L ∧ h = h0
set_option maxRecDepth 65536 in
set_option maxHeartbeats 40000000 in
theorem rm_cmp (l : Launch) (Z : State) (a0' : Array Value) (hw : ∀ d ∈ tables_1, d.before a0' Z = true) (ws : List Jvm.Cond) (a0 : Addr) (a1 : Addr) (o0 : Int32) (o1 : Int32) (mr : Addr) (h0 : Heap) (n0 : Nat) (Z0 : n0 ≤ h0.size) (E0 : Exa Z h0 a0 "com/example/starquarry/starquarry/model/ColumnType") (E1 : Exa Z h0 a1 "com/example/starquarry/starquarry/model/ColumnType") (F0 : Fld Z h0 a0 "java/lang/Enum" "ordinal" "I" (.int o0)) (F1 : Fld Z h0 a1 "java/lang/Enum" "ordinal" "I" (.int o1)) (MM : Mir Z "com/example/starquarry/starquarry/model/ColumnType" mr) :
    MetFree l (⟨"java/lang/Enum", "compareTo", "(Ljava/lang/Enum;)I"⟩ : MethodName) (head1 (Jvm.Cond.code (⟨"java/lang/Enum", "compareTo", "(Ljava/lang/Enum;)I"⟩ : MethodName) jdk_37_method_8_code 4 (some .int) :: ws) ({ frames := 1, cells := 0, slots := 0, locals := 15 } : Room)) (fun a U => a = #[(.ref a0), (.ref a1)] ∧ Z.Warmed39 U.vm ∧ U.heap = h0) (fun _ _ _ _ _ => True) (fun _ U o U' => ∃ v L, o = .returned v ∧ Q_cmp Z a0 a1 o0 o1 mr h0 n0 v U'.heap L ∧ FrameEnd U o U' L ({ frames := 1, cells := 0, slots := 0, locals := 15 } : Room).cells ({ frames := 1, cells := 0, slots := 0, locals := 15 } : Room).slots) := by
  refine MetFree.of_bodySF (plainFor_of_name own_pn2) hisR ?_
  intro p e s m args below meth c s₁ Bd hml0 hP hK
  obtain ⟨rfl, hZ, hh⟩ := hP
  have hx := Bd.exec
  have hby := Bd.bytes
  have hml : c.maxLocals = 4 := hml0
  have hown : s.vm.findClass "java/lang/Enum" = some m.cls := findClass_of_methodNamed Bd.named
  have hnm := (name_of_methodNamed Bd.named Bd.method).1
  have X0 : Stand p l e ({ frames := 1, cells := 0, slots := 0, locals := 15 } : Room) s m #[(.ref a0), (.ref a1)] below meth c s₁ [] 0 0 := Stand.of_body Bd
  have e0 : s₁.heap = h0 := by rw [← hh, Bd.state]; rfl
  have N0 := Fr.nil n0
  have pre0 : ∀ t, Steps p.tables e below (s₁.setTop (mkF m 0 #[.val (.ref a0), .val (.ref a1), .unset, .unset] [])) t → Steps p.tables e below (s₁.setTop (entryFrame m #[(.ref a0), (.ref a1)] 4)) t := fun t k => castTop (own_ef_cmp m a0 a1) k
  obtain ⟨T49, X49, e49, st49⟩ := own_gcls X0 hx hZ hown (hw _ (List.mem_of_getElem? (i := 28) rfl)) (hw _ (List.mem_of_getElem? (i := 29) rfl)) (hw _ (List.mem_of_getElem? (i := 31) rfl)) (hw _ (List.mem_of_getElem? (i := 30) rfl)) (hw _ (List.mem_of_getElem? (i := 32) rfl)) e0 E0 MM (g := (mkF m 5 #[.val (.ref a0), .val (.ref a1), .val (.ref a1), .val (.ref a0)] [(.ref a0)])) rfl (by rw [hml]; rfl) rfl (hb hby own_d_cmp_5) (by decide) (show 2 * 0 + 0 + (nativeFrameWords "java/lang/Object" "getClass" 1 + 11) ≤ _ by decide)
  obtain ⟨T50, X50, e50, st50⟩ := own_gcls X49 hx hZ hown (hw _ (List.mem_of_getElem? (i := 28) rfl)) (hw _ (List.mem_of_getElem? (i := 29) rfl)) (hw _ (List.mem_of_getElem? (i := 31) rfl)) (hw _ (List.mem_of_getElem? (i := 30) rfl)) (hw _ (List.mem_of_getElem? (i := 32) rfl)) e49 E1 MM (g := (mkF m 9 #[.val (.ref a0), .val (.ref a1), .val (.ref a1), .val (.ref a0)] [(.ref a1), (.ref mr)])) rfl (by rw [hml]; rfl) rfl (hb hby own_d_cmp_9) (by decide) (show 2 * 0 + 1 + (nativeFrameWords "java/lang/Object" "getClass" 1 + 11) ≤ _ by decide)
  obtain ⟨T51, X51, e51, st51⟩ := getF X50 hx hZ hown (host := "") (Or.inl (hw _ (List.mem_of_getElem? (i := 34) rfl))) Via.refl e50 F0 (g := (mkF m 35 #[.val (.ref a0), .val (.ref a1), .val (.ref a1), .val (.ref a0)] [(.ref a0)])) rfl rfl (hb hby own_d_cmp_35)
  obtain ⟨T52, X52, e52, st52⟩ := getF X51 hx hZ hown (host := "") (Or.inl (hw _ (List.mem_of_getElem? (i := 34) rfl))) Via.refl e51 F1 (g := (mkF m 39 #[.val (.ref a0), .val (.ref a1), .val (.ref a1), .val (.ref a0)] [(.ref a1), (.int o0)])) rfl rfl (hb hby own_d_cmp_39)
  obtain ⟨fs, hr, hrun, hended, hW, hsame⟩ := X52.leave (v := some (.int (o0 - o1))) (fun h => by rw [Bd.returns] at h; cases h)
  refine ⟨_, _, pre0 _ ?_, hrun, hended, _, _, rfl, ?_, ⟨_, rfl⟩, hW, hsame.mono (by decide) (by decide)⟩
  · show Steps p.tables e below (s₁.setTop (mkF m 0 #[.val (.ref a0), .val (.ref a1), .unset, .unset] [])) _
    refine XS.aloadN X0.here hx rfl (hb hby own_d_cmp_0) rfl rfl ?_
    show Steps p.tables e below (s₁.setTop (mkF m 1 #[.val (.ref a0), .val (.ref a1), .unset, .unset] [(.ref a1)])) _
    refine XS.astoreN X0.here hx rfl (hb hby own_d_cmp_1) rfl rfl (l' := #[.val (.ref a0), .val (.ref a1), .val (.ref a1), .unset]) rfl ?_
    show Steps p.tables e below (s₁.setTop (mkF m 2 #[.val (.ref a0), .val (.ref a1), .val (.ref a1), .unset] [])) _
    refine XS.aloadN X0.here hx rfl (hb hby own_d_cmp_2) rfl rfl ?_
    show Steps p.tables e below (s₁.setTop (mkF m 3 #[.val (.ref a0), .val (.ref a1), .val (.ref a1), .unset] [(.ref a0)])) _
    refine XS.astoreN X0.here hx rfl (hb hby own_d_cmp_3) rfl rfl (l' := #[.val (.ref a0), .val (.ref a1), .val (.ref a1), .val (.ref a0)]) rfl ?_
    show Steps p.tables e below (s₁.setTop (mkF m 4 #[.val (.ref a0), .val (.ref a1), .val (.ref a1), .val (.ref a0)] [])) _
    refine XS.aloadN X0.here hx rfl (hb hby own_d_cmp_4) rfl rfl ?_
    show Steps p.tables e below (s₁.setTop (mkF m 5 #[.val (.ref a0), .val (.ref a1), .val (.ref a1), .val (.ref a0)] [(.ref a0)])) _
    refine st49 _ ?_
    show Steps p.tables e below (T49.setTop (mkF m 8 #[.val (.ref a0), .val (.ref a1), .val (.ref a1), .val (.ref a0)] [(.ref mr)])) _
    refine XS.aloadN X49.here hx rfl (hb hby own_d_cmp_8) rfl rfl ?_
    show Steps p.tables e below (T49.setTop (mkF m 9 #[.val (.ref a0), .val (.ref a1), .val (.ref a1), .val (.ref a0)] [(.ref a1), (.ref mr)])) _
    refine st50 _ ?_
    show Steps p.tables e below (T50.setTop (mkF m 12 #[.val (.ref a0), .val (.ref a1), .val (.ref a1), .val (.ref a0)] [(.ref mr), (.ref mr)])) _
    refine Jvm.RoadKit.acmp (g := (mkF m 12 #[.val (.ref a0), .val (.ref a1), .val (.ref a1), .val (.ref a0)] [(.ref mr), (.ref mr)])) X50 hx rfl rfl rfl (pc0 := 12) (pc' := 34) (same := true) rfl (hb hby own_d_cmp_12) rfl (decide_eq_true rfl) (by decide) (by decide) ?_
    show Steps p.tables e below (T50.setTop (mkF m 34 #[.val (.ref a0), .val (.ref a1), .val (.ref a1), .val (.ref a0)] [])) _
    refine XS.aloadN X50.here hx rfl (hb hby own_d_cmp_34) rfl rfl ?_
    show Steps p.tables e below (T50.setTop (mkF m 35 #[.val (.ref a0), .val (.ref a1), .val (.ref a1), .val (.ref a0)] [(.ref a0)])) _
    refine st51 _ ?_
    show Steps p.tables e below (T51.setTop (mkF m 38 #[.val (.ref a0), .val (.ref a1), .val (.ref a1), .val (.ref a0)] [(.int o0)])) _
    refine XS.aloadN X51.here hx rfl (hb hby own_d_cmp_38) rfl rfl ?_
    show Steps p.tables e below (T51.setTop (mkF m 39 #[.val (.ref a0), .val (.ref a1), .val (.ref a1), .val (.ref a0)] [(.ref a1), (.int o0)])) _
    refine st52 _ ?_
    show Steps p.tables e below (T52.setTop (mkF m 42 #[.val (.ref a0), .val (.ref a1), .val (.ref a1), .val (.ref a0)] [(.int o1), (.int o0)])) _
    refine XS.isub X52.here hx rfl (hb hby own_d_cmp_42) rfl ?_
    show Steps p.tables e below (T52.setTop (mkF m 43 #[.val (.ref a0), .val (.ref a1), .val (.ref a1), .val (.ref a0)] [(.int (o0 - o1))])) _
    exact own_retI X52 hx Bd.returns (hb hby own_d_cmp_43) hr
  · show Q_cmp Z a0 a1 o0 o1 mr h0 n0 _ T52.heap _
    refine ⟨?_, N0, e52⟩
    rw [F_cmp]
theorem own_d_num_0 : decode prog_120_method_11_code 0 = .ok (.aload_n 0, 1) := by decide +kernel
theorem own_d_num_1 : decode prog_120_method_11_code 1 = .ok (.getstatic 10, 3) := by decide +kernel
theorem own_d_num_4 : decode prog_120_method_11_code 4 = .ok (.invokevirtual 104, 3) := by decide +kernel
theorem own_pd0 : parseMethodDescriptor "(Ljava/lang/Enum;)I" = some ⟨[(.object "java/lang/Enum")], some .int⟩ := by decide +kernel
theorem own_d_num_7 : decode prog_120_method_11_code 7 = .ok (.ifCond .lt 17, 3) := by decide +kernel
theorem own_d_num_24 : decode prog_120_method_11_code 24 = .ok (.iconst 0, 1) := by decide +kernel
theorem own_d_num_25 : decode prog_120_method_11_code 25 = .ok (.ireturn, 1) := by decide +kernel
theorem own_d_num_10 : decode prog_120_method_11_code 10 = .ok (.aload_n 0, 1) := by decide +kernel
theorem own_d_num_11 : decode prog_120_method_11_code 11 = .ok (.getstatic 25, 3) := by decide +kernel
theorem own_d_num_14 : decode prog_120_method_11_code 14 = .ok (.invokevirtual 104, 3) := by decide +kernel
theorem own_d_num_17 : decode prog_120_method_11_code 17 = .ok (.ifCond .gt 7, 3) := by decide +kernel
theorem own_d_num_20 : decode prog_120_method_11_code 20 = .ok (.iconst 1, 1) := by decide +kernel
theorem own_d_num_21 : decode prog_120_method_11_code 21 = .ok (.goto 4, 3) := by decide +kernel
def F_num (o0 : Int32) : Int32 := (if (F_cmp o0 (2 : Int32)) < (0 : Int32) then (0 : Int32) else (if (0 : Int32) < (F_cmp o0 (7 : Int32)) then (0 : Int32) else (1 : Int32)))
theorem own_ef_num (m : MethodId) (a0 : Addr) : entryFrame m #[(.ref a0)] 1 = mkF m 0 #[.val (.ref a0)] [] := by first | (simp [entryFrame, mkF, argsToLocals, Value.category]; done) | rfl
def Q_num (Z : State) (a0 : Addr) (o0 : Int32) (w_UNSIGNED_BYTE : Addr) (w_DOUBLE : Addr) (mr : Addr) (h0 : Heap) (n0 : Nat) (v : Option Value) (h : Heap) (L : List Loc) : Prop := v = some (.int (F_num o0)) ∧ Fr n0 L ∧ h = h0
set_option maxRecDepth 65536 in
set_option maxHeartbeats 40000000 in
theorem rm_num (l : Launch) (Z : State) (a0' : Array Value) (hw : ∀ d ∈ tables_1, d.before a0' Z = true) (ws : List Jvm.Cond) (a0 : Addr) (o0 : Int32) (w_UNSIGNED_BYTE : Addr) (w_DOUBLE : Addr) (mr : Addr) (h0 : Heap) (n0 : Nat) (Z0 : n0 ≤ h0.size) (E0 : Exa Z h0 a0 "com/example/starquarry/starquarry/model/ColumnType") (F0 : Fld Z h0 a0 "java/lang/Enum" "ordinal" "I" (.int o0)) (S_UNSIGNED_BYTE : Sta Z h0 "com/example/starquarry/starquarry/model/ColumnType" "UNSIGNED_BYTE" "Lcom/example/starquarry/starquarry/model/ColumnType;" (.ref w_UNSIGNED_BYTE)) (E_UNSIGNED_BYTE : Exa Z h0 w_UNSIGNED_BYTE "com/example/starquarry/starquarry/model/ColumnType") (S_DOUBLE : Sta Z h0 "com/example/starquarry/starquarry/model/ColumnType" "DOUBLE" "Lcom/example/starquarry/starquarry/model/ColumnType;" (.ref w_DOUBLE)) (E_DOUBLE : Exa Z h0 w_DOUBLE "com/example/starquarry/starquarry/model/ColumnType") (MM : Mir Z "com/example/starquarry/starquarry/model/ColumnType" mr) (FO_UNSIGNED_BYTE : Fld Z h0 w_UNSIGNED_BYTE "java/lang/Enum" "ordinal" "I" (.int (2 : Int32))) (FO_DOUBLE : Fld Z h0 w_DOUBLE "java/lang/Enum" "ordinal" "I" (.int (7 : Int32))) :
    MetFree l (⟨"com/example/starquarry/starquarry/model/ColumnType", "isNumber", "()Z"⟩ : MethodName) (head1 (Jvm.Cond.code (⟨"com/example/starquarry/starquarry/model/ColumnType", "isNumber", "()Z"⟩ : MethodName) prog_120_method_11_code 1 (some .boolean) :: ws) ({ frames := 2, cells := 0, slots := 0, locals := 30 } : Room)) (fun a U => a = #[(.ref a0)] ∧ Z.Warmed39 U.vm ∧ U.heap = h0) (fun _ _ _ _ _ => True) (fun _ U o U' => ∃ v L, o = .returned v ∧ Q_num Z a0 o0 w_UNSIGNED_BYTE w_DOUBLE mr h0 n0 v U'.heap L ∧ FrameEnd U o U' L ({ frames := 2, cells := 0, slots := 0, locals := 30 } : Room).cells ({ frames := 2, cells := 0, slots := 0, locals := 30 } : Room).slots) := by
  refine MetFree.of_bodySF (plainFor_of_name own_pn1) hisR ?_
  intro p e s m args below meth c s₁ Bd hml0 hP hK
  obtain ⟨rfl, hZ, hh⟩ := hP
  have hx := Bd.exec
  have hby := Bd.bytes
  have hml : c.maxLocals = 1 := hml0
  have hown : s.vm.findClass "com/example/starquarry/starquarry/model/ColumnType" = some m.cls := findClass_of_methodNamed Bd.named
  have hnm := (name_of_methodNamed Bd.named Bd.method).1
  have X0 : Stand p l e ({ frames := 2, cells := 0, slots := 0, locals := 30 } : Room) s m #[(.ref a0)] below meth c s₁ [] 0 0 := Stand.of_body Bd
  have e0 : s₁.heap = h0 := by rw [← hh, Bd.state]; rfl
  have N0 := Fr.nil n0
  have pre0 : ∀ t, Steps p.tables e below (s₁.setTop (mkF m 0 #[.val (.ref a0)] [])) t → Steps p.tables e below (s₁.setTop (entryFrame m #[(.ref a0)] 1)) t := fun t k => castTop (own_ef_num m a0) k
  obtain ⟨T53, X53, e53, st53⟩ := getS2 X0 hx hZ hown (host := "") (Or.inl (hw _ (List.mem_of_getElem? (i := 19) rfl))) Via.refl e0 S_UNSIGNED_BYTE (g := (mkF m 1 #[.val (.ref a0)] [(.ref a0)])) rfl (hb hby own_d_num_1)
  obtain ⟨cq54, kq54, q54a, q54b, q54c⟩ := isOf hZ e53 E0
  obtain ⟨_, _, ⟨T54, L54, k54, n54⟩, -, X54, ⟨Lc54, hQ54, l54, y54, z54⟩, st54⟩ := X53.virtualBackUp hx (x := (⟨"com/example/starquarry/starquarry/model/ColumnType", "compareTo", "(Ljava/lang/Enum;)I"⟩ : MethodName)) (y := (⟨"java/lang/Enum", "compareTo", "(Ljava/lang/Enum;)I"⟩ : MethodName)) (owner := "java/lang/Enum") hown (mvT hZ (hw _ (List.mem_of_getElem? (i := 21) rfl))) (mvT hZ (hw _ (List.mem_of_getElem? (i := 22) rfl))) (mvT hZ (hw _ (List.mem_of_getElem? (i := 23) rfl))) (by decide) (mvT hZ (hw _ (List.mem_of_getElem? (i := 25) rfl))) (mvT hZ (hw _ (List.mem_of_getElem? (i := 24) rfl))) (backOf (W := 0) (rm_cmp l Z a0' hw [] a0 w_UNSIGNED_BYTE o0 (2 : Int32) mr h0 n0 Z0 E0 E_UNSIGNED_BYTE F0 FO_UNSIGNED_BYTE MM) hZ (hw _ (List.mem_of_getElem? (i := 27) rfl)) (hw _ (List.mem_of_getElem? (i := 26) rfl)) (by decide) (by decide)) q54a q54c (g := (mkF m 4 #[.val (.ref a0)] [(.ref w_UNSIGNED_BYTE), (.ref a0)])) rfl (by rw [hml]; rfl) (Steps.refl _) (argsL := [(.ref w_UNSIGNED_BYTE)]) (rest := []) (lenOf own_pd0 rfl) rfl (by show 2 * 0 + _ ≤ _; exact Nat.le_of_eq rfl) (hb hby own_d_num_4) (fun _ _ => ⟨rfl, e53, (by decide : 0 + 0 ≤ _), (by decide : 0 + 0 ≤ _)⟩)
  dsimp only [Pt.U, Pt.locs, Pt.cells, Pt.slots] at X54 l54 y54 z54 st54 hQ54
  subst l54 y54 z54
  obtain ⟨rfl, N54q, e54⟩ := hQ54
  have N54 := Fr.app N0 N54q
  have pre56 : ∀ t, Steps p.tables e below (T54.setTop (mkF m 7 #[.val (.ref a0)] [(.int (F_cmp o0 (2 : Int32)))])) t → Steps p.tables e below (s₁.setTop (entryFrame m #[(.ref a0)] 1)) t := fun t k => pre0 t (by
    show Steps p.tables e below (s₁.setTop (mkF m 0 #[.val (.ref a0)] [])) _
    refine XS.aloadN X0.here hx rfl (hb hby own_d_num_0) rfl rfl ?_
    show Steps p.tables e below (s₁.setTop (mkF m 1 #[.val (.ref a0)] [(.ref a0)])) _
    refine st53 _ ?_
    show Steps p.tables e below (T53.setTop (mkF m 4 #[.val (.ref a0)] [(.ref w_UNSIGNED_BYTE), (.ref a0)])) _
    refine st54.trans ?_
    exact k)
  by_cases hc7_55 : (F_cmp o0 (2 : Int32)) < (0 : Int32)
  · obtain ⟨fs, hr, hrun, hended, hW, hsame⟩ := X54.leave (v := some (.int (0 : Int32))) (fun h => by rw [Bd.returns] at h; cases h)
    refine ⟨_, _, pre56 _ ?_, hrun, hended, _, _, rfl, ?_, ⟨_, rfl⟩, hW, hsame.mono (by decide) (by decide)⟩
    · show Steps p.tables e below (T54.setTop (mkF m 7 #[.val (.ref a0)] [(.int (F_cmp o0 (2 : Int32)))])) _
      refine XS.ifYes X54.here hx rfl (pc0 := 7) (pc' := 24) rfl (hb hby own_d_num_7) rfl ((if0 _ _).trans (tlt hc7_55).1) (by decide) (by decide) ?_
      show Steps p.tables e below (T54.setTop (mkF m 24 #[.val (.ref a0)] [])) _
      refine XS.iconst X54.here hx rfl (hb hby own_d_num_24) ?_
      show Steps p.tables e below (T54.setTop (mkF m 25 #[.val (.ref a0)] [(.int (0 : Int32))])) _
      exact retN X54 hx (t := .boolean) Bd.returns (by simp) (hb hby own_d_num_25) hr
    · show Q_num Z a0 o0 w_UNSIGNED_BYTE w_DOUBLE mr h0 n0 _ T54.heap _
      refine ⟨?_, N54, e54⟩
      rw [F_num, if_pos hc7_55]
  · obtain ⟨T57, X57, e57, st57⟩ := getS2 X54 hx hZ hown (host := "") (Or.inl (hw _ (List.mem_of_getElem? (i := 56) rfl))) Via.refl e54 S_DOUBLE (g := (mkF m 11 #[.val (.ref a0)] [(.ref a0)])) rfl (hb hby own_d_num_11)
    obtain ⟨cq58, kq58, q58a, q58b, q58c⟩ := isOf hZ e57 E0
    obtain ⟨_, _, ⟨T58, L58, k58, n58⟩, -, X58, ⟨Lc58, hQ58, l58, y58, z58⟩, st58⟩ := X57.virtualBackUp hx (x := (⟨"com/example/starquarry/starquarry/model/ColumnType", "compareTo", "(Ljava/lang/Enum;)I"⟩ : MethodName)) (y := (⟨"java/lang/Enum", "compareTo", "(Ljava/lang/Enum;)I"⟩ : MethodName)) (owner := "java/lang/Enum") hown (mvT hZ (hw _ (List.mem_of_getElem? (i := 21) rfl))) (mvT hZ (hw _ (List.mem_of_getElem? (i := 22) rfl))) (mvT hZ (hw _ (List.mem_of_getElem? (i := 23) rfl))) (by decide) (mvT hZ (hw _ (List.mem_of_getElem? (i := 25) rfl))) (mvT hZ (hw _ (List.mem_of_getElem? (i := 24) rfl))) (backOf (W := 0) (rm_cmp l Z a0' hw [] a0 w_DOUBLE o0 (7 : Int32) mr h0 n0 Z0 E0 E_DOUBLE F0 FO_DOUBLE MM) hZ (hw _ (List.mem_of_getElem? (i := 27) rfl)) (hw _ (List.mem_of_getElem? (i := 26) rfl)) (by decide) (by decide)) q58a q58c (g := (mkF m 14 #[.val (.ref a0)] [(.ref w_DOUBLE), (.ref a0)])) rfl (by rw [hml]; rfl) (Steps.refl _) (argsL := [(.ref w_DOUBLE)]) (rest := []) (lenOf own_pd0 rfl) rfl (by show 2 * 0 + _ ≤ _; exact Nat.le_of_eq rfl) (hb hby own_d_num_14) (fun _ _ => ⟨rfl, e57, (by decide : 0 + 0 ≤ _), (by decide : 0 + 0 ≤ _)⟩)
    dsimp only [Pt.U, Pt.locs, Pt.cells, Pt.slots] at X58 l58 y58 z58 st58 hQ58
    subst l58 y58 z58
    obtain ⟨rfl, N58q, e58⟩ := hQ58
    have N58 := Fr.app N54 N58q
    have pre60 : ∀ t, Steps p.tables e below (T58.setTop (mkF m 17 #[.val (.ref a0)] [(.int (F_cmp o0 (7 : Int32)))])) t → Steps p.tables e below (s₁.setTop (entryFrame m #[(.ref a0)] 1)) t := fun t k => pre56 t (by
      show Steps p.tables e below (T54.setTop (mkF m 7 #[.val (.ref a0)] [(.int (F_cmp o0 (2 : Int32)))])) _
      refine XS.ifNo X54.here hx rfl (hb hby own_d_num_7) rfl ((if0 _ _).trans (flt hc7_55).1) ?_
      show Steps p.tables e below (T54.setTop (mkF m 10 #[.val (.ref a0)] [])) _
      refine XS.aloadN X54.here hx rfl (hb hby own_d_num_10) rfl rfl ?_
      show Steps p.tables e below (T54.setTop (mkF m 11 #[.val (.ref a0)] [(.ref a0)])) _
      refine st57 _ ?_
      show Steps p.tables e below (T57.setTop (mkF m 14 #[.val (.ref a0)] [(.ref w_DOUBLE), (.ref a0)])) _
      refine st58.trans ?_
      exact k)
    by_cases hc17_59 : (0 : Int32) < (F_cmp o0 (7 : Int32))
    · obtain ⟨fs, hr, hrun, hended, hW, hsame⟩ := X58.leave (v := some (.int (0 : Int32))) (fun h => by rw [Bd.returns] at h; cases h)
      refine ⟨_, _, pre60 _ ?_, hrun, hended, _, _, rfl, ?_, ⟨_, rfl⟩, hW, hsame.mono (by decide) (by decide)⟩
      · show Steps p.tables e below (T58.setTop (mkF m 17 #[.val (.ref a0)] [(.int (F_cmp o0 (7 : Int32)))])) _
        refine XS.ifYes X58.here hx rfl (pc0 := 17) (pc' := 24) rfl (hb hby own_d_num_17) rfl ((if0 _ _).trans (tlt hc17_59).2.2.1) (by decide) (by decide) ?_
        show Steps p.tables e below (T58.setTop (mkF m 24 #[.val (.ref a0)] [])) _
        refine XS.iconst X58.here hx rfl (hb hby own_d_num_24) ?_
        show Steps p.tables e below (T58.setTop (mkF m 25 #[.val (.ref a0)] [(.int (0 : Int32))])) _
        exact retN X58 hx (t := .boolean) Bd.returns (by simp) (hb hby own_d_num_25) hr
      · show Q_num Z a0 o0 w_UNSIGNED_BYTE w_DOUBLE mr h0 n0 _ T58.heap _
        refine ⟨?_, N58, e58⟩
        rw [F_num, if_neg hc7_55, if_pos hc17_59]
    · obtain ⟨fs, hr, hrun, hended, hW, hsame⟩ := X58.leave (v := some (.int (1 : Int32))) (fun h => by rw [Bd.returns] at h; cases h)
      refine ⟨_, _, pre60 _ ?_, hrun, hended, _, _, rfl, ?_, ⟨_, rfl⟩, hW, hsame.mono (by decide) (by decide)⟩
      · show Steps p.tables e below (T58.setTop (mkF m 17 #[.val (.ref a0)] [(.int (F_cmp o0 (7 : Int32)))])) _
        refine XS.ifNo X58.here hx rfl (hb hby own_d_num_17) rfl ((if0 _ _).trans (flt hc17_59).2.2.1) ?_
        show Steps p.tables e below (T58.setTop (mkF m 20 #[.val (.ref a0)] [])) _
        refine XS.iconst X58.here hx rfl (hb hby own_d_num_20) ?_
        show Steps p.tables e below (T58.setTop (mkF m 21 #[.val (.ref a0)] [(.int (1 : Int32))])) _
        refine XS.goto X58.here hx rfl (pc0 := 21) (pc' := 25) rfl (hb hby own_d_num_21) (by decide) (by decide) ?_
        show Steps p.tables e below (T58.setTop (mkF m 25 #[.val (.ref a0)] [(.int (1 : Int32))])) _
        exact retN X58 hx (t := .boolean) Bd.returns (by simp) (hb hby own_d_num_25) hr
      · show Q_num Z a0 o0 w_UNSIGNED_BYTE w_DOUBLE mr h0 n0 _ T58.heap _
        refine ⟨?_, N58, e58⟩
        rw [F_num, if_neg hc7_55, if_neg hc17_59]
theorem own_pd1 : parseMethodDescriptor "(I)Lcom/example/starquarry/starquarry/model/ColumnType;" = some ⟨[.int], some (.object "com/example/starquarry/starquarry/model/ColumnType")⟩ := by decide +kernel
theorem own_pd2 : parseMethodDescriptor "()Z" = some ⟨[], some .boolean⟩ := by decide +kernel
def F_law (p0 : Int32) : Int32 := (if ((p0 &&& (2147483647 : Int32)) % (12 : Int32)) = (0 : Int32) then (1 : Int32) else (if ((p0 &&& (2147483647 : Int32)) % (12 : Int32)) = (1 : Int32) then (1 : Int32) else (if ((p0 &&& (2147483647 : Int32)) % (12 : Int32)) = (2 : Int32) then (1 : Int32) else (if ((p0 &&& (2147483647 : Int32)) % (12 : Int32)) = (3 : Int32) then (1 : Int32) else (if ((p0 &&& (2147483647 : Int32)) % (12 : Int32)) = (4 : Int32) then (1 : Int32) else (if ((p0 &&& (2147483647 : Int32)) % (12 : Int32)) = (5 : Int32) then (1 : Int32) else (if ((p0 &&& (2147483647 : Int32)) % (12 : Int32)) = (6 : Int32) then (1 : Int32) else (if ((p0 &&& (2147483647 : Int32)) % (12 : Int32)) = (7 : Int32) then (1 : Int32) else (if ((p0 &&& (2147483647 : Int32)) % (12 : Int32)) = (8 : Int32) then (1 : Int32) else (if ((p0 &&& (2147483647 : Int32)) % (12 : Int32)) = (9 : Int32) then (1 : Int32) else (if ((p0 &&& (2147483647 : Int32)) % (12 : Int32)) = (10 : Int32) then (1 : Int32) else (1 : Int32))))))))))))
theorem own_ef_law (m : MethodId) (p0 : Int32) : entryFrame m #[(.int p0)] maxLocals = mkF m 0 #[.val (.int p0), .unset, .unset, .unset, .unset, .unset] [] := by first | (simp [entryFrame, mkF, argsToLocals, Value.category, maxLocals]; done) | rfl
def Q_law (Z : State) (p0 : Int32) (w_BIT : Addr) (w_BOOLEAN : Addr) (w_UNSIGNED_BYTE : Addr) (w_SHORT : Addr) (w_INT : Addr) (w_LONG : Addr) (w_FLOAT : Addr) (w_DOUBLE : Addr) (w_CHAR : Addr) (w_UNICODE_CHAR : Addr) (w_POINT : Addr) (w_CIRCLE : Addr) (mr : Addr) (x_CIRCLE : Addr) (x_POINT : Addr) (h0 : Heap) (n0 : Nat) (v : Option Value) (h : Heap) (L : List Loc) : Prop := v = some (.int (F_law p0)) ∧ Fr n0 L ∧ True
set_option maxRecDepth 65536 in
set_option maxHeartbeats 40000000 in
theorem rm_law (l : Launch) (Z : State) (a0' : Array Value) (hw : ∀ d ∈ tables_1, d.before a0' Z = true) (ws : List Jvm.Cond) (p0 : Int32) (w_BIT : Addr) (w_BOOLEAN : Addr) (w_UNSIGNED_BYTE : Addr) (w_SHORT : Addr) (w_INT : Addr) (w_LONG : Addr) (w_FLOAT : Addr) (w_DOUBLE : Addr) (w_CHAR : Addr) (w_UNICODE_CHAR : Addr) (w_POINT : Addr) (w_CIRCLE : Addr) (mr : Addr) (x_CIRCLE : Addr) (x_POINT : Addr) (h0 : Heap) (n0 : Nat) (Z0 : n0 ≤ h0.size) (S_BIT : Sta Z h0 "com/example/starquarry/starquarry/model/ColumnType" "BIT" "Lcom/example/starquarry/starquarry/model/ColumnType;" (.ref w_BIT)) (E_BIT : Exa Z h0 w_BIT "com/example/starquarry/starquarry/model/ColumnType") (S_BOOLEAN : Sta Z h0 "com/example/starquarry/starquarry/model/ColumnType" "BOOLEAN" "Lcom/example/starquarry/starquarry/model/ColumnType;" (.ref w_BOOLEAN)) (E_BOOLEAN : Exa Z h0 w_BOOLEAN "com/example/starquarry/starquarry/model/ColumnType") (S_UNSIGNED_BYTE : Sta Z h0 "com/example/starquarry/starquarry/model/ColumnType" "UNSIGNED_BYTE" "Lcom/example/starquarry/starquarry/model/ColumnType;" (.ref w_UNSIGNED_BYTE)) (E_UNSIGNED_BYTE : Exa Z h0 w_UNSIGNED_BYTE "com/example/starquarry/starquarry/model/ColumnType") (S_SHORT : Sta Z h0 "com/example/starquarry/starquarry/model/ColumnType" "SHORT" "Lcom/example/starquarry/starquarry/model/ColumnType;" (.ref w_SHORT)) (E_SHORT : Exa Z h0 w_SHORT "com/example/starquarry/starquarry/model/ColumnType") (S_INT : Sta Z h0 "com/example/starquarry/starquarry/model/ColumnType" "INT" "Lcom/example/starquarry/starquarry/model/ColumnType;" (.ref w_INT)) (E_INT : Exa Z h0 w_INT "com/example/starquarry/starquarry/model/ColumnType") (S_LONG : Sta Z h0 "com/example/starquarry/starquarry/model/ColumnType" "LONG" "Lcom/example/starquarry/starquarry/model/ColumnType;" (.ref w_LONG)) (E_LONG : Exa Z h0 w_LONG "com/example/starquarry/starquarry/model/ColumnType") (S_FLOAT : Sta Z h0 "com/example/starquarry/starquarry/model/ColumnType" "FLOAT" "Lcom/example/starquarry/starquarry/model/ColumnType;" (.ref w_FLOAT)) (E_FLOAT : Exa Z h0 w_FLOAT "com/example/starquarry/starquarry/model/ColumnType") (S_DOUBLE : Sta Z h0 "com/example/starquarry/starquarry/model/ColumnType" "DOUBLE" "Lcom/example/starquarry/starquarry/model/ColumnType;" (.ref w_DOUBLE)) (E_DOUBLE : Exa Z h0 w_DOUBLE "com/example/starquarry/starquarry/model/ColumnType") (S_CHAR : Sta Z h0 "com/example/starquarry/starquarry/model/ColumnType" "CHAR" "Lcom/example/starquarry/starquarry/model/ColumnType;" (.ref w_CHAR)) (E_CHAR : Exa Z h0 w_CHAR "com/example/starquarry/starquarry/model/ColumnType") (S_UNICODE_CHAR : Sta Z h0 "com/example/starquarry/starquarry/model/ColumnType" "UNICODE_CHAR" "Lcom/example/starquarry/starquarry/model/ColumnType;" (.ref w_UNICODE_CHAR)) (E_UNICODE_CHAR : Exa Z h0 w_UNICODE_CHAR "com/example/starquarry/starquarry/model/ColumnType") (S_POINT : Sta Z h0 "com/example/starquarry/starquarry/model/ColumnType" "POINT" "Lcom/example/starquarry/starquarry/model/ColumnType;" (.ref w_POINT)) (E_POINT : Exa Z h0 w_POINT "com/example/starquarry/starquarry/model/ColumnType") (S_CIRCLE : Sta Z h0 "com/example/starquarry/starquarry/model/ColumnType" "CIRCLE" "Lcom/example/starquarry/starquarry/model/ColumnType;" (.ref w_CIRCLE)) (E_CIRCLE : Exa Z h0 w_CIRCLE "com/example/starquarry/starquarry/model/ColumnType") (ne_BIT_CHAR : ¬ (w_BIT = w_CHAR)) (ne_BIT_UNICODE_CHAR : ¬ (w_BIT = w_UNICODE_CHAR)) (ne_BOOLEAN_BIT : ¬ (w_BOOLEAN = w_BIT)) (ne_BOOLEAN_CHAR : ¬ (w_BOOLEAN = w_CHAR)) (ne_BOOLEAN_UNICODE_CHAR : ¬ (w_BOOLEAN = w_UNICODE_CHAR)) (ne_UNSIGNED_BYTE_BIT : ¬ (w_UNSIGNED_BYTE = w_BIT)) (ne_UNSIGNED_BYTE_BOOLEAN : ¬ (w_UNSIGNED_BYTE = w_BOOLEAN)) (ne_UNSIGNED_BYTE_CHAR : ¬ (w_UNSIGNED_BYTE = w_CHAR)) (ne_UNSIGNED_BYTE_UNICODE_CHAR : ¬ (w_UNSIGNED_BYTE = w_UNICODE_CHAR)) (ne_SHORT_BIT : ¬ (w_SHORT = w_BIT)) (ne_SHORT_BOOLEAN : ¬ (w_SHORT = w_BOOLEAN)) (ne_SHORT_CHAR : ¬ (w_SHORT = w_CHAR)) (ne_SHORT_UNICODE_CHAR : ¬ (w_SHORT = w_UNICODE_CHAR)) (ne_INT_BIT : ¬ (w_INT = w_BIT)) (ne_INT_BOOLEAN : ¬ (w_INT = w_BOOLEAN)) (ne_INT_CHAR : ¬ (w_INT = w_CHAR)) (ne_INT_UNICODE_CHAR : ¬ (w_INT = w_UNICODE_CHAR)) (ne_LONG_BIT : ¬ (w_LONG = w_BIT)) (ne_LONG_BOOLEAN : ¬ (w_LONG = w_BOOLEAN)) (ne_LONG_CHAR : ¬ (w_LONG = w_CHAR)) (ne_LONG_UNICODE_CHAR : ¬ (w_LONG = w_UNICODE_CHAR)) (ne_FLOAT_BIT : ¬ (w_FLOAT = w_BIT)) (ne_FLOAT_BOOLEAN : ¬ (w_FLOAT = w_BOOLEAN)) (ne_FLOAT_CHAR : ¬ (w_FLOAT = w_CHAR)) (ne_FLOAT_UNICODE_CHAR : ¬ (w_FLOAT = w_UNICODE_CHAR)) (ne_DOUBLE_BIT : ¬ (w_DOUBLE = w_BIT)) (ne_DOUBLE_BOOLEAN : ¬ (w_DOUBLE = w_BOOLEAN)) (ne_DOUBLE_CHAR : ¬ (w_DOUBLE = w_CHAR)) (ne_DOUBLE_UNICODE_CHAR : ¬ (w_DOUBLE = w_UNICODE_CHAR)) (ne_CHAR_BIT : ¬ (w_CHAR = w_BIT)) (ne_CHAR_BOOLEAN : ¬ (w_CHAR = w_BOOLEAN)) (ne_UNICODE_CHAR_BIT : ¬ (w_UNICODE_CHAR = w_BIT)) (ne_UNICODE_CHAR_BOOLEAN : ¬ (w_UNICODE_CHAR = w_BOOLEAN)) (ne_UNICODE_CHAR_CHAR : ¬ (w_UNICODE_CHAR = w_CHAR)) (ne_POINT_BIT : ¬ (w_POINT = w_BIT)) (ne_POINT_BOOLEAN : ¬ (w_POINT = w_BOOLEAN)) (ne_POINT_CHAR : ¬ (w_POINT = w_CHAR)) (ne_POINT_UNICODE_CHAR : ¬ (w_POINT = w_UNICODE_CHAR)) (ne_CIRCLE_BIT : ¬ (w_CIRCLE = w_BIT)) (ne_CIRCLE_BOOLEAN : ¬ (w_CIRCLE = w_BOOLEAN)) (ne_CIRCLE_CHAR : ¬ (w_CIRCLE = w_CHAR)) (ne_CIRCLE_UNICODE_CHAR : ¬ (w_CIRCLE = w_UNICODE_CHAR)) (MM : Mir Z "com/example/starquarry/starquarry/model/ColumnType" mr) (FO_BIT : Fld Z h0 w_BIT "java/lang/Enum" "ordinal" "I" (.int (0 : Int32))) (FO_BOOLEAN : Fld Z h0 w_BOOLEAN "java/lang/Enum" "ordinal" "I" (.int (1 : Int32))) (FO_UNSIGNED_BYTE : Fld Z h0 w_UNSIGNED_BYTE "java/lang/Enum" "ordinal" "I" (.int (2 : Int32))) (FO_SHORT : Fld Z h0 w_SHORT "java/lang/Enum" "ordinal" "I" (.int (3 : Int32))) (FO_INT : Fld Z h0 w_INT "java/lang/Enum" "ordinal" "I" (.int (4 : Int32))) (FO_LONG : Fld Z h0 w_LONG "java/lang/Enum" "ordinal" "I" (.int (5 : Int32))) (FO_FLOAT : Fld Z h0 w_FLOAT "java/lang/Enum" "ordinal" "I" (.int (6 : Int32))) (FO_DOUBLE : Fld Z h0 w_DOUBLE "java/lang/Enum" "ordinal" "I" (.int (7 : Int32))) (FO_CHAR : Fld Z h0 w_CHAR "java/lang/Enum" "ordinal" "I" (.int (8 : Int32))) (FO_UNICODE_CHAR : Fld Z h0 w_UNICODE_CHAR "java/lang/Enum" "ordinal" "I" (.int (9 : Int32))) (FO_POINT : Fld Z h0 w_POINT "java/lang/Enum" "ordinal" "I" (.int (10 : Int32))) (FO_CIRCLE : Fld Z h0 w_CIRCLE "java/lang/Enum" "ordinal" "I" (.int (11 : Int32))) (FX_BIT : Fld Z h0 w_BIT "com/example/starquarry/starquarry/model/ColumnType" "xtype" "Ljava/lang/String;" .null) (FX_SHORT : Fld Z h0 w_SHORT "com/example/starquarry/starquarry/model/ColumnType" "xtype" "Ljava/lang/String;" .null) (FX_UNSIGNED_BYTE : Fld Z h0 w_UNSIGNED_BYTE "com/example/starquarry/starquarry/model/ColumnType" "xtype" "Ljava/lang/String;" .null) (FX_DOUBLE : Fld Z h0 w_DOUBLE "com/example/starquarry/starquarry/model/ColumnType" "xtype" "Ljava/lang/String;" .null) (FX_INT : Fld Z h0 w_INT "com/example/starquarry/starquarry/model/ColumnType" "xtype" "Ljava/lang/String;" .null) (FX_CHAR : Fld Z h0 w_CHAR "com/example/starquarry/starquarry/model/ColumnType" "xtype" "Ljava/lang/String;" .null) (FX_BOOLEAN : Fld Z h0 w_BOOLEAN "com/example/starquarry/starquarry/model/ColumnType" "xtype" "Ljava/lang/String;" .null) (FX_UNICODE_CHAR : Fld Z h0 w_UNICODE_CHAR "com/example/starquarry/starquarry/model/ColumnType" "xtype" "Ljava/lang/String;" .null) (FX_FLOAT : Fld Z h0 w_FLOAT "com/example/starquarry/starquarry/model/ColumnType" "xtype" "Ljava/lang/String;" .null) (FX_LONG : Fld Z h0 w_LONG "com/example/starquarry/starquarry/model/ColumnType" "xtype" "Ljava/lang/String;" .null) (FX_CIRCLE : Fld Z h0 w_CIRCLE "com/example/starquarry/starquarry/model/ColumnType" "xtype" "Ljava/lang/String;" (.ref x_CIRCLE)) (FX_POINT : Fld Z h0 w_POINT "com/example/starquarry/starquarry/model/ColumnType" "xtype" "Ljava/lang/String;" (.ref x_POINT)) :
    MetFree l x (head1 (Jvm.Cond.code x code maxLocals ret :: ws) room_1) (fun a U => a = #[(.int p0)] ∧ Z.Warmed39 U.vm ∧ U.heap = h0) (fun _ _ _ _ _ => True) (fun _ U o U' => ∃ v L, o = .returned v ∧ Q_law Z p0 w_BIT w_BOOLEAN w_UNSIGNED_BYTE w_SHORT w_INT w_LONG w_FLOAT w_DOUBLE w_CHAR w_UNICODE_CHAR w_POINT w_CIRCLE mr x_CIRCLE x_POINT h0 n0 v U'.heap L ∧ FrameEnd U o U' L room_1.cells room_1.slots) := by
  refine MetFree.of_bodySF (plainFor_of_name own_pn0) hisR ?_
  intro p e s m args below meth c s₁ Bd hml0 hP hK
  obtain ⟨rfl, hZ, hh⟩ := hP
  have hx := Bd.exec
  have hby := Bd.bytes
  have hml : c.maxLocals = 6 := hml0
  have hown : s.vm.findClass "com/example/starquarry/starquarry/model/ColumnTypeIsLogicalPinLaw" = some m.cls := findClass_of_methodNamed Bd.named
  have hnm := (name_of_methodNamed Bd.named Bd.method).1
  have X0 : Stand p l e room_1 s m #[(.int p0)] below meth c s₁ [] 0 0 := Stand.of_body Bd
  have e0 : s₁.heap = h0 := by rw [← hh, Bd.state]; rfl
  have N0 := Fr.nil n0
  have pre0 : ∀ t, Steps p.tables e below (s₁.setTop (mkF m 0 #[.val (.int p0), .unset, .unset, .unset, .unset, .unset] [])) t → Steps p.tables e below (s₁.setTop (entryFrame m #[(.int p0)] maxLocals)) t := fun t k => castTop (own_ef_law m p0) k
  obtain ⟨_, _, ⟨T61, L61, k61, n61⟩, -, X61, ⟨Lc61, hQ61, l61, y61, z61⟩, st61⟩ := Jvm.LawKit.callS X0 hx (y := (⟨"com/example/starquarry/starquarry/model/ColumnTypeIsLogicalPinLaw", "pick", "(I)Lcom/example/starquarry/starquarry/model/ColumnType;"⟩ : MethodName)) hown (mvT hZ (hw _ (List.mem_of_getElem? (i := 1) rfl))) (mvT hZ (hw _ (List.mem_of_getElem? (i := 2) rfl))) (mvT hZ (hw _ (List.mem_of_getElem? (i := 3) rfl))) (mvT hZ (hw _ (List.mem_of_getElem? (i := 4) rfl))) (by decide) (backOf (W := 0) (rm_pick l Z a0' hw [] ((p0 &&& (2147483647 : Int32)) % (12 : Int32)) w_BIT w_BOOLEAN w_UNSIGNED_BYTE w_SHORT w_INT w_LONG w_FLOAT w_DOUBLE w_CHAR w_UNICODE_CHAR w_POINT w_CIRCLE h0 n0 Z0 S_BIT S_BOOLEAN S_UNSIGNED_BYTE S_SHORT S_INT S_LONG S_FLOAT S_DOUBLE S_CHAR S_UNICODE_CHAR S_POINT S_CIRCLE) hZ (hw _ (List.mem_of_getElem? (i := 4) rfl)) (hw _ (List.mem_of_getElem? (i := 3) rfl)) (by decide) (by decide)) (g := (mkF m 9 #[.val (.int p0), .val (.int ((p0 &&& (2147483647 : Int32)) % (12 : Int32))), .unset, .unset, .unset, .unset] [(.int ((p0 &&& (2147483647 : Int32)) % (12 : Int32)))])) rfl (by rw [hml]; rfl) (argsL := [(.int ((p0 &&& (2147483647 : Int32)) % (12 : Int32)))]) (rest := []) (lenOf own_pd1 rfl) rfl (by show 2 * 0 + _ ≤ _; exact Nat.le_of_eq rfl) (hb hby at_9) (fun _ _ => ⟨rfl, e0, (by decide : 0 + 0 ≤ _), (by decide : 0 + 0 ≤ _)⟩)
  dsimp only [Pt.U, Pt.locs, Pt.cells, Pt.slots] at X61 l61 y61 z61 st61 hQ61
  subst l61 y61 z61
  obtain ⟨rfl, N61q, e61⟩ := hQ61
  have N61 := Fr.app N0 N61q
  have pre62 : ∀ t, Steps p.tables e below (s₁.setTop (mkF m 9 #[.val (.int p0), .val (.int ((p0 &&& (2147483647 : Int32)) % (12 : Int32))), .unset, .unset, .unset, .unset] [(.int ((p0 &&& (2147483647 : Int32)) % (12 : Int32)))])) t → Steps p.tables e below (s₁.setTop (entryFrame m #[(.int p0)] maxLocals)) t := fun t k => pre0 t (by
    show Steps p.tables e below (s₁.setTop (mkF m 0 #[.val (.int p0), .unset, .unset, .unset, .unset, .unset] [])) _
    refine XS.iloadN X0.here hx rfl (hb hby at_0) rfl ?_
    show Steps p.tables e below (s₁.setTop (mkF m 1 #[.val (.int p0), .unset, .unset, .unset, .unset, .unset] [(.int p0)])) _
    refine X0.ldcInt hx hown (mvT hZ (hw _ (List.mem_of_getElem? (i := 0) rfl))) (g := (mkF m 1 #[.val (.int p0), .unset, .unset, .unset, .unset, .unset] [(.int p0)])) rfl (hb hby at_1) _ ?_
    show Steps p.tables e below (s₁.setTop (mkF m 3 #[.val (.int p0), .unset, .unset, .unset, .unset, .unset] [(.int (2147483647 : Int32)), (.int p0)])) _
    refine XS.iand X0.here hx rfl (hb hby at_3) rfl ?_
    show Steps p.tables e below (s₁.setTop (mkF m 4 #[.val (.int p0), .unset, .unset, .unset, .unset, .unset] [(.int (p0 &&& (2147483647 : Int32)))])) _
    refine XS.bipush X0.here hx rfl (hb hby at_4) ?_
    show Steps p.tables e below (s₁.setTop (mkF m 6 #[.val (.int p0), .unset, .unset, .unset, .unset, .unset] [(.int (12 : Int32)), (.int (p0 &&& (2147483647 : Int32)))])) _
    refine iremM X0 hx rfl (hb hby at_6) rfl (by decide) ?_
    show Steps p.tables e below (s₁.setTop (mkF m 7 #[.val (.int p0), .unset, .unset, .unset, .unset, .unset] [(.int ((p0 &&& (2147483647 : Int32)) % (12 : Int32)))])) _
    refine XS.istoreN X0.here hx rfl (hb hby at_7) rfl (l' := #[.val (.int p0), .val (.int ((p0 &&& (2147483647 : Int32)) % (12 : Int32))), .unset, .unset, .unset, .unset]) rfl ?_
    show Steps p.tables e below (s₁.setTop (mkF m 8 #[.val (.int p0), .val (.int ((p0 &&& (2147483647 : Int32)) % (12 : Int32))), .unset, .unset, .unset, .unset] [])) _
    refine XS.iloadN X0.here hx rfl (hb hby at_8) rfl ?_
    exact k)
  by_cases hs_63 : ((p0 &&& (2147483647 : Int32)) % (12 : Int32)) = (0 : Int32)
  · have q61 : (F_pick ((p0 &&& (2147483647 : Int32)) % (12 : Int32)) w_BIT w_BOOLEAN w_UNSIGNED_BYTE w_SHORT w_INT w_LONG w_FLOAT w_DOUBLE w_CHAR w_UNICODE_CHAR w_POINT w_CIRCLE) = w_BIT := by rw [F_pick, if_pos hs_63]
    rw [q61] at st61
    obtain ⟨cq64, kq64, q64a, q64b, q64c⟩ := isOf hZ e61 E_BIT
    obtain ⟨_, _, ⟨T64, L64, k64, n64⟩, -, X64, ⟨Lc64, hQ64, l64, y64, z64⟩, st64⟩ := X61.virtualBack hx (y := (⟨"com/example/starquarry/starquarry/model/ColumnType", "isLogical", "()Z"⟩ : MethodName)) (z := (⟨"com/example/starquarry/starquarry/model/ColumnType", "isLogical", "()Z"⟩ : MethodName)) hown (mvT hZ (hw _ (List.mem_of_getElem? (i := 8) rfl))) (mvT hZ (hw _ (List.mem_of_getElem? (i := 9) rfl))) (notFace_of_selects (args := #[]) (mvT hZ (hw _ (List.mem_of_getElem? (i := 11) rfl)))) (mvT hZ (hw _ (List.mem_of_getElem? (i := 11) rfl))) (mvT hZ (hw _ (List.mem_of_getElem? (i := 10) rfl))) (by decide) (backOf (W := 0) (rm_lg l Z a0' hw [] w_BIT w_BIT w_BOOLEAN h0 n0 Z0 S_BIT S_BOOLEAN) hZ (hw _ (List.mem_of_getElem? (i := 12) rfl)) (hw _ (List.mem_of_getElem? (i := 6) rfl)) (by decide) (by decide)) q64a q64c (g := (mkF m 14 #[.val (.int p0), .val (.int ((p0 &&& (2147483647 : Int32)) % (12 : Int32))), .val (.ref w_BIT), .unset, .unset, .unset] [(.ref w_BIT)])) rfl (by rw [hml]; rfl) (Steps.refl _) (argsL := []) (rest := []) (lenOf own_pd2 rfl) rfl (by show 2 * 0 + _ ≤ _; exact Nat.le_of_eq rfl) (hb hby at_14) (fun _ _ => ⟨rfl, e61, (by decide : 0 + 0 ≤ _), (by decide : 0 + 0 ≤ _)⟩)
    dsimp only [Pt.U, Pt.locs, Pt.cells, Pt.slots] at X64 l64 y64 z64 st64 hQ64
    subst l64 y64 z64
    obtain ⟨rfl, N64q, e64⟩ := hQ64
    have N64 := Fr.app N61 N64q
    have q64 : (F_lg w_BIT w_BIT w_BOOLEAN) = (1 : Int32) := by rw [F_lg, if_pos (rfl : w_BIT = w_BIT)]
    rw [q64] at st64
    obtain ⟨cq65, kq65, q65a, q65b, q65c⟩ := isOf hZ e64 E_BIT
    obtain ⟨_, _, ⟨T65, L65, k65, n65⟩, -, X65, ⟨Lc65, hQ65, l65, y65, z65⟩, st65⟩ := X64.virtualBack hx (y := (⟨"com/example/starquarry/starquarry/model/ColumnType", "isNumber", "()Z"⟩ : MethodName)) (z := (⟨"com/example/starquarry/starquarry/model/ColumnType", "isNumber", "()Z"⟩ : MethodName)) hown (mvT hZ (hw _ (List.mem_of_getElem? (i := 14) rfl))) (mvT hZ (hw _ (List.mem_of_getElem? (i := 15) rfl))) (notFace_of_selects (args := #[]) (mvT hZ (hw _ (List.mem_of_getElem? (i := 17) rfl)))) (mvT hZ (hw _ (List.mem_of_getElem? (i := 17) rfl))) (mvT hZ (hw _ (List.mem_of_getElem? (i := 16) rfl))) (by decide) (backOf (W := 0) (rm_num l Z a0' hw [] w_BIT (0 : Int32) w_UNSIGNED_BYTE w_DOUBLE mr h0 n0 Z0 E_BIT FO_BIT S_UNSIGNED_BYTE E_UNSIGNED_BYTE S_DOUBLE E_DOUBLE MM FO_UNSIGNED_BYTE FO_DOUBLE) hZ (hw _ (List.mem_of_getElem? (i := 18) rfl)) (hw _ (List.mem_of_getElem? (i := 6) rfl)) (by decide) (by decide)) q65a q65c (g := (mkF m 48 #[.val (.int p0), .val (.int ((p0 &&& (2147483647 : Int32)) % (12 : Int32))), .val (.ref w_BIT), .val (.int (1 : Int32)), .val (.int (1 : Int32)), .val (.int ((0 : Int32) + (1 : Int32)))] [(.ref w_BIT)])) rfl (by rw [hml]; rfl) (Steps.refl _) (argsL := []) (rest := []) (lenOf own_pd2 rfl) rfl (by show 2 * 0 + _ ≤ _; exact Nat.le_of_eq rfl) (hb hby at_48) (fun _ _ => ⟨rfl, e64, (by decide : 0 + 0 ≤ _), (by decide : 0 + 0 ≤ _)⟩)
    dsimp only [Pt.U, Pt.locs, Pt.cells, Pt.slots] at X65 l65 y65 z65 st65 hQ65
    subst l65 y65 z65
    obtain ⟨rfl, N65q, e65⟩ := hQ65
    have N65 := Fr.app N64 N65q
    have q65 : (F_num (0 : Int32)) = (0 : Int32) := by unfold F_num F_cmp; decide
    rw [q65] at st65
    obtain ⟨cq66, kq66, q66a, q66b, q66c⟩ := isOf hZ e65 E_BIT
    obtain ⟨_, _, ⟨T66, L66, k66, n66⟩, -, X66, ⟨Lc66, hQ66, l66, y66, z66⟩, st66⟩ := X65.virtualBack hx (y := (⟨"com/example/starquarry/starquarry/model/ColumnType", "isText", "()Z"⟩ : MethodName)) (z := (⟨"com/example/starquarry/starquarry/model/ColumnType", "isText", "()Z"⟩ : MethodName)) hown (mvT hZ (hw _ (List.mem_of_getElem? (i := 36) rfl))) (mvT hZ (hw _ (List.mem_of_getElem? (i := 37) rfl))) (notFace_of_selects (args := #[]) (mvT hZ (hw _ (List.mem_of_getElem? (i := 39) rfl)))) (mvT hZ (hw _ (List.mem_of_getElem? (i := 39) rfl))) (mvT hZ (hw _ (List.mem_of_getElem? (i := 38) rfl))) (by decide) (backOf (W := 0) (rm_tx l Z a0' hw [] w_BIT w_CHAR w_UNICODE_CHAR h0 n0 Z0 S_CHAR S_UNICODE_CHAR) hZ (hw _ (List.mem_of_getElem? (i := 40) rfl)) (hw _ (List.mem_of_getElem? (i := 6) rfl)) (by decide) (by decide)) q66a q66c (g := (mkF m 61 #[.val (.int p0), .val (.int ((p0 &&& (2147483647 : Int32)) % (12 : Int32))), .val (.ref w_BIT), .val (.int (1 : Int32)), .val (.int (1 : Int32)), .val (.int ((0 : Int32) + (1 : Int32)))] [(.ref w_BIT)])) rfl (by rw [hml]; rfl) (Steps.refl _) (argsL := []) (rest := []) (lenOf own_pd2 rfl) rfl (by show 2 * 0 + _ ≤ _; exact Nat.le_of_eq rfl) (hb hby at_61) (fun _ _ => ⟨rfl, e65, (by decide : 0 + 0 ≤ _), (by decide : 0 + 0 ≤ _)⟩)
    dsimp only [Pt.U, Pt.locs, Pt.cells, Pt.slots] at X66 l66 y66 z66 st66 hQ66
    subst l66 y66 z66
    obtain ⟨rfl, N66q, e66⟩ := hQ66
    have N66 := Fr.app N65 N66q
    have q66 : (F_tx w_BIT w_CHAR w_UNICODE_CHAR) = (0 : Int32) := by rw [F_tx, if_neg ne_BIT_CHAR, if_neg ne_BIT_UNICODE_CHAR]
    rw [q66] at st66
    obtain ⟨cq67, kq67, q67a, q67b, q67c⟩ := isOf hZ e66 E_BIT
    obtain ⟨_, _, ⟨T67, L67, k67, n67⟩, -, X67, ⟨Lc67, hQ67, l67, y67, z67⟩, st67⟩ := X66.virtualBack hx (y := (⟨"com/example/starquarry/starquarry/model/ColumnType", "isGeometry", "()Z"⟩ : MethodName)) (z := (⟨"com/example/starquarry/starquarry/model/ColumnType", "isGeometry", "()Z"⟩ : MethodName)) hown (mvT hZ (hw _ (List.mem_of_getElem? (i := 45) rfl))) (mvT hZ (hw _ (List.mem_of_getElem? (i := 46) rfl))) (notFace_of_selects (args := #[]) (mvT hZ (hw _ (List.mem_of_getElem? (i := 48) rfl)))) (mvT hZ (hw _ (List.mem_of_getElem? (i := 48) rfl))) (mvT hZ (hw _ (List.mem_of_getElem? (i := 47) rfl))) (by decide) (backOf (W := 0) (rm_geoN l Z a0' hw [] w_BIT h0 n0 Z0 FX_BIT) hZ (hw _ (List.mem_of_getElem? (i := 49) rfl)) (hw _ (List.mem_of_getElem? (i := 6) rfl)) (by decide) (by decide)) q67a q67c (g := (mkF m 74 #[.val (.int p0), .val (.int ((p0 &&& (2147483647 : Int32)) % (12 : Int32))), .val (.ref w_BIT), .val (.int (1 : Int32)), .val (.int (1 : Int32)), .val (.int ((0 : Int32) + (1 : Int32)))] [(.ref w_BIT)])) rfl (by rw [hml]; rfl) (Steps.refl _) (argsL := []) (rest := []) (lenOf own_pd2 rfl) rfl (by show 2 * 0 + _ ≤ _; exact Nat.le_of_eq rfl) (hb hby at_74) (fun _ _ => ⟨rfl, e66, (by decide : 0 + 0 ≤ _), (by decide : 0 + 0 ≤ _)⟩)
    dsimp only [Pt.U, Pt.locs, Pt.cells, Pt.slots] at X67 l67 y67 z67 st67 hQ67
    subst l67 y67 z67
    obtain ⟨rfl, N67q, e67⟩ := hQ67
    have N67 := Fr.app N66 N67q
    obtain ⟨fs, hr, hrun, hended, hW, hsame⟩ := X67.leave (v := some (.int (1 : Int32))) (fun h => by rw [Bd.returns] at h; cases h)
    refine ⟨_, _, pre62 _ ?_, hrun, hended, _, _, rfl, ?_, ⟨_, rfl⟩, hW, hsame.mono (by decide) (by decide)⟩
    · show Steps p.tables e below (s₁.setTop (mkF m 9 #[.val (.int p0), .val (.int ((p0 &&& (2147483647 : Int32)) % (12 : Int32))), .unset, .unset, .unset, .unset] [(.int ((p0 &&& (2147483647 : Int32)) % (12 : Int32)))])) _
      refine st61 _ ?_
      show Steps p.tables e below (T61.setTop (mkF m 12 #[.val (.int p0), .val (.int ((p0 &&& (2147483647 : Int32)) % (12 : Int32))), .unset, .unset, .unset, .unset] [(.ref w_BIT)])) _
      refine XS.astoreN X61.here hx rfl (hb hby at_12) rfl rfl (l' := #[.val (.int p0), .val (.int ((p0 &&& (2147483647 : Int32)) % (12 : Int32))), .val (.ref w_BIT), .unset, .unset, .unset]) rfl ?_
      show Steps p.tables e below (T61.setTop (mkF m 13 #[.val (.int p0), .val (.int ((p0 &&& (2147483647 : Int32)) % (12 : Int32))), .val (.ref w_BIT), .unset, .unset, .unset] [])) _
      refine XS.aloadN X61.here hx rfl (hb hby at_13) rfl rfl ?_
      show Steps p.tables e below (T61.setTop (mkF m 14 #[.val (.int p0), .val (.int ((p0 &&& (2147483647 : Int32)) % (12 : Int32))), .val (.ref w_BIT), .unset, .unset, .unset] [(.ref w_BIT)])) _
      refine st64.trans ?_
      show Steps p.tables e below (T64.setTop (mkF m 17 #[.val (.int p0), .val (.int ((p0 &&& (2147483647 : Int32)) % (12 : Int32))), .val (.ref w_BIT), .unset, .unset, .unset] [(.int (1 : Int32))])) _
      refine XS.istoreN X64.here hx rfl (hb hby at_17) rfl (l' := #[.val (.int p0), .val (.int ((p0 &&& (2147483647 : Int32)) % (12 : Int32))), .val (.ref w_BIT), .val (.int (1 : Int32)), .unset, .unset]) rfl ?_
      show Steps p.tables e below (T64.setTop (mkF m 18 #[.val (.int p0), .val (.int ((p0 &&& (2147483647 : Int32)) % (12 : Int32))), .val (.ref w_BIT), .val (.int (1 : Int32)), .unset, .unset] [])) _
      refine XS.iloadN X64.here hx rfl (hb hby at_18) rfl ?_
      show Steps p.tables e below (T64.setTop (mkF m 19 #[.val (.int p0), .val (.int ((p0 &&& (2147483647 : Int32)) % (12 : Int32))), .val (.ref w_BIT), .val (.int (1 : Int32)), .unset, .unset] [(.int ((p0 &&& (2147483647 : Int32)) % (12 : Int32)))])) _
      refine XS.ifYes X64.here hx rfl (pc0 := 19) (pc' := 27) rfl (hb hby at_19) rfl ((if0 _ _).trans (teq hs_63).1) (by decide) (by decide) ?_
      show Steps p.tables e below (T64.setTop (mkF m 27 #[.val (.int p0), .val (.int ((p0 &&& (2147483647 : Int32)) % (12 : Int32))), .val (.ref w_BIT), .val (.int (1 : Int32)), .unset, .unset] [])) _
      refine XS.iconst X64.here hx rfl (hb hby at_27) ?_
      show Steps p.tables e below (T64.setTop (mkF m 28 #[.val (.int p0), .val (.int ((p0 &&& (2147483647 : Int32)) % (12 : Int32))), .val (.ref w_BIT), .val (.int (1 : Int32)), .unset, .unset] [(.int (1 : Int32))])) _
      refine XS.goto X64.here hx rfl (pc0 := 28) (pc' := 32) rfl (hb hby at_28) (by decide) (by decide) ?_
      show Steps p.tables e below (T64.setTop (mkF m 32 #[.val (.int p0), .val (.int ((p0 &&& (2147483647 : Int32)) % (12 : Int32))), .val (.ref w_BIT), .val (.int (1 : Int32)), .unset, .unset] [(.int (1 : Int32))])) _
      refine XS.istore X64.here hx rfl (hb hby at_32) rfl (l' := #[.val (.int p0), .val (.int ((p0 &&& (2147483647 : Int32)) % (12 : Int32))), .val (.ref w_BIT), .val (.int (1 : Int32)), .val (.int (1 : Int32)), .unset]) rfl ?_
      show Steps p.tables e below (T64.setTop (mkF m 34 #[.val (.int p0), .val (.int ((p0 &&& (2147483647 : Int32)) % (12 : Int32))), .val (.ref w_BIT), .val (.int (1 : Int32)), .val (.int (1 : Int32)), .unset] [])) _
      refine XS.iconst X64.here hx rfl (hb hby at_34) ?_
      show Steps p.tables e below (T64.setTop (mkF m 35 #[.val (.int p0), .val (.int ((p0 &&& (2147483647 : Int32)) % (12 : Int32))), .val (.ref w_BIT), .val (.int (1 : Int32)), .val (.int (1 : Int32)), .unset] [(.int (0 : Int32))])) _
      refine XS.istore X64.here hx rfl (hb hby at_35) rfl (l' := #[.val (.int p0), .val (.int ((p0 &&& (2147483647 : Int32)) % (12 : Int32))), .val (.ref w_BIT), .val (.int (1 : Int32)), .val (.int (1 : Int32)), .val (.int (0 : Int32))]) rfl ?_
      show Steps p.tables e below (T64.setTop (mkF m 37 #[.val (.int p0), .val (.int ((p0 &&& (2147483647 : Int32)) % (12 : Int32))), .val (.ref w_BIT), .val (.int (1 : Int32)), .val (.int (1 : Int32)), .val (.int (0 : Int32))] [])) _
      refine XS.iloadN X64.here hx rfl (hb hby at_37) rfl ?_
      show Steps p.tables e below (T64.setTop (mkF m 38 #[.val (.int p0), .val (.int ((p0 &&& (2147483647 : Int32)) % (12 : Int32))), .val (.ref w_BIT), .val (.int (1 : Int32)), .val (.int (1 : Int32)), .val (.int (0 : Int32))] [(.int (1 : Int32))])) _
      refine XS.ifNo X64.here hx rfl (hb hby at_38) rfl ((if0 _ _).trans (feq (by decide : ¬ ((1 : Int32) = (0 : Int32)))).1) ?_
      show Steps p.tables e below (T64.setTop (mkF m 41 #[.val (.int p0), .val (.int ((p0 &&& (2147483647 : Int32)) % (12 : Int32))), .val (.ref w_BIT), .val (.int (1 : Int32)), .val (.int (1 : Int32)), .val (.int (0 : Int32))] [])) _
      refine XS.iload X64.here hx rfl (hb hby at_41) rfl ?_
      show Steps p.tables e below (T64.setTop (mkF m 43 #[.val (.int p0), .val (.int ((p0 &&& (2147483647 : Int32)) % (12 : Int32))), .val (.ref w_BIT), .val (.int (1 : Int32)), .val (.int (1 : Int32)), .val (.int (0 : Int32))] [(.int (0 : Int32))])) _
      refine XS.iconst X64.here hx rfl (hb hby at_43) ?_
      show Steps p.tables e below (T64.setTop (mkF m 44 #[.val (.int p0), .val (.int ((p0 &&& (2147483647 : Int32)) % (12 : Int32))), .val (.ref w_BIT), .val (.int (1 : Int32)), .val (.int (1 : Int32)), .val (.int (0 : Int32))] [(.int (1 : Int32)), (.int (0 : Int32))])) _
      refine XS.iadd X64.here hx rfl (hb hby at_44) rfl ?_
      show Steps p.tables e below (T64.setTop (mkF m 45 #[.val (.int p0), .val (.int ((p0 &&& (2147483647 : Int32)) % (12 : Int32))), .val (.ref w_BIT), .val (.int (1 : Int32)), .val (.int (1 : Int32)), .val (.int (0 : Int32))] [(.int ((0 : Int32) + (1 : Int32)))])) _
      refine XS.istore X64.here hx rfl (hb hby at_45) rfl (l' := #[.val (.int p0), .val (.int ((p0 &&& (2147483647 : Int32)) % (12 : Int32))), .val (.ref w_BIT), .val (.int (1 : Int32)), .val (.int (1 : Int32)), .val (.int ((0 : Int32) + (1 : Int32)))]) rfl ?_
      show Steps p.tables e below (T64.setTop (mkF m 47 #[.val (.int p0), .val (.int ((p0 &&& (2147483647 : Int32)) % (12 : Int32))), .val (.ref w_BIT), .val (.int (1 : Int32)), .val (.int (1 : Int32)), .val (.int ((0 : Int32) + (1 : Int32)))] [])) _
      refine XS.aloadN X64.here hx rfl (hb hby at_47) rfl rfl ?_
      show Steps p.tables e below (T64.setTop (mkF m 48 #[.val (.int p0), .val (.int ((p0 &&& (2147483647 : Int32)) % (12 : Int32))), .val (.ref w_BIT), .val (.int (1 : Int32)), .val (.int (1 : Int32)), .val (.int ((0 : Int32) + (1 : Int32)))] [(.ref w_BIT)])) _
      refine st65.trans ?_
      show Steps p.tables e below (T65.setTop (mkF m 51 #[.val (.int p0), .val (.int ((p0 &&& (2147483647 : Int32)) % (12 : Int32))), .val (.ref w_BIT), .val (.int (1 : Int32)), .val (.int (1 : Int32)), .val (.int ((0 : Int32) + (1 : Int32)))] [(.int (0 : Int32))])) _
      refine XS.ifYes X65.here hx rfl (pc0 := 51) (pc' := 60) rfl (hb hby at_51) rfl ((if0 _ _).trans (teq (by decide : (0 : Int32) = (0 : Int32))).1) (by decide) (by decide) ?_
      show Steps p.tables e below (T65.setTop (mkF m 60 #[.val (.int p0), .val (.int ((p0 &&& (2147483647 : Int32)) % (12 : Int32))), .val (.ref w_BIT), .val (.int (1 : Int32)), .val (.int (1 : Int32)), .val (.int ((0 : Int32) + (1 : Int32)))] [])) _
      refine XS.aloadN X65.here hx rfl (hb hby at_60) rfl rfl ?_
      show Steps p.tables e below (T65.setTop (mkF m 61 #[.val (.int p0), .val (.int ((p0 &&& (2147483647 : Int32)) % (12 : Int32))), .val (.ref w_BIT), .val (.int (1 : Int32)), .val (.int (1 : Int32)), .val (.int ((0 : Int32) + (1 : Int32)))] [(.ref w_BIT)])) _
      refine st66.trans ?_
      show Steps p.tables e below (T66.setTop (mkF m 64 #[.val (.int p0), .val (.int ((p0 &&& (2147483647 : Int32)) % (12 : Int32))), .val (.ref w_BIT), .val (.int (1 : Int32)), .val (.int (1 : Int32)), .val (.int ((0 : Int32) + (1 : Int32)))] [(.int (0 : Int32))])) _
      refine XS.ifYes X66.here hx rfl (pc0 := 64) (pc' := 73) rfl (hb hby at_64) rfl ((if0 _ _).trans (teq (by decide : (0 : Int32) = (0 : Int32))).1) (by decide) (by decide) ?_
      show Steps p.tables e below (T66.setTop (mkF m 73 #[.val (.int p0), .val (.int ((p0 &&& (2147483647 : Int32)) % (12 : Int32))), .val (.ref w_BIT), .val (.int (1 : Int32)), .val (.int (1 : Int32)), .val (.int ((0 : Int32) + (1 : Int32)))] [])) _
      refine XS.aloadN X66.here hx rfl (hb hby at_73) rfl rfl ?_
      show Steps p.tables e below (T66.setTop (mkF m 74 #[.val (.int p0), .val (.int ((p0 &&& (2147483647 : Int32)) % (12 : Int32))), .val (.ref w_BIT), .val (.int (1 : Int32)), .val (.int (1 : Int32)), .val (.int ((0 : Int32) + (1 : Int32)))] [(.ref w_BIT)])) _
      refine st67.trans ?_
      show Steps p.tables e below (T67.setTop (mkF m 77 #[.val (.int p0), .val (.int ((p0 &&& (2147483647 : Int32)) % (12 : Int32))), .val (.ref w_BIT), .val (.int (1 : Int32)), .val (.int (1 : Int32)), .val (.int ((0 : Int32) + (1 : Int32)))] [(.int (0 : Int32))])) _
      refine XS.ifYes X67.here hx rfl (pc0 := 77) (pc' := 86) rfl (hb hby at_77) rfl ((if0 _ _).trans (teq (by decide : (0 : Int32) = (0 : Int32))).1) (by decide) (by decide) ?_
      show Steps p.tables e below (T67.setTop (mkF m 86 #[.val (.int p0), .val (.int ((p0 &&& (2147483647 : Int32)) % (12 : Int32))), .val (.ref w_BIT), .val (.int (1 : Int32)), .val (.int (1 : Int32)), .val (.int ((0 : Int32) + (1 : Int32)))] [])) _
      refine XS.iloadN X67.here hx rfl (hb hby at_86) rfl ?_
      show Steps p.tables e below (T67.setTop (mkF m 87 #[.val (.int p0), .val (.int ((p0 &&& (2147483647 : Int32)) % (12 : Int32))), .val (.ref w_BIT), .val (.int (1 : Int32)), .val (.int (1 : Int32)), .val (.int ((0 : Int32) + (1 : Int32)))] [(.int (1 : Int32))])) _
      refine XS.iload X67.here hx rfl (hb hby at_87) rfl ?_
      show Steps p.tables e below (T67.setTop (mkF m 89 #[.val (.int p0), .val (.int ((p0 &&& (2147483647 : Int32)) % (12 : Int32))), .val (.ref w_BIT), .val (.int (1 : Int32)), .val (.int (1 : Int32)), .val (.int ((0 : Int32) + (1 : Int32)))] [(.int (1 : Int32)), (.int (1 : Int32))])) _
      refine XS.icmpNo X67.here hx rfl (hb hby at_89) rfl (teq (by decide : (1 : Int32) = (1 : Int32))).2 ?_
      show Steps p.tables e below (T67.setTop (mkF m 92 #[.val (.int p0), .val (.int ((p0 &&& (2147483647 : Int32)) % (12 : Int32))), .val (.ref w_BIT), .val (.int (1 : Int32)), .val (.int (1 : Int32)), .val (.int ((0 : Int32) + (1 : Int32)))] [])) _
      refine XS.iload X67.here hx rfl (hb hby at_92) rfl ?_
      show Steps p.tables e below (T67.setTop (mkF m 94 #[.val (.int p0), .val (.int ((p0 &&& (2147483647 : Int32)) % (12 : Int32))), .val (.ref w_BIT), .val (.int (1 : Int32)), .val (.int (1 : Int32)), .val (.int ((0 : Int32) + (1 : Int32)))] [(.int ((0 : Int32) + (1 : Int32)))])) _
      refine XS.iconst X67.here hx rfl (hb hby at_94) ?_
      show Steps p.tables e below (T67.setTop (mkF m 95 #[.val (.int p0), .val (.int ((p0 &&& (2147483647 : Int32)) % (12 : Int32))), .val (.ref w_BIT), .val (.int (1 : Int32)), .val (.int (1 : Int32)), .val (.int ((0 : Int32) + (1 : Int32)))] [(.int (1 : Int32)), (.int ((0 : Int32) + (1 : Int32)))])) _
      refine XS.icmpNo X67.here hx rfl (hb hby at_95) rfl (teq (by decide : ((0 : Int32) + (1 : Int32)) = (1 : Int32))).2 ?_
      show Steps p.tables e below (T67.setTop (mkF m 98 #[.val (.int p0), .val (.int ((p0 &&& (2147483647 : Int32)) % (12 : Int32))), .val (.ref w_BIT), .val (.int (1 : Int32)), .val (.int (1 : Int32)), .val (.int ((0 : Int32) + (1 : Int32)))] [])) _
      refine XS.iconst X67.here hx rfl (hb hby at_98) ?_
      show Steps p.tables e below (T67.setTop (mkF m 99 #[.val (.int p0), .val (.int ((p0 &&& (2147483647 : Int32)) % (12 : Int32))), .val (.ref w_BIT), .val (.int (1 : Int32)), .val (.int (1 : Int32)), .val (.int ((0 : Int32) + (1 : Int32)))] [(.int (1 : Int32))])) _
      refine XS.goto X67.here hx rfl (pc0 := 99) (pc' := 103) rfl (hb hby at_99) (by decide) (by decide) ?_
      show Steps p.tables e below (T67.setTop (mkF m 103 #[.val (.int p0), .val (.int ((p0 &&& (2147483647 : Int32)) % (12 : Int32))), .val (.ref w_BIT), .val (.int (1 : Int32)), .val (.int (1 : Int32)), .val (.int ((0 : Int32) + (1 : Int32)))] [(.int (1 : Int32))])) _
      exact retN X67 hx (t := .boolean) Bd.returns (by simp) (hb hby at_103) hr
    · show Q_law Z p0 w_BIT w_BOOLEAN w_UNSIGNED_BYTE w_SHORT w_INT w_LONG w_FLOAT w_DOUBLE w_CHAR w_UNICODE_CHAR w_POINT w_CIRCLE mr x_CIRCLE x_POINT h0 n0 _ T67.heap _
      refine ⟨?_, N67, trivial⟩
      rw [F_law, if_pos hs_63]
  · by_cases hs_68 : ((p0 &&& (2147483647 : Int32)) % (12 : Int32)) = (1 : Int32)
    · have q61 : (F_pick ((p0 &&& (2147483647 : Int32)) % (12 : Int32)) w_BIT w_BOOLEAN w_UNSIGNED_BYTE w_SHORT w_INT w_LONG w_FLOAT w_DOUBLE w_CHAR w_UNICODE_CHAR w_POINT w_CIRCLE) = w_BOOLEAN := by rw [F_pick, if_neg hs_63, if_pos hs_68]
      rw [q61] at st61
      obtain ⟨cq69, kq69, q69a, q69b, q69c⟩ := isOf hZ e61 E_BOOLEAN
      obtain ⟨_, _, ⟨T69, L69, k69, n69⟩, -, X69, ⟨Lc69, hQ69, l69, y69, z69⟩, st69⟩ := X61.virtualBack hx (y := (⟨"com/example/starquarry/starquarry/model/ColumnType", "isLogical", "()Z"⟩ : MethodName)) (z := (⟨"com/example/starquarry/starquarry/model/ColumnType", "isLogical", "()Z"⟩ : MethodName)) hown (mvT hZ (hw _ (List.mem_of_getElem? (i := 8) rfl))) (mvT hZ (hw _ (List.mem_of_getElem? (i := 9) rfl))) (notFace_of_selects (args := #[]) (mvT hZ (hw _ (List.mem_of_getElem? (i := 11) rfl)))) (mvT hZ (hw _ (List.mem_of_getElem? (i := 11) rfl))) (mvT hZ (hw _ (List.mem_of_getElem? (i := 10) rfl))) (by decide) (backOf (W := 0) (rm_lg l Z a0' hw [] w_BOOLEAN w_BIT w_BOOLEAN h0 n0 Z0 S_BIT S_BOOLEAN) hZ (hw _ (List.mem_of_getElem? (i := 12) rfl)) (hw _ (List.mem_of_getElem? (i := 6) rfl)) (by decide) (by decide)) q69a q69c (g := (mkF m 14 #[.val (.int p0), .val (.int ((p0 &&& (2147483647 : Int32)) % (12 : Int32))), .val (.ref w_BOOLEAN), .unset, .unset, .unset] [(.ref w_BOOLEAN)])) rfl (by rw [hml]; rfl) (Steps.refl _) (argsL := []) (rest := []) (lenOf own_pd2 rfl) rfl (by show 2 * 0 + _ ≤ _; exact Nat.le_of_eq rfl) (hb hby at_14) (fun _ _ => ⟨rfl, e61, (by decide : 0 + 0 ≤ _), (by decide : 0 + 0 ≤ _)⟩)
      dsimp only [Pt.U, Pt.locs, Pt.cells, Pt.slots] at X69 l69 y69 z69 st69 hQ69
      subst l69 y69 z69
      obtain ⟨rfl, N69q, e69⟩ := hQ69
      have N69 := Fr.app N61 N69q
      have q69 : (F_lg w_BOOLEAN w_BIT w_BOOLEAN) = (1 : Int32) := by rw [F_lg, if_neg ne_BOOLEAN_BIT, if_pos (rfl : w_BOOLEAN = w_BOOLEAN)]
      rw [q69] at st69
      obtain ⟨cq70, kq70, q70a, q70b, q70c⟩ := isOf hZ e69 E_BOOLEAN
      obtain ⟨_, _, ⟨T70, L70, k70, n70⟩, -, X70, ⟨Lc70, hQ70, l70, y70, z70⟩, st70⟩ := X69.virtualBack hx (y := (⟨"com/example/starquarry/starquarry/model/ColumnType", "isNumber", "()Z"⟩ : MethodName)) (z := (⟨"com/example/starquarry/starquarry/model/ColumnType", "isNumber", "()Z"⟩ : MethodName)) hown (mvT hZ (hw _ (List.mem_of_getElem? (i := 14) rfl))) (mvT hZ (hw _ (List.mem_of_getElem? (i := 15) rfl))) (notFace_of_selects (args := #[]) (mvT hZ (hw _ (List.mem_of_getElem? (i := 17) rfl)))) (mvT hZ (hw _ (List.mem_of_getElem? (i := 17) rfl))) (mvT hZ (hw _ (List.mem_of_getElem? (i := 16) rfl))) (by decide) (backOf (W := 0) (rm_num l Z a0' hw [] w_BOOLEAN (1 : Int32) w_UNSIGNED_BYTE w_DOUBLE mr h0 n0 Z0 E_BOOLEAN FO_BOOLEAN S_UNSIGNED_BYTE E_UNSIGNED_BYTE S_DOUBLE E_DOUBLE MM FO_UNSIGNED_BYTE FO_DOUBLE) hZ (hw _ (List.mem_of_getElem? (i := 18) rfl)) (hw _ (List.mem_of_getElem? (i := 6) rfl)) (by decide) (by decide)) q70a q70c (g := (mkF m 48 #[.val (.int p0), .val (.int ((p0 &&& (2147483647 : Int32)) % (12 : Int32))), .val (.ref w_BOOLEAN), .val (.int (1 : Int32)), .val (.int (1 : Int32)), .val (.int ((0 : Int32) + (1 : Int32)))] [(.ref w_BOOLEAN)])) rfl (by rw [hml]; rfl) (Steps.refl _) (argsL := []) (rest := []) (lenOf own_pd2 rfl) rfl (by show 2 * 0 + _ ≤ _; exact Nat.le_of_eq rfl) (hb hby at_48) (fun _ _ => ⟨rfl, e69, (by decide : 0 + 0 ≤ _), (by decide : 0 + 0 ≤ _)⟩)
      dsimp only [Pt.U, Pt.locs, Pt.cells, Pt.slots] at X70 l70 y70 z70 st70 hQ70
      subst l70 y70 z70
      obtain ⟨rfl, N70q, e70⟩ := hQ70
      have N70 := Fr.app N69 N70q
      have q70 : (F_num (1 : Int32)) = (0 : Int32) := by unfold F_num F_cmp; decide
      rw [q70] at st70
      obtain ⟨cq71, kq71, q71a, q71b, q71c⟩ := isOf hZ e70 E_BOOLEAN
      obtain ⟨_, _, ⟨T71, L71, k71, n71⟩, -, X71, ⟨Lc71, hQ71, l71, y71, z71⟩, st71⟩ := X70.virtualBack hx (y := (⟨"com/example/starquarry/starquarry/model/ColumnType", "isText", "()Z"⟩ : MethodName)) (z := (⟨"com/example/starquarry/starquarry/model/ColumnType", "isText", "()Z"⟩ : MethodName)) hown (mvT hZ (hw _ (List.mem_of_getElem? (i := 36) rfl))) (mvT hZ (hw _ (List.mem_of_getElem? (i := 37) rfl))) (notFace_of_selects (args := #[]) (mvT hZ (hw _ (List.mem_of_getElem? (i := 39) rfl)))) (mvT hZ (hw _ (List.mem_of_getElem? (i := 39) rfl))) (mvT hZ (hw _ (List.mem_of_getElem? (i := 38) rfl))) (by decide) (backOf (W := 0) (rm_tx l Z a0' hw [] w_BOOLEAN w_CHAR w_UNICODE_CHAR h0 n0 Z0 S_CHAR S_UNICODE_CHAR) hZ (hw _ (List.mem_of_getElem? (i := 40) rfl)) (hw _ (List.mem_of_getElem? (i := 6) rfl)) (by decide) (by decide)) q71a q71c (g := (mkF m 61 #[.val (.int p0), .val (.int ((p0 &&& (2147483647 : Int32)) % (12 : Int32))), .val (.ref w_BOOLEAN), .val (.int (1 : Int32)), .val (.int (1 : Int32)), .val (.int ((0 : Int32) + (1 : Int32)))] [(.ref w_BOOLEAN)])) rfl (by rw [hml]; rfl) (Steps.refl _) (argsL := []) (rest := []) (lenOf own_pd2 rfl) rfl (by show 2 * 0 + _ ≤ _; exact Nat.le_of_eq rfl) (hb hby at_61) (fun _ _ => ⟨rfl, e70, (by decide : 0 + 0 ≤ _), (by decide : 0 + 0 ≤ _)⟩)
      dsimp only [Pt.U, Pt.locs, Pt.cells, Pt.slots] at X71 l71 y71 z71 st71 hQ71
      subst l71 y71 z71
      obtain ⟨rfl, N71q, e71⟩ := hQ71
      have N71 := Fr.app N70 N71q
      have q71 : (F_tx w_BOOLEAN w_CHAR w_UNICODE_CHAR) = (0 : Int32) := by rw [F_tx, if_neg ne_BOOLEAN_CHAR, if_neg ne_BOOLEAN_UNICODE_CHAR]
      rw [q71] at st71
      obtain ⟨cq72, kq72, q72a, q72b, q72c⟩ := isOf hZ e71 E_BOOLEAN
      obtain ⟨_, _, ⟨T72, L72, k72, n72⟩, -, X72, ⟨Lc72, hQ72, l72, y72, z72⟩, st72⟩ := X71.virtualBack hx (y := (⟨"com/example/starquarry/starquarry/model/ColumnType", "isGeometry", "()Z"⟩ : MethodName)) (z := (⟨"com/example/starquarry/starquarry/model/ColumnType", "isGeometry", "()Z"⟩ : MethodName)) hown (mvT hZ (hw _ (List.mem_of_getElem? (i := 45) rfl))) (mvT hZ (hw _ (List.mem_of_getElem? (i := 46) rfl))) (notFace_of_selects (args := #[]) (mvT hZ (hw _ (List.mem_of_getElem? (i := 48) rfl)))) (mvT hZ (hw _ (List.mem_of_getElem? (i := 48) rfl))) (mvT hZ (hw _ (List.mem_of_getElem? (i := 47) rfl))) (by decide) (backOf (W := 0) (rm_geoN l Z a0' hw [] w_BOOLEAN h0 n0 Z0 FX_BOOLEAN) hZ (hw _ (List.mem_of_getElem? (i := 49) rfl)) (hw _ (List.mem_of_getElem? (i := 6) rfl)) (by decide) (by decide)) q72a q72c (g := (mkF m 74 #[.val (.int p0), .val (.int ((p0 &&& (2147483647 : Int32)) % (12 : Int32))), .val (.ref w_BOOLEAN), .val (.int (1 : Int32)), .val (.int (1 : Int32)), .val (.int ((0 : Int32) + (1 : Int32)))] [(.ref w_BOOLEAN)])) rfl (by rw [hml]; rfl) (Steps.refl _) (argsL := []) (rest := []) (lenOf own_pd2 rfl) rfl (by show 2 * 0 + _ ≤ _; exact Nat.le_of_eq rfl) (hb hby at_74) (fun _ _ => ⟨rfl, e71, (by decide : 0 + 0 ≤ _), (by decide : 0 + 0 ≤ _)⟩)
      dsimp only [Pt.U, Pt.locs, Pt.cells, Pt.slots] at X72 l72 y72 z72 st72 hQ72
      subst l72 y72 z72
      obtain ⟨rfl, N72q, e72⟩ := hQ72
      have N72 := Fr.app N71 N72q
      obtain ⟨fs, hr, hrun, hended, hW, hsame⟩ := X72.leave (v := some (.int (1 : Int32))) (fun h => by rw [Bd.returns] at h; cases h)
      refine ⟨_, _, pre62 _ ?_, hrun, hended, _, _, rfl, ?_, ⟨_, rfl⟩, hW, hsame.mono (by decide) (by decide)⟩
      · show Steps p.tables e below (s₁.setTop (mkF m 9 #[.val (.int p0), .val (.int ((p0 &&& (2147483647 : Int32)) % (12 : Int32))), .unset, .unset, .unset, .unset] [(.int ((p0 &&& (2147483647 : Int32)) % (12 : Int32)))])) _
        refine st61 _ ?_
        show Steps p.tables e below (T61.setTop (mkF m 12 #[.val (.int p0), .val (.int ((p0 &&& (2147483647 : Int32)) % (12 : Int32))), .unset, .unset, .unset, .unset] [(.ref w_BOOLEAN)])) _
        refine XS.astoreN X61.here hx rfl (hb hby at_12) rfl rfl (l' := #[.val (.int p0), .val (.int ((p0 &&& (2147483647 : Int32)) % (12 : Int32))), .val (.ref w_BOOLEAN), .unset, .unset, .unset]) rfl ?_
        show Steps p.tables e below (T61.setTop (mkF m 13 #[.val (.int p0), .val (.int ((p0 &&& (2147483647 : Int32)) % (12 : Int32))), .val (.ref w_BOOLEAN), .unset, .unset, .unset] [])) _
        refine XS.aloadN X61.here hx rfl (hb hby at_13) rfl rfl ?_
        show Steps p.tables e below (T61.setTop (mkF m 14 #[.val (.int p0), .val (.int ((p0 &&& (2147483647 : Int32)) % (12 : Int32))), .val (.ref w_BOOLEAN), .unset, .unset, .unset] [(.ref w_BOOLEAN)])) _
        refine st69.trans ?_
        show Steps p.tables e below (T69.setTop (mkF m 17 #[.val (.int p0), .val (.int ((p0 &&& (2147483647 : Int32)) % (12 : Int32))), .val (.ref w_BOOLEAN), .unset, .unset, .unset] [(.int (1 : Int32))])) _
        refine XS.istoreN X69.here hx rfl (hb hby at_17) rfl (l' := #[.val (.int p0), .val (.int ((p0 &&& (2147483647 : Int32)) % (12 : Int32))), .val (.ref w_BOOLEAN), .val (.int (1 : Int32)), .unset, .unset]) rfl ?_
        show Steps p.tables e below (T69.setTop (mkF m 18 #[.val (.int p0), .val (.int ((p0 &&& (2147483647 : Int32)) % (12 : Int32))), .val (.ref w_BOOLEAN), .val (.int (1 : Int32)), .unset, .unset] [])) _
        refine XS.iloadN X69.here hx rfl (hb hby at_18) rfl ?_
        show Steps p.tables e below (T69.setTop (mkF m 19 #[.val (.int p0), .val (.int ((p0 &&& (2147483647 : Int32)) % (12 : Int32))), .val (.ref w_BOOLEAN), .val (.int (1 : Int32)), .unset, .unset] [(.int ((p0 &&& (2147483647 : Int32)) % (12 : Int32)))])) _
        refine XS.ifNo X69.here hx rfl (hb hby at_19) rfl ((if0 _ _).trans (feq hs_63).1) ?_
        show Steps p.tables e below (T69.setTop (mkF m 22 #[.val (.int p0), .val (.int ((p0 &&& (2147483647 : Int32)) % (12 : Int32))), .val (.ref w_BOOLEAN), .val (.int (1 : Int32)), .unset, .unset] [])) _
        refine XS.iloadN X69.here hx rfl (hb hby at_22) rfl ?_
        show Steps p.tables e below (T69.setTop (mkF m 23 #[.val (.int p0), .val (.int ((p0 &&& (2147483647 : Int32)) % (12 : Int32))), .val (.ref w_BOOLEAN), .val (.int (1 : Int32)), .unset, .unset] [(.int ((p0 &&& (2147483647 : Int32)) % (12 : Int32)))])) _
        refine XS.iconst X69.here hx rfl (hb hby at_23) ?_
        show Steps p.tables e below (T69.setTop (mkF m 24 #[.val (.int p0), .val (.int ((p0 &&& (2147483647 : Int32)) % (12 : Int32))), .val (.ref w_BOOLEAN), .val (.int (1 : Int32)), .unset, .unset] [(.int (1 : Int32)), (.int ((p0 &&& (2147483647 : Int32)) % (12 : Int32)))])) _
        refine XS.icmpNo X69.here hx rfl (hb hby at_24) rfl (teq hs_68).2 ?_
        show Steps p.tables e below (T69.setTop (mkF m 27 #[.val (.int p0), .val (.int ((p0 &&& (2147483647 : Int32)) % (12 : Int32))), .val (.ref w_BOOLEAN), .val (.int (1 : Int32)), .unset, .unset] [])) _
        refine XS.iconst X69.here hx rfl (hb hby at_27) ?_
        show Steps p.tables e below (T69.setTop (mkF m 28 #[.val (.int p0), .val (.int ((p0 &&& (2147483647 : Int32)) % (12 : Int32))), .val (.ref w_BOOLEAN), .val (.int (1 : Int32)), .unset, .unset] [(.int (1 : Int32))])) _
        refine XS.goto X69.here hx rfl (pc0 := 28) (pc' := 32) rfl (hb hby at_28) (by decide) (by decide) ?_
        show Steps p.tables e below (T69.setTop (mkF m 32 #[.val (.int p0), .val (.int ((p0 &&& (2147483647 : Int32)) % (12 : Int32))), .val (.ref w_BOOLEAN), .val (.int (1 : Int32)), .unset, .unset] [(.int (1 : Int32))])) _
        refine XS.istore X69.here hx rfl (hb hby at_32) rfl (l' := #[.val (.int p0), .val (.int ((p0 &&& (2147483647 : Int32)) % (12 : Int32))), .val (.ref w_BOOLEAN), .val (.int (1 : Int32)), .val (.int (1 : Int32)), .unset]) rfl ?_
        show Steps p.tables e below (T69.setTop (mkF m 34 #[.val (.int p0), .val (.int ((p0 &&& (2147483647 : Int32)) % (12 : Int32))), .val (.ref w_BOOLEAN), .val (.int (1 : Int32)), .val (.int (1 : Int32)), .unset] [])) _
        refine XS.iconst X69.here hx rfl (hb hby at_34) ?_
        show Steps p.tables e below (T69.setTop (mkF m 35 #[.val (.int p0), .val (.int ((p0 &&& (2147483647 : Int32)) % (12 : Int32))), .val (.ref w_BOOLEAN), .val (.int (1 : Int32)), .val (.int (1 : Int32)), .unset] [(.int (0 : Int32))])) _
        refine XS.istore X69.here hx rfl (hb hby at_35) rfl (l' := #[.val (.int p0), .val (.int ((p0 &&& (2147483647 : Int32)) % (12 : Int32))), .val (.ref w_BOOLEAN), .val (.int (1 : Int32)), .val (.int (1 : Int32)), .val (.int (0 : Int32))]) rfl ?_
        show Steps p.tables e below (T69.setTop (mkF m 37 #[.val (.int p0), .val (.int ((p0 &&& (2147483647 : Int32)) % (12 : Int32))), .val (.ref w_BOOLEAN), .val (.int (1 : Int32)), .val (.int (1 : Int32)), .val (.int (0 : Int32))] [])) _
        refine XS.iloadN X69.here hx rfl (hb hby at_37) rfl ?_
        show Steps p.tables e below (T69.setTop (mkF m 38 #[.val (.int p0), .val (.int ((p0 &&& (2147483647 : Int32)) % (12 : Int32))), .val (.ref w_BOOLEAN), .val (.int (1 : Int32)), .val (.int (1 : Int32)), .val (.int (0 : Int32))] [(.int (1 : Int32))])) _
        refine XS.ifNo X69.here hx rfl (hb hby at_38) rfl ((if0 _ _).trans (feq (by decide : ¬ ((1 : Int32) = (0 : Int32)))).1) ?_
        show Steps p.tables e below (T69.setTop (mkF m 41 #[.val (.int p0), .val (.int ((p0 &&& (2147483647 : Int32)) % (12 : Int32))), .val (.ref w_BOOLEAN), .val (.int (1 : Int32)), .val (.int (1 : Int32)), .val (.int (0 : Int32))] [])) _
        refine XS.iload X69.here hx rfl (hb hby at_41) rfl ?_
        show Steps p.tables e below (T69.setTop (mkF m 43 #[.val (.int p0), .val (.int ((p0 &&& (2147483647 : Int32)) % (12 : Int32))), .val (.ref w_BOOLEAN), .val (.int (1 : Int32)), .val (.int (1 : Int32)), .val (.int (0 : Int32))] [(.int (0 : Int32))])) _
        refine XS.iconst X69.here hx rfl (hb hby at_43) ?_
        show Steps p.tables e below (T69.setTop (mkF m 44 #[.val (.int p0), .val (.int ((p0 &&& (2147483647 : Int32)) % (12 : Int32))), .val (.ref w_BOOLEAN), .val (.int (1 : Int32)), .val (.int (1 : Int32)), .val (.int (0 : Int32))] [(.int (1 : Int32)), (.int (0 : Int32))])) _
        refine XS.iadd X69.here hx rfl (hb hby at_44) rfl ?_
        show Steps p.tables e below (T69.setTop (mkF m 45 #[.val (.int p0), .val (.int ((p0 &&& (2147483647 : Int32)) % (12 : Int32))), .val (.ref w_BOOLEAN), .val (.int (1 : Int32)), .val (.int (1 : Int32)), .val (.int (0 : Int32))] [(.int ((0 : Int32) + (1 : Int32)))])) _
        refine XS.istore X69.here hx rfl (hb hby at_45) rfl (l' := #[.val (.int p0), .val (.int ((p0 &&& (2147483647 : Int32)) % (12 : Int32))), .val (.ref w_BOOLEAN), .val (.int (1 : Int32)), .val (.int (1 : Int32)), .val (.int ((0 : Int32) + (1 : Int32)))]) rfl ?_
        show Steps p.tables e below (T69.setTop (mkF m 47 #[.val (.int p0), .val (.int ((p0 &&& (2147483647 : Int32)) % (12 : Int32))), .val (.ref w_BOOLEAN), .val (.int (1 : Int32)), .val (.int (1 : Int32)), .val (.int ((0 : Int32) + (1 : Int32)))] [])) _
        refine XS.aloadN X69.here hx rfl (hb hby at_47) rfl rfl ?_
        show Steps p.tables e below (T69.setTop (mkF m 48 #[.val (.int p0), .val (.int ((p0 &&& (2147483647 : Int32)) % (12 : Int32))), .val (.ref w_BOOLEAN), .val (.int (1 : Int32)), .val (.int (1 : Int32)), .val (.int ((0 : Int32) + (1 : Int32)))] [(.ref w_BOOLEAN)])) _
        refine st70.trans ?_
        show Steps p.tables e below (T70.setTop (mkF m 51 #[.val (.int p0), .val (.int ((p0 &&& (2147483647 : Int32)) % (12 : Int32))), .val (.ref w_BOOLEAN), .val (.int (1 : Int32)), .val (.int (1 : Int32)), .val (.int ((0 : Int32) + (1 : Int32)))] [(.int (0 : Int32))])) _
        refine XS.ifYes X70.here hx rfl (pc0 := 51) (pc' := 60) rfl (hb hby at_51) rfl ((if0 _ _).trans (teq (by decide : (0 : Int32) = (0 : Int32))).1) (by decide) (by decide) ?_
        show Steps p.tables e below (T70.setTop (mkF m 60 #[.val (.int p0), .val (.int ((p0 &&& (2147483647 : Int32)) % (12 : Int32))), .val (.ref w_BOOLEAN), .val (.int (1 : Int32)), .val (.int (1 : Int32)), .val (.int ((0 : Int32) + (1 : Int32)))] [])) _
        refine XS.aloadN X70.here hx rfl (hb hby at_60) rfl rfl ?_
        show Steps p.tables e below (T70.setTop (mkF m 61 #[.val (.int p0), .val (.int ((p0 &&& (2147483647 : Int32)) % (12 : Int32))), .val (.ref w_BOOLEAN), .val (.int (1 : Int32)), .val (.int (1 : Int32)), .val (.int ((0 : Int32) + (1 : Int32)))] [(.ref w_BOOLEAN)])) _
        refine st71.trans ?_
        show Steps p.tables e below (T71.setTop (mkF m 64 #[.val (.int p0), .val (.int ((p0 &&& (2147483647 : Int32)) % (12 : Int32))), .val (.ref w_BOOLEAN), .val (.int (1 : Int32)), .val (.int (1 : Int32)), .val (.int ((0 : Int32) + (1 : Int32)))] [(.int (0 : Int32))])) _
        refine XS.ifYes X71.here hx rfl (pc0 := 64) (pc' := 73) rfl (hb hby at_64) rfl ((if0 _ _).trans (teq (by decide : (0 : Int32) = (0 : Int32))).1) (by decide) (by decide) ?_
        show Steps p.tables e below (T71.setTop (mkF m 73 #[.val (.int p0), .val (.int ((p0 &&& (2147483647 : Int32)) % (12 : Int32))), .val (.ref w_BOOLEAN), .val (.int (1 : Int32)), .val (.int (1 : Int32)), .val (.int ((0 : Int32) + (1 : Int32)))] [])) _
        refine XS.aloadN X71.here hx rfl (hb hby at_73) rfl rfl ?_
        show Steps p.tables e below (T71.setTop (mkF m 74 #[.val (.int p0), .val (.int ((p0 &&& (2147483647 : Int32)) % (12 : Int32))), .val (.ref w_BOOLEAN), .val (.int (1 : Int32)), .val (.int (1 : Int32)), .val (.int ((0 : Int32) + (1 : Int32)))] [(.ref w_BOOLEAN)])) _
        refine st72.trans ?_
        show Steps p.tables e below (T72.setTop (mkF m 77 #[.val (.int p0), .val (.int ((p0 &&& (2147483647 : Int32)) % (12 : Int32))), .val (.ref w_BOOLEAN), .val (.int (1 : Int32)), .val (.int (1 : Int32)), .val (.int ((0 : Int32) + (1 : Int32)))] [(.int (0 : Int32))])) _
        refine XS.ifYes X72.here hx rfl (pc0 := 77) (pc' := 86) rfl (hb hby at_77) rfl ((if0 _ _).trans (teq (by decide : (0 : Int32) = (0 : Int32))).1) (by decide) (by decide) ?_
        show Steps p.tables e below (T72.setTop (mkF m 86 #[.val (.int p0), .val (.int ((p0 &&& (2147483647 : Int32)) % (12 : Int32))), .val (.ref w_BOOLEAN), .val (.int (1 : Int32)), .val (.int (1 : Int32)), .val (.int ((0 : Int32) + (1 : Int32)))] [])) _
        refine XS.iloadN X72.here hx rfl (hb hby at_86) rfl ?_
        show Steps p.tables e below (T72.setTop (mkF m 87 #[.val (.int p0), .val (.int ((p0 &&& (2147483647 : Int32)) % (12 : Int32))), .val (.ref w_BOOLEAN), .val (.int (1 : Int32)), .val (.int (1 : Int32)), .val (.int ((0 : Int32) + (1 : Int32)))] [(.int (1 : Int32))])) _
        refine XS.iload X72.here hx rfl (hb hby at_87) rfl ?_
        show Steps p.tables e below (T72.setTop (mkF m 89 #[.val (.int p0), .val (.int ((p0 &&& (2147483647 : Int32)) % (12 : Int32))), .val (.ref w_BOOLEAN), .val (.int (1 : Int32)), .val (.int (1 : Int32)), .val (.int ((0 : Int32) + (1 : Int32)))] [(.int (1 : Int32)), (.int (1 : Int32))])) _
        refine XS.icmpNo X72.here hx rfl (hb hby at_89) rfl (teq (by decide : (1 : Int32) = (1 : Int32))).2 ?_
        show Steps p.tables e below (T72.setTop (mkF m 92 #[.val (.int p0), .val (.int ((p0 &&& (2147483647 : Int32)) % (12 : Int32))), .val (.ref w_BOOLEAN), .val (.int (1 : Int32)), .val (.int (1 : Int32)), .val (.int ((0 : Int32) + (1 : Int32)))] [])) _
        refine XS.iload X72.here hx rfl (hb hby at_92) rfl ?_
        show Steps p.tables e below (T72.setTop (mkF m 94 #[.val (.int p0), .val (.int ((p0 &&& (2147483647 : Int32)) % (12 : Int32))), .val (.ref w_BOOLEAN), .val (.int (1 : Int32)), .val (.int (1 : Int32)), .val (.int ((0 : Int32) + (1 : Int32)))] [(.int ((0 : Int32) + (1 : Int32)))])) _
        refine XS.iconst X72.here hx rfl (hb hby at_94) ?_
        show Steps p.tables e below (T72.setTop (mkF m 95 #[.val (.int p0), .val (.int ((p0 &&& (2147483647 : Int32)) % (12 : Int32))), .val (.ref w_BOOLEAN), .val (.int (1 : Int32)), .val (.int (1 : Int32)), .val (.int ((0 : Int32) + (1 : Int32)))] [(.int (1 : Int32)), (.int ((0 : Int32) + (1 : Int32)))])) _
        refine XS.icmpNo X72.here hx rfl (hb hby at_95) rfl (teq (by decide : ((0 : Int32) + (1 : Int32)) = (1 : Int32))).2 ?_
        show Steps p.tables e below (T72.setTop (mkF m 98 #[.val (.int p0), .val (.int ((p0 &&& (2147483647 : Int32)) % (12 : Int32))), .val (.ref w_BOOLEAN), .val (.int (1 : Int32)), .val (.int (1 : Int32)), .val (.int ((0 : Int32) + (1 : Int32)))] [])) _
        refine XS.iconst X72.here hx rfl (hb hby at_98) ?_
        show Steps p.tables e below (T72.setTop (mkF m 99 #[.val (.int p0), .val (.int ((p0 &&& (2147483647 : Int32)) % (12 : Int32))), .val (.ref w_BOOLEAN), .val (.int (1 : Int32)), .val (.int (1 : Int32)), .val (.int ((0 : Int32) + (1 : Int32)))] [(.int (1 : Int32))])) _
        refine XS.goto X72.here hx rfl (pc0 := 99) (pc' := 103) rfl (hb hby at_99) (by decide) (by decide) ?_
        show Steps p.tables e below (T72.setTop (mkF m 103 #[.val (.int p0), .val (.int ((p0 &&& (2147483647 : Int32)) % (12 : Int32))), .val (.ref w_BOOLEAN), .val (.int (1 : Int32)), .val (.int (1 : Int32)), .val (.int ((0 : Int32) + (1 : Int32)))] [(.int (1 : Int32))])) _
        exact retN X72 hx (t := .boolean) Bd.returns (by simp) (hb hby at_103) hr
      · show Q_law Z p0 w_BIT w_BOOLEAN w_UNSIGNED_BYTE w_SHORT w_INT w_LONG w_FLOAT w_DOUBLE w_CHAR w_UNICODE_CHAR w_POINT w_CIRCLE mr x_CIRCLE x_POINT h0 n0 _ T72.heap _
        refine ⟨?_, N72, trivial⟩
        rw [F_law, if_neg hs_63, if_pos hs_68]
    · by_cases hs_73 : ((p0 &&& (2147483647 : Int32)) % (12 : Int32)) = (2 : Int32)
      · have q61 : (F_pick ((p0 &&& (2147483647 : Int32)) % (12 : Int32)) w_BIT w_BOOLEAN w_UNSIGNED_BYTE w_SHORT w_INT w_LONG w_FLOAT w_DOUBLE w_CHAR w_UNICODE_CHAR w_POINT w_CIRCLE) = w_UNSIGNED_BYTE := by rw [F_pick, if_neg hs_63, if_neg hs_68, if_pos hs_73]
        rw [q61] at st61
        obtain ⟨cq74, kq74, q74a, q74b, q74c⟩ := isOf hZ e61 E_UNSIGNED_BYTE
        obtain ⟨_, _, ⟨T74, L74, k74, n74⟩, -, X74, ⟨Lc74, hQ74, l74, y74, z74⟩, st74⟩ := X61.virtualBack hx (y := (⟨"com/example/starquarry/starquarry/model/ColumnType", "isLogical", "()Z"⟩ : MethodName)) (z := (⟨"com/example/starquarry/starquarry/model/ColumnType", "isLogical", "()Z"⟩ : MethodName)) hown (mvT hZ (hw _ (List.mem_of_getElem? (i := 8) rfl))) (mvT hZ (hw _ (List.mem_of_getElem? (i := 9) rfl))) (notFace_of_selects (args := #[]) (mvT hZ (hw _ (List.mem_of_getElem? (i := 11) rfl)))) (mvT hZ (hw _ (List.mem_of_getElem? (i := 11) rfl))) (mvT hZ (hw _ (List.mem_of_getElem? (i := 10) rfl))) (by decide) (backOf (W := 0) (rm_lg l Z a0' hw [] w_UNSIGNED_BYTE w_BIT w_BOOLEAN h0 n0 Z0 S_BIT S_BOOLEAN) hZ (hw _ (List.mem_of_getElem? (i := 12) rfl)) (hw _ (List.mem_of_getElem? (i := 6) rfl)) (by decide) (by decide)) q74a q74c (g := (mkF m 14 #[.val (.int p0), .val (.int ((p0 &&& (2147483647 : Int32)) % (12 : Int32))), .val (.ref w_UNSIGNED_BYTE), .unset, .unset, .unset] [(.ref w_UNSIGNED_BYTE)])) rfl (by rw [hml]; rfl) (Steps.refl _) (argsL := []) (rest := []) (lenOf own_pd2 rfl) rfl (by show 2 * 0 + _ ≤ _; exact Nat.le_of_eq rfl) (hb hby at_14) (fun _ _ => ⟨rfl, e61, (by decide : 0 + 0 ≤ _), (by decide : 0 + 0 ≤ _)⟩)
        dsimp only [Pt.U, Pt.locs, Pt.cells, Pt.slots] at X74 l74 y74 z74 st74 hQ74
        subst l74 y74 z74
        obtain ⟨rfl, N74q, e74⟩ := hQ74
        have N74 := Fr.app N61 N74q
        have q74 : (F_lg w_UNSIGNED_BYTE w_BIT w_BOOLEAN) = (0 : Int32) := by rw [F_lg, if_neg ne_UNSIGNED_BYTE_BIT, if_neg ne_UNSIGNED_BYTE_BOOLEAN]
        rw [q74] at st74
        obtain ⟨cq75, kq75, q75a, q75b, q75c⟩ := isOf hZ e74 E_UNSIGNED_BYTE
        obtain ⟨_, _, ⟨T75, L75, k75, n75⟩, -, X75, ⟨Lc75, hQ75, l75, y75, z75⟩, st75⟩ := X74.virtualBack hx (y := (⟨"com/example/starquarry/starquarry/model/ColumnType", "isNumber", "()Z"⟩ : MethodName)) (z := (⟨"com/example/starquarry/starquarry/model/ColumnType", "isNumber", "()Z"⟩ : MethodName)) hown (mvT hZ (hw _ (List.mem_of_getElem? (i := 14) rfl))) (mvT hZ (hw _ (List.mem_of_getElem? (i := 15) rfl))) (notFace_of_selects (args := #[]) (mvT hZ (hw _ (List.mem_of_getElem? (i := 17) rfl)))) (mvT hZ (hw _ (List.mem_of_getElem? (i := 17) rfl))) (mvT hZ (hw _ (List.mem_of_getElem? (i := 16) rfl))) (by decide) (backOf (W := 0) (rm_num l Z a0' hw [] w_UNSIGNED_BYTE (2 : Int32) w_UNSIGNED_BYTE w_DOUBLE mr h0 n0 Z0 E_UNSIGNED_BYTE FO_UNSIGNED_BYTE S_UNSIGNED_BYTE E_UNSIGNED_BYTE S_DOUBLE E_DOUBLE MM FO_UNSIGNED_BYTE FO_DOUBLE) hZ (hw _ (List.mem_of_getElem? (i := 18) rfl)) (hw _ (List.mem_of_getElem? (i := 6) rfl)) (by decide) (by decide)) q75a q75c (g := (mkF m 48 #[.val (.int p0), .val (.int ((p0 &&& (2147483647 : Int32)) % (12 : Int32))), .val (.ref w_UNSIGNED_BYTE), .val (.int (0 : Int32)), .val (.int (0 : Int32)), .val (.int (0 : Int32))] [(.ref w_UNSIGNED_BYTE)])) rfl (by rw [hml]; rfl) (Steps.refl _) (argsL := []) (rest := []) (lenOf own_pd2 rfl) rfl (by show 2 * 0 + _ ≤ _; exact Nat.le_of_eq rfl) (hb hby at_48) (fun _ _ => ⟨rfl, e74, (by decide : 0 + 0 ≤ _), (by decide : 0 + 0 ≤ _)⟩)
        dsimp only [Pt.U, Pt.locs, Pt.cells, Pt.slots] at X75 l75 y75 z75 st75 hQ75
        subst l75 y75 z75
        obtain ⟨rfl, N75q, e75⟩ := hQ75
        have N75 := Fr.app N74 N75q
        have q75 : (F_num (2 : Int32)) = (1 : Int32) := by unfold F_num F_cmp; decide
        rw [q75] at st75
        obtain ⟨cq76, kq76, q76a, q76b, q76c⟩ := isOf hZ e75 E_UNSIGNED_BYTE
        obtain ⟨_, _, ⟨T76, L76, k76, n76⟩, -, X76, ⟨Lc76, hQ76, l76, y76, z76⟩, st76⟩ := X75.virtualBack hx (y := (⟨"com/example/starquarry/starquarry/model/ColumnType", "isText", "()Z"⟩ : MethodName)) (z := (⟨"com/example/starquarry/starquarry/model/ColumnType", "isText", "()Z"⟩ : MethodName)) hown (mvT hZ (hw _ (List.mem_of_getElem? (i := 36) rfl))) (mvT hZ (hw _ (List.mem_of_getElem? (i := 37) rfl))) (notFace_of_selects (args := #[]) (mvT hZ (hw _ (List.mem_of_getElem? (i := 39) rfl)))) (mvT hZ (hw _ (List.mem_of_getElem? (i := 39) rfl))) (mvT hZ (hw _ (List.mem_of_getElem? (i := 38) rfl))) (by decide) (backOf (W := 0) (rm_tx l Z a0' hw [] w_UNSIGNED_BYTE w_CHAR w_UNICODE_CHAR h0 n0 Z0 S_CHAR S_UNICODE_CHAR) hZ (hw _ (List.mem_of_getElem? (i := 40) rfl)) (hw _ (List.mem_of_getElem? (i := 6) rfl)) (by decide) (by decide)) q76a q76c (g := (mkF m 61 #[.val (.int p0), .val (.int ((p0 &&& (2147483647 : Int32)) % (12 : Int32))), .val (.ref w_UNSIGNED_BYTE), .val (.int (0 : Int32)), .val (.int (0 : Int32)), .val (.int ((0 : Int32) + (1 : Int32)))] [(.ref w_UNSIGNED_BYTE)])) rfl (by rw [hml]; rfl) (Steps.refl _) (argsL := []) (rest := []) (lenOf own_pd2 rfl) rfl (by show 2 * 0 + _ ≤ _; exact Nat.le_of_eq rfl) (hb hby at_61) (fun _ _ => ⟨rfl, e75, (by decide : 0 + 0 ≤ _), (by decide : 0 + 0 ≤ _)⟩)
        dsimp only [Pt.U, Pt.locs, Pt.cells, Pt.slots] at X76 l76 y76 z76 st76 hQ76
        subst l76 y76 z76
        obtain ⟨rfl, N76q, e76⟩ := hQ76
        have N76 := Fr.app N75 N76q
        have q76 : (F_tx w_UNSIGNED_BYTE w_CHAR w_UNICODE_CHAR) = (0 : Int32) := by rw [F_tx, if_neg ne_UNSIGNED_BYTE_CHAR, if_neg ne_UNSIGNED_BYTE_UNICODE_CHAR]
        rw [q76] at st76
        obtain ⟨cq77, kq77, q77a, q77b, q77c⟩ := isOf hZ e76 E_UNSIGNED_BYTE
        obtain ⟨_, _, ⟨T77, L77, k77, n77⟩, -, X77, ⟨Lc77, hQ77, l77, y77, z77⟩, st77⟩ := X76.virtualBack hx (y := (⟨"com/example/starquarry/starquarry/model/ColumnType", "isGeometry", "()Z"⟩ : MethodName)) (z := (⟨"com/example/starquarry/starquarry/model/ColumnType", "isGeometry", "()Z"⟩ : MethodName)) hown (mvT hZ (hw _ (List.mem_of_getElem? (i := 45) rfl))) (mvT hZ (hw _ (List.mem_of_getElem? (i := 46) rfl))) (notFace_of_selects (args := #[]) (mvT hZ (hw _ (List.mem_of_getElem? (i := 48) rfl)))) (mvT hZ (hw _ (List.mem_of_getElem? (i := 48) rfl))) (mvT hZ (hw _ (List.mem_of_getElem? (i := 47) rfl))) (by decide) (backOf (W := 0) (rm_geoN l Z a0' hw [] w_UNSIGNED_BYTE h0 n0 Z0 FX_UNSIGNED_BYTE) hZ (hw _ (List.mem_of_getElem? (i := 49) rfl)) (hw _ (List.mem_of_getElem? (i := 6) rfl)) (by decide) (by decide)) q77a q77c (g := (mkF m 74 #[.val (.int p0), .val (.int ((p0 &&& (2147483647 : Int32)) % (12 : Int32))), .val (.ref w_UNSIGNED_BYTE), .val (.int (0 : Int32)), .val (.int (0 : Int32)), .val (.int ((0 : Int32) + (1 : Int32)))] [(.ref w_UNSIGNED_BYTE)])) rfl (by rw [hml]; rfl) (Steps.refl _) (argsL := []) (rest := []) (lenOf own_pd2 rfl) rfl (by show 2 * 0 + _ ≤ _; exact Nat.le_of_eq rfl) (hb hby at_74) (fun _ _ => ⟨rfl, e76, (by decide : 0 + 0 ≤ _), (by decide : 0 + 0 ≤ _)⟩)
        dsimp only [Pt.U, Pt.locs, Pt.cells, Pt.slots] at X77 l77 y77 z77 st77 hQ77
        subst l77 y77 z77
        obtain ⟨rfl, N77q, e77⟩ := hQ77
        have N77 := Fr.app N76 N77q
        obtain ⟨fs, hr, hrun, hended, hW, hsame⟩ := X77.leave (v := some (.int (1 : Int32))) (fun h => by rw [Bd.returns] at h; cases h)
        refine ⟨_, _, pre62 _ ?_, hrun, hended, _, _, rfl, ?_, ⟨_, rfl⟩, hW, hsame.mono (by decide) (by decide)⟩
        · show Steps p.tables e below (s₁.setTop (mkF m 9 #[.val (.int p0), .val (.int ((p0 &&& (2147483647 : Int32)) % (12 : Int32))), .unset, .unset, .unset, .unset] [(.int ((p0 &&& (2147483647 : Int32)) % (12 : Int32)))])) _
          refine st61 _ ?_
          show Steps p.tables e below (T61.setTop (mkF m 12 #[.val (.int p0), .val (.int ((p0 &&& (2147483647 : Int32)) % (12 : Int32))), .unset, .unset, .unset, .unset] [(.ref w_UNSIGNED_BYTE)])) _
          refine XS.astoreN X61.here hx rfl (hb hby at_12) rfl rfl (l' := #[.val (.int p0), .val (.int ((p0 &&& (2147483647 : Int32)) % (12 : Int32))), .val (.ref w_UNSIGNED_BYTE), .unset, .unset, .unset]) rfl ?_
          show Steps p.tables e below (T61.setTop (mkF m 13 #[.val (.int p0), .val (.int ((p0 &&& (2147483647 : Int32)) % (12 : Int32))), .val (.ref w_UNSIGNED_BYTE), .unset, .unset, .unset] [])) _
          refine XS.aloadN X61.here hx rfl (hb hby at_13) rfl rfl ?_
          show Steps p.tables e below (T61.setTop (mkF m 14 #[.val (.int p0), .val (.int ((p0 &&& (2147483647 : Int32)) % (12 : Int32))), .val (.ref w_UNSIGNED_BYTE), .unset, .unset, .unset] [(.ref w_UNSIGNED_BYTE)])) _
          refine st74.trans ?_
          show Steps p.tables e below (T74.setTop (mkF m 17 #[.val (.int p0), .val (.int ((p0 &&& (2147483647 : Int32)) % (12 : Int32))), .val (.ref w_UNSIGNED_BYTE), .unset, .unset, .unset] [(.int (0 : Int32))])) _
          refine XS.istoreN X74.here hx rfl (hb hby at_17) rfl (l' := #[.val (.int p0), .val (.int ((p0 &&& (2147483647 : Int32)) % (12 : Int32))), .val (.ref w_UNSIGNED_BYTE), .val (.int (0 : Int32)), .unset, .unset]) rfl ?_
          show Steps p.tables e below (T74.setTop (mkF m 18 #[.val (.int p0), .val (.int ((p0 &&& (2147483647 : Int32)) % (12 : Int32))), .val (.ref w_UNSIGNED_BYTE), .val (.int (0 : Int32)), .unset, .unset] [])) _
          refine XS.iloadN X74.here hx rfl (hb hby at_18) rfl ?_
          show Steps p.tables e below (T74.setTop (mkF m 19 #[.val (.int p0), .val (.int ((p0 &&& (2147483647 : Int32)) % (12 : Int32))), .val (.ref w_UNSIGNED_BYTE), .val (.int (0 : Int32)), .unset, .unset] [(.int ((p0 &&& (2147483647 : Int32)) % (12 : Int32)))])) _
          refine XS.ifNo X74.here hx rfl (hb hby at_19) rfl ((if0 _ _).trans (feq hs_63).1) ?_
          show Steps p.tables e below (T74.setTop (mkF m 22 #[.val (.int p0), .val (.int ((p0 &&& (2147483647 : Int32)) % (12 : Int32))), .val (.ref w_UNSIGNED_BYTE), .val (.int (0 : Int32)), .unset, .unset] [])) _
          refine XS.iloadN X74.here hx rfl (hb hby at_22) rfl ?_
          show Steps p.tables e below (T74.setTop (mkF m 23 #[.val (.int p0), .val (.int ((p0 &&& (2147483647 : Int32)) % (12 : Int32))), .val (.ref w_UNSIGNED_BYTE), .val (.int (0 : Int32)), .unset, .unset] [(.int ((p0 &&& (2147483647 : Int32)) % (12 : Int32)))])) _
          refine XS.iconst X74.here hx rfl (hb hby at_23) ?_
          show Steps p.tables e below (T74.setTop (mkF m 24 #[.val (.int p0), .val (.int ((p0 &&& (2147483647 : Int32)) % (12 : Int32))), .val (.ref w_UNSIGNED_BYTE), .val (.int (0 : Int32)), .unset, .unset] [(.int (1 : Int32)), (.int ((p0 &&& (2147483647 : Int32)) % (12 : Int32)))])) _
          refine XS.icmpYes X74.here hx rfl (pc0 := 24) (pc' := 31) rfl (hb hby at_24) rfl (feq hs_68).2 (by decide) (by decide) ?_
          show Steps p.tables e below (T74.setTop (mkF m 31 #[.val (.int p0), .val (.int ((p0 &&& (2147483647 : Int32)) % (12 : Int32))), .val (.ref w_UNSIGNED_BYTE), .val (.int (0 : Int32)), .unset, .unset] [])) _
          refine XS.iconst X74.here hx rfl (hb hby at_31) ?_
          show Steps p.tables e below (T74.setTop (mkF m 32 #[.val (.int p0), .val (.int ((p0 &&& (2147483647 : Int32)) % (12 : Int32))), .val (.ref w_UNSIGNED_BYTE), .val (.int (0 : Int32)), .unset, .unset] [(.int (0 : Int32))])) _
          refine XS.istore X74.here hx rfl (hb hby at_32) rfl (l' := #[.val (.int p0), .val (.int ((p0 &&& (2147483647 : Int32)) % (12 : Int32))), .val (.ref w_UNSIGNED_BYTE), .val (.int (0 : Int32)), .val (.int (0 : Int32)), .unset]) rfl ?_
          show Steps p.tables e below (T74.setTop (mkF m 34 #[.val (.int p0), .val (.int ((p0 &&& (2147483647 : Int32)) % (12 : Int32))), .val (.ref w_UNSIGNED_BYTE), .val (.int (0 : Int32)), .val (.int (0 : Int32)), .unset] [])) _
          refine XS.iconst X74.here hx rfl (hb hby at_34) ?_
          show Steps p.tables e below (T74.setTop (mkF m 35 #[.val (.int p0), .val (.int ((p0 &&& (2147483647 : Int32)) % (12 : Int32))), .val (.ref w_UNSIGNED_BYTE), .val (.int (0 : Int32)), .val (.int (0 : Int32)), .unset] [(.int (0 : Int32))])) _
          refine XS.istore X74.here hx rfl (hb hby at_35) rfl (l' := #[.val (.int p0), .val (.int ((p0 &&& (2147483647 : Int32)) % (12 : Int32))), .val (.ref w_UNSIGNED_BYTE), .val (.int (0 : Int32)), .val (.int (0 : Int32)), .val (.int (0 : Int32))]) rfl ?_
          show Steps p.tables e below (T74.setTop (mkF m 37 #[.val (.int p0), .val (.int ((p0 &&& (2147483647 : Int32)) % (12 : Int32))), .val (.ref w_UNSIGNED_BYTE), .val (.int (0 : Int32)), .val (.int (0 : Int32)), .val (.int (0 : Int32))] [])) _
          refine XS.iloadN X74.here hx rfl (hb hby at_37) rfl ?_
          show Steps p.tables e below (T74.setTop (mkF m 38 #[.val (.int p0), .val (.int ((p0 &&& (2147483647 : Int32)) % (12 : Int32))), .val (.ref w_UNSIGNED_BYTE), .val (.int (0 : Int32)), .val (.int (0 : Int32)), .val (.int (0 : Int32))] [(.int (0 : Int32))])) _
          refine XS.ifYes X74.here hx rfl (pc0 := 38) (pc' := 47) rfl (hb hby at_38) rfl ((if0 _ _).trans (teq (by decide : (0 : Int32) = (0 : Int32))).1) (by decide) (by decide) ?_
          show Steps p.tables e below (T74.setTop (mkF m 47 #[.val (.int p0), .val (.int ((p0 &&& (2147483647 : Int32)) % (12 : Int32))), .val (.ref w_UNSIGNED_BYTE), .val (.int (0 : Int32)), .val (.int (0 : Int32)), .val (.int (0 : Int32))] [])) _
          refine XS.aloadN X74.here hx rfl (hb hby at_47) rfl rfl ?_
          show Steps p.tables e below (T74.setTop (mkF m 48 #[.val (.int p0), .val (.int ((p0 &&& (2147483647 : Int32)) % (12 : Int32))), .val (.ref w_UNSIGNED_BYTE), .val (.int (0 : Int32)), .val (.int (0 : Int32)), .val (.int (0 : Int32))] [(.ref w_UNSIGNED_BYTE)])) _
          refine st75.trans ?_
          show Steps p.tables e below (T75.setTop (mkF m 51 #[.val (.int p0), .val (.int ((p0 &&& (2147483647 : Int32)) % (12 : Int32))), .val (.ref w_UNSIGNED_BYTE), .val (.int (0 : Int32)), .val (.int (0 : Int32)), .val (.int (0 : Int32))] [(.int (1 : Int32))])) _
          refine XS.ifNo X75.here hx rfl (hb hby at_51) rfl ((if0 _ _).trans (feq (by decide : ¬ ((1 : Int32) = (0 : Int32)))).1) ?_
          show Steps p.tables e below (T75.setTop (mkF m 54 #[.val (.int p0), .val (.int ((p0 &&& (2147483647 : Int32)) % (12 : Int32))), .val (.ref w_UNSIGNED_BYTE), .val (.int (0 : Int32)), .val (.int (0 : Int32)), .val (.int (0 : Int32))] [])) _
          refine XS.iload X75.here hx rfl (hb hby at_54) rfl ?_
          show Steps p.tables e below (T75.setTop (mkF m 56 #[.val (.int p0), .val (.int ((p0 &&& (2147483647 : Int32)) % (12 : Int32))), .val (.ref w_UNSIGNED_BYTE), .val (.int (0 : Int32)), .val (.int (0 : Int32)), .val (.int (0 : Int32))] [(.int (0 : Int32))])) _
          refine XS.iconst X75.here hx rfl (hb hby at_56) ?_
          show Steps p.tables e below (T75.setTop (mkF m 57 #[.val (.int p0), .val (.int ((p0 &&& (2147483647 : Int32)) % (12 : Int32))), .val (.ref w_UNSIGNED_BYTE), .val (.int (0 : Int32)), .val (.int (0 : Int32)), .val (.int (0 : Int32))] [(.int (1 : Int32)), (.int (0 : Int32))])) _
          refine XS.iadd X75.here hx rfl (hb hby at_57) rfl ?_
          show Steps p.tables e below (T75.setTop (mkF m 58 #[.val (.int p0), .val (.int ((p0 &&& (2147483647 : Int32)) % (12 : Int32))), .val (.ref w_UNSIGNED_BYTE), .val (.int (0 : Int32)), .val (.int (0 : Int32)), .val (.int (0 : Int32))] [(.int ((0 : Int32) + (1 : Int32)))])) _
          refine XS.istore X75.here hx rfl (hb hby at_58) rfl (l' := #[.val (.int p0), .val (.int ((p0 &&& (2147483647 : Int32)) % (12 : Int32))), .val (.ref w_UNSIGNED_BYTE), .val (.int (0 : Int32)), .val (.int (0 : Int32)), .val (.int ((0 : Int32) + (1 : Int32)))]) rfl ?_
          show Steps p.tables e below (T75.setTop (mkF m 60 #[.val (.int p0), .val (.int ((p0 &&& (2147483647 : Int32)) % (12 : Int32))), .val (.ref w_UNSIGNED_BYTE), .val (.int (0 : Int32)), .val (.int (0 : Int32)), .val (.int ((0 : Int32) + (1 : Int32)))] [])) _
          refine XS.aloadN X75.here hx rfl (hb hby at_60) rfl rfl ?_
          show Steps p.tables e below (T75.setTop (mkF m 61 #[.val (.int p0), .val (.int ((p0 &&& (2147483647 : Int32)) % (12 : Int32))), .val (.ref w_UNSIGNED_BYTE), .val (.int (0 : Int32)), .val (.int (0 : Int32)), .val (.int ((0 : Int32) + (1 : Int32)))] [(.ref w_UNSIGNED_BYTE)])) _
          refine st76.trans ?_
          show Steps p.tables e below (T76.setTop (mkF m 64 #[.val (.int p0), .val (.int ((p0 &&& (2147483647 : Int32)) % (12 : Int32))), .val (.ref w_UNSIGNED_BYTE), .val (.int (0 : Int32)), .val (.int (0 : Int32)), .val (.int ((0 : Int32) + (1 : Int32)))] [(.int (0 : Int32))])) _
          refine XS.ifYes X76.here hx rfl (pc0 := 64) (pc' := 73) rfl (hb hby at_64) rfl ((if0 _ _).trans (teq (by decide : (0 : Int32) = (0 : Int32))).1) (by decide) (by decide) ?_
          show Steps p.tables e below (T76.setTop (mkF m 73 #[.val (.int p0), .val (.int ((p0 &&& (2147483647 : Int32)) % (12 : Int32))), .val (.ref w_UNSIGNED_BYTE), .val (.int (0 : Int32)), .val (.int (0 : Int32)), .val (.int ((0 : Int32) + (1 : Int32)))] [])) _
          refine XS.aloadN X76.here hx rfl (hb hby at_73) rfl rfl ?_
          show Steps p.tables e below (T76.setTop (mkF m 74 #[.val (.int p0), .val (.int ((p0 &&& (2147483647 : Int32)) % (12 : Int32))), .val (.ref w_UNSIGNED_BYTE), .val (.int (0 : Int32)), .val (.int (0 : Int32)), .val (.int ((0 : Int32) + (1 : Int32)))] [(.ref w_UNSIGNED_BYTE)])) _
          refine st77.trans ?_
          show Steps p.tables e below (T77.setTop (mkF m 77 #[.val (.int p0), .val (.int ((p0 &&& (2147483647 : Int32)) % (12 : Int32))), .val (.ref w_UNSIGNED_BYTE), .val (.int (0 : Int32)), .val (.int (0 : Int32)), .val (.int ((0 : Int32) + (1 : Int32)))] [(.int (0 : Int32))])) _
          refine XS.ifYes X77.here hx rfl (pc0 := 77) (pc' := 86) rfl (hb hby at_77) rfl ((if0 _ _).trans (teq (by decide : (0 : Int32) = (0 : Int32))).1) (by decide) (by decide) ?_
          show Steps p.tables e below (T77.setTop (mkF m 86 #[.val (.int p0), .val (.int ((p0 &&& (2147483647 : Int32)) % (12 : Int32))), .val (.ref w_UNSIGNED_BYTE), .val (.int (0 : Int32)), .val (.int (0 : Int32)), .val (.int ((0 : Int32) + (1 : Int32)))] [])) _
          refine XS.iloadN X77.here hx rfl (hb hby at_86) rfl ?_
          show Steps p.tables e below (T77.setTop (mkF m 87 #[.val (.int p0), .val (.int ((p0 &&& (2147483647 : Int32)) % (12 : Int32))), .val (.ref w_UNSIGNED_BYTE), .val (.int (0 : Int32)), .val (.int (0 : Int32)), .val (.int ((0 : Int32) + (1 : Int32)))] [(.int (0 : Int32))])) _
          refine XS.iload X77.here hx rfl (hb hby at_87) rfl ?_
          show Steps p.tables e below (T77.setTop (mkF m 89 #[.val (.int p0), .val (.int ((p0 &&& (2147483647 : Int32)) % (12 : Int32))), .val (.ref w_UNSIGNED_BYTE), .val (.int (0 : Int32)), .val (.int (0 : Int32)), .val (.int ((0 : Int32) + (1 : Int32)))] [(.int (0 : Int32)), (.int (0 : Int32))])) _
          refine XS.icmpNo X77.here hx rfl (hb hby at_89) rfl (teq (by decide : (0 : Int32) = (0 : Int32))).2 ?_
          show Steps p.tables e below (T77.setTop (mkF m 92 #[.val (.int p0), .val (.int ((p0 &&& (2147483647 : Int32)) % (12 : Int32))), .val (.ref w_UNSIGNED_BYTE), .val (.int (0 : Int32)), .val (.int (0 : Int32)), .val (.int ((0 : Int32) + (1 : Int32)))] [])) _
          refine XS.iload X77.here hx rfl (hb hby at_92) rfl ?_
          show Steps p.tables e below (T77.setTop (mkF m 94 #[.val (.int p0), .val (.int ((p0 &&& (2147483647 : Int32)) % (12 : Int32))), .val (.ref w_UNSIGNED_BYTE), .val (.int (0 : Int32)), .val (.int (0 : Int32)), .val (.int ((0 : Int32) + (1 : Int32)))] [(.int ((0 : Int32) + (1 : Int32)))])) _
          refine XS.iconst X77.here hx rfl (hb hby at_94) ?_
          show Steps p.tables e below (T77.setTop (mkF m 95 #[.val (.int p0), .val (.int ((p0 &&& (2147483647 : Int32)) % (12 : Int32))), .val (.ref w_UNSIGNED_BYTE), .val (.int (0 : Int32)), .val (.int (0 : Int32)), .val (.int ((0 : Int32) + (1 : Int32)))] [(.int (1 : Int32)), (.int ((0 : Int32) + (1 : Int32)))])) _
          refine XS.icmpNo X77.here hx rfl (hb hby at_95) rfl (teq (by decide : ((0 : Int32) + (1 : Int32)) = (1 : Int32))).2 ?_
          show Steps p.tables e below (T77.setTop (mkF m 98 #[.val (.int p0), .val (.int ((p0 &&& (2147483647 : Int32)) % (12 : Int32))), .val (.ref w_UNSIGNED_BYTE), .val (.int (0 : Int32)), .val (.int (0 : Int32)), .val (.int ((0 : Int32) + (1 : Int32)))] [])) _
          refine XS.iconst X77.here hx rfl (hb hby at_98) ?_
          show Steps p.tables e below (T77.setTop (mkF m 99 #[.val (.int p0), .val (.int ((p0 &&& (2147483647 : Int32)) % (12 : Int32))), .val (.ref w_UNSIGNED_BYTE), .val (.int (0 : Int32)), .val (.int (0 : Int32)), .val (.int ((0 : Int32) + (1 : Int32)))] [(.int (1 : Int32))])) _
          refine XS.goto X77.here hx rfl (pc0 := 99) (pc' := 103) rfl (hb hby at_99) (by decide) (by decide) ?_
          show Steps p.tables e below (T77.setTop (mkF m 103 #[.val (.int p0), .val (.int ((p0 &&& (2147483647 : Int32)) % (12 : Int32))), .val (.ref w_UNSIGNED_BYTE), .val (.int (0 : Int32)), .val (.int (0 : Int32)), .val (.int ((0 : Int32) + (1 : Int32)))] [(.int (1 : Int32))])) _
          exact retN X77 hx (t := .boolean) Bd.returns (by simp) (hb hby at_103) hr
        · show Q_law Z p0 w_BIT w_BOOLEAN w_UNSIGNED_BYTE w_SHORT w_INT w_LONG w_FLOAT w_DOUBLE w_CHAR w_UNICODE_CHAR w_POINT w_CIRCLE mr x_CIRCLE x_POINT h0 n0 _ T77.heap _
          refine ⟨?_, N77, trivial⟩
          rw [F_law, if_neg hs_63, if_neg hs_68, if_pos hs_73]
      · by_cases hs_78 : ((p0 &&& (2147483647 : Int32)) % (12 : Int32)) = (3 : Int32)
        · have q61 : (F_pick ((p0 &&& (2147483647 : Int32)) % (12 : Int32)) w_BIT w_BOOLEAN w_UNSIGNED_BYTE w_SHORT w_INT w_LONG w_FLOAT w_DOUBLE w_CHAR w_UNICODE_CHAR w_POINT w_CIRCLE) = w_SHORT := by rw [F_pick, if_neg hs_63, if_neg hs_68, if_neg hs_73, if_pos hs_78]
          rw [q61] at st61
          obtain ⟨cq79, kq79, q79a, q79b, q79c⟩ := isOf hZ e61 E_SHORT
          obtain ⟨_, _, ⟨T79, L79, k79, n79⟩, -, X79, ⟨Lc79, hQ79, l79, y79, z79⟩, st79⟩ := X61.virtualBack hx (y := (⟨"com/example/starquarry/starquarry/model/ColumnType", "isLogical", "()Z"⟩ : MethodName)) (z := (⟨"com/example/starquarry/starquarry/model/ColumnType", "isLogical", "()Z"⟩ : MethodName)) hown (mvT hZ (hw _ (List.mem_of_getElem? (i := 8) rfl))) (mvT hZ (hw _ (List.mem_of_getElem? (i := 9) rfl))) (notFace_of_selects (args := #[]) (mvT hZ (hw _ (List.mem_of_getElem? (i := 11) rfl)))) (mvT hZ (hw _ (List.mem_of_getElem? (i := 11) rfl))) (mvT hZ (hw _ (List.mem_of_getElem? (i := 10) rfl))) (by decide) (backOf (W := 0) (rm_lg l Z a0' hw [] w_SHORT w_BIT w_BOOLEAN h0 n0 Z0 S_BIT S_BOOLEAN) hZ (hw _ (List.mem_of_getElem? (i := 12) rfl)) (hw _ (List.mem_of_getElem? (i := 6) rfl)) (by decide) (by decide)) q79a q79c (g := (mkF m 14 #[.val (.int p0), .val (.int ((p0 &&& (2147483647 : Int32)) % (12 : Int32))), .val (.ref w_SHORT), .unset, .unset, .unset] [(.ref w_SHORT)])) rfl (by rw [hml]; rfl) (Steps.refl _) (argsL := []) (rest := []) (lenOf own_pd2 rfl) rfl (by show 2 * 0 + _ ≤ _; exact Nat.le_of_eq rfl) (hb hby at_14) (fun _ _ => ⟨rfl, e61, (by decide : 0 + 0 ≤ _), (by decide : 0 + 0 ≤ _)⟩)
          dsimp only [Pt.U, Pt.locs, Pt.cells, Pt.slots] at X79 l79 y79 z79 st79 hQ79
          subst l79 y79 z79
          obtain ⟨rfl, N79q, e79⟩ := hQ79
          have N79 := Fr.app N61 N79q
          have q79 : (F_lg w_SHORT w_BIT w_BOOLEAN) = (0 : Int32) := by rw [F_lg, if_neg ne_SHORT_BIT, if_neg ne_SHORT_BOOLEAN]
          rw [q79] at st79
          obtain ⟨cq80, kq80, q80a, q80b, q80c⟩ := isOf hZ e79 E_SHORT
          obtain ⟨_, _, ⟨T80, L80, k80, n80⟩, -, X80, ⟨Lc80, hQ80, l80, y80, z80⟩, st80⟩ := X79.virtualBack hx (y := (⟨"com/example/starquarry/starquarry/model/ColumnType", "isNumber", "()Z"⟩ : MethodName)) (z := (⟨"com/example/starquarry/starquarry/model/ColumnType", "isNumber", "()Z"⟩ : MethodName)) hown (mvT hZ (hw _ (List.mem_of_getElem? (i := 14) rfl))) (mvT hZ (hw _ (List.mem_of_getElem? (i := 15) rfl))) (notFace_of_selects (args := #[]) (mvT hZ (hw _ (List.mem_of_getElem? (i := 17) rfl)))) (mvT hZ (hw _ (List.mem_of_getElem? (i := 17) rfl))) (mvT hZ (hw _ (List.mem_of_getElem? (i := 16) rfl))) (by decide) (backOf (W := 0) (rm_num l Z a0' hw [] w_SHORT (3 : Int32) w_UNSIGNED_BYTE w_DOUBLE mr h0 n0 Z0 E_SHORT FO_SHORT S_UNSIGNED_BYTE E_UNSIGNED_BYTE S_DOUBLE E_DOUBLE MM FO_UNSIGNED_BYTE FO_DOUBLE) hZ (hw _ (List.mem_of_getElem? (i := 18) rfl)) (hw _ (List.mem_of_getElem? (i := 6) rfl)) (by decide) (by decide)) q80a q80c (g := (mkF m 48 #[.val (.int p0), .val (.int ((p0 &&& (2147483647 : Int32)) % (12 : Int32))), .val (.ref w_SHORT), .val (.int (0 : Int32)), .val (.int (0 : Int32)), .val (.int (0 : Int32))] [(.ref w_SHORT)])) rfl (by rw [hml]; rfl) (Steps.refl _) (argsL := []) (rest := []) (lenOf own_pd2 rfl) rfl (by show 2 * 0 + _ ≤ _; exact Nat.le_of_eq rfl) (hb hby at_48) (fun _ _ => ⟨rfl, e79, (by decide : 0 + 0 ≤ _), (by decide : 0 + 0 ≤ _)⟩)
          dsimp only [Pt.U, Pt.locs, Pt.cells, Pt.slots] at X80 l80 y80 z80 st80 hQ80
          subst l80 y80 z80
          obtain ⟨rfl, N80q, e80⟩ := hQ80
          have N80 := Fr.app N79 N80q
          have q80 : (F_num (3 : Int32)) = (1 : Int32) := by unfold F_num F_cmp; decide
          rw [q80] at st80
          obtain ⟨cq81, kq81, q81a, q81b, q81c⟩ := isOf hZ e80 E_SHORT
          obtain ⟨_, _, ⟨T81, L81, k81, n81⟩, -, X81, ⟨Lc81, hQ81, l81, y81, z81⟩, st81⟩ := X80.virtualBack hx (y := (⟨"com/example/starquarry/starquarry/model/ColumnType", "isText", "()Z"⟩ : MethodName)) (z := (⟨"com/example/starquarry/starquarry/model/ColumnType", "isText", "()Z"⟩ : MethodName)) hown (mvT hZ (hw _ (List.mem_of_getElem? (i := 36) rfl))) (mvT hZ (hw _ (List.mem_of_getElem? (i := 37) rfl))) (notFace_of_selects (args := #[]) (mvT hZ (hw _ (List.mem_of_getElem? (i := 39) rfl)))) (mvT hZ (hw _ (List.mem_of_getElem? (i := 39) rfl))) (mvT hZ (hw _ (List.mem_of_getElem? (i := 38) rfl))) (by decide) (backOf (W := 0) (rm_tx l Z a0' hw [] w_SHORT w_CHAR w_UNICODE_CHAR h0 n0 Z0 S_CHAR S_UNICODE_CHAR) hZ (hw _ (List.mem_of_getElem? (i := 40) rfl)) (hw _ (List.mem_of_getElem? (i := 6) rfl)) (by decide) (by decide)) q81a q81c (g := (mkF m 61 #[.val (.int p0), .val (.int ((p0 &&& (2147483647 : Int32)) % (12 : Int32))), .val (.ref w_SHORT), .val (.int (0 : Int32)), .val (.int (0 : Int32)), .val (.int ((0 : Int32) + (1 : Int32)))] [(.ref w_SHORT)])) rfl (by rw [hml]; rfl) (Steps.refl _) (argsL := []) (rest := []) (lenOf own_pd2 rfl) rfl (by show 2 * 0 + _ ≤ _; exact Nat.le_of_eq rfl) (hb hby at_61) (fun _ _ => ⟨rfl, e80, (by decide : 0 + 0 ≤ _), (by decide : 0 + 0 ≤ _)⟩)
          dsimp only [Pt.U, Pt.locs, Pt.cells, Pt.slots] at X81 l81 y81 z81 st81 hQ81
          subst l81 y81 z81
          obtain ⟨rfl, N81q, e81⟩ := hQ81
          have N81 := Fr.app N80 N81q
          have q81 : (F_tx w_SHORT w_CHAR w_UNICODE_CHAR) = (0 : Int32) := by rw [F_tx, if_neg ne_SHORT_CHAR, if_neg ne_SHORT_UNICODE_CHAR]
          rw [q81] at st81
          obtain ⟨cq82, kq82, q82a, q82b, q82c⟩ := isOf hZ e81 E_SHORT
          obtain ⟨_, _, ⟨T82, L82, k82, n82⟩, -, X82, ⟨Lc82, hQ82, l82, y82, z82⟩, st82⟩ := X81.virtualBack hx (y := (⟨"com/example/starquarry/starquarry/model/ColumnType", "isGeometry", "()Z"⟩ : MethodName)) (z := (⟨"com/example/starquarry/starquarry/model/ColumnType", "isGeometry", "()Z"⟩ : MethodName)) hown (mvT hZ (hw _ (List.mem_of_getElem? (i := 45) rfl))) (mvT hZ (hw _ (List.mem_of_getElem? (i := 46) rfl))) (notFace_of_selects (args := #[]) (mvT hZ (hw _ (List.mem_of_getElem? (i := 48) rfl)))) (mvT hZ (hw _ (List.mem_of_getElem? (i := 48) rfl))) (mvT hZ (hw _ (List.mem_of_getElem? (i := 47) rfl))) (by decide) (backOf (W := 0) (rm_geoN l Z a0' hw [] w_SHORT h0 n0 Z0 FX_SHORT) hZ (hw _ (List.mem_of_getElem? (i := 49) rfl)) (hw _ (List.mem_of_getElem? (i := 6) rfl)) (by decide) (by decide)) q82a q82c (g := (mkF m 74 #[.val (.int p0), .val (.int ((p0 &&& (2147483647 : Int32)) % (12 : Int32))), .val (.ref w_SHORT), .val (.int (0 : Int32)), .val (.int (0 : Int32)), .val (.int ((0 : Int32) + (1 : Int32)))] [(.ref w_SHORT)])) rfl (by rw [hml]; rfl) (Steps.refl _) (argsL := []) (rest := []) (lenOf own_pd2 rfl) rfl (by show 2 * 0 + _ ≤ _; exact Nat.le_of_eq rfl) (hb hby at_74) (fun _ _ => ⟨rfl, e81, (by decide : 0 + 0 ≤ _), (by decide : 0 + 0 ≤ _)⟩)
          dsimp only [Pt.U, Pt.locs, Pt.cells, Pt.slots] at X82 l82 y82 z82 st82 hQ82
          subst l82 y82 z82
          obtain ⟨rfl, N82q, e82⟩ := hQ82
          have N82 := Fr.app N81 N82q
          obtain ⟨fs, hr, hrun, hended, hW, hsame⟩ := X82.leave (v := some (.int (1 : Int32))) (fun h => by rw [Bd.returns] at h; cases h)
          refine ⟨_, _, pre62 _ ?_, hrun, hended, _, _, rfl, ?_, ⟨_, rfl⟩, hW, hsame.mono (by decide) (by decide)⟩
          · show Steps p.tables e below (s₁.setTop (mkF m 9 #[.val (.int p0), .val (.int ((p0 &&& (2147483647 : Int32)) % (12 : Int32))), .unset, .unset, .unset, .unset] [(.int ((p0 &&& (2147483647 : Int32)) % (12 : Int32)))])) _
            refine st61 _ ?_
            show Steps p.tables e below (T61.setTop (mkF m 12 #[.val (.int p0), .val (.int ((p0 &&& (2147483647 : Int32)) % (12 : Int32))), .unset, .unset, .unset, .unset] [(.ref w_SHORT)])) _
            refine XS.astoreN X61.here hx rfl (hb hby at_12) rfl rfl (l' := #[.val (.int p0), .val (.int ((p0 &&& (2147483647 : Int32)) % (12 : Int32))), .val (.ref w_SHORT), .unset, .unset, .unset]) rfl ?_
            show Steps p.tables e below (T61.setTop (mkF m 13 #[.val (.int p0), .val (.int ((p0 &&& (2147483647 : Int32)) % (12 : Int32))), .val (.ref w_SHORT), .unset, .unset, .unset] [])) _
            refine XS.aloadN X61.here hx rfl (hb hby at_13) rfl rfl ?_
            show Steps p.tables e below (T61.setTop (mkF m 14 #[.val (.int p0), .val (.int ((p0 &&& (2147483647 : Int32)) % (12 : Int32))), .val (.ref w_SHORT), .unset, .unset, .unset] [(.ref w_SHORT)])) _
            refine st79.trans ?_
            show Steps p.tables e below (T79.setTop (mkF m 17 #[.val (.int p0), .val (.int ((p0 &&& (2147483647 : Int32)) % (12 : Int32))), .val (.ref w_SHORT), .unset, .unset, .unset] [(.int (0 : Int32))])) _
            refine XS.istoreN X79.here hx rfl (hb hby at_17) rfl (l' := #[.val (.int p0), .val (.int ((p0 &&& (2147483647 : Int32)) % (12 : Int32))), .val (.ref w_SHORT), .val (.int (0 : Int32)), .unset, .unset]) rfl ?_
            show Steps p.tables e below (T79.setTop (mkF m 18 #[.val (.int p0), .val (.int ((p0 &&& (2147483647 : Int32)) % (12 : Int32))), .val (.ref w_SHORT), .val (.int (0 : Int32)), .unset, .unset] [])) _
            refine XS.iloadN X79.here hx rfl (hb hby at_18) rfl ?_
            show Steps p.tables e below (T79.setTop (mkF m 19 #[.val (.int p0), .val (.int ((p0 &&& (2147483647 : Int32)) % (12 : Int32))), .val (.ref w_SHORT), .val (.int (0 : Int32)), .unset, .unset] [(.int ((p0 &&& (2147483647 : Int32)) % (12 : Int32)))])) _
            refine XS.ifNo X79.here hx rfl (hb hby at_19) rfl ((if0 _ _).trans (feq hs_63).1) ?_
            show Steps p.tables e below (T79.setTop (mkF m 22 #[.val (.int p0), .val (.int ((p0 &&& (2147483647 : Int32)) % (12 : Int32))), .val (.ref w_SHORT), .val (.int (0 : Int32)), .unset, .unset] [])) _
            refine XS.iloadN X79.here hx rfl (hb hby at_22) rfl ?_
            show Steps p.tables e below (T79.setTop (mkF m 23 #[.val (.int p0), .val (.int ((p0 &&& (2147483647 : Int32)) % (12 : Int32))), .val (.ref w_SHORT), .val (.int (0 : Int32)), .unset, .unset] [(.int ((p0 &&& (2147483647 : Int32)) % (12 : Int32)))])) _
            refine XS.iconst X79.here hx rfl (hb hby at_23) ?_
            show Steps p.tables e below (T79.setTop (mkF m 24 #[.val (.int p0), .val (.int ((p0 &&& (2147483647 : Int32)) % (12 : Int32))), .val (.ref w_SHORT), .val (.int (0 : Int32)), .unset, .unset] [(.int (1 : Int32)), (.int ((p0 &&& (2147483647 : Int32)) % (12 : Int32)))])) _
            refine XS.icmpYes X79.here hx rfl (pc0 := 24) (pc' := 31) rfl (hb hby at_24) rfl (feq hs_68).2 (by decide) (by decide) ?_
            show Steps p.tables e below (T79.setTop (mkF m 31 #[.val (.int p0), .val (.int ((p0 &&& (2147483647 : Int32)) % (12 : Int32))), .val (.ref w_SHORT), .val (.int (0 : Int32)), .unset, .unset] [])) _
            refine XS.iconst X79.here hx rfl (hb hby at_31) ?_
            show Steps p.tables e below (T79.setTop (mkF m 32 #[.val (.int p0), .val (.int ((p0 &&& (2147483647 : Int32)) % (12 : Int32))), .val (.ref w_SHORT), .val (.int (0 : Int32)), .unset, .unset] [(.int (0 : Int32))])) _
            refine XS.istore X79.here hx rfl (hb hby at_32) rfl (l' := #[.val (.int p0), .val (.int ((p0 &&& (2147483647 : Int32)) % (12 : Int32))), .val (.ref w_SHORT), .val (.int (0 : Int32)), .val (.int (0 : Int32)), .unset]) rfl ?_
            show Steps p.tables e below (T79.setTop (mkF m 34 #[.val (.int p0), .val (.int ((p0 &&& (2147483647 : Int32)) % (12 : Int32))), .val (.ref w_SHORT), .val (.int (0 : Int32)), .val (.int (0 : Int32)), .unset] [])) _
            refine XS.iconst X79.here hx rfl (hb hby at_34) ?_
            show Steps p.tables e below (T79.setTop (mkF m 35 #[.val (.int p0), .val (.int ((p0 &&& (2147483647 : Int32)) % (12 : Int32))), .val (.ref w_SHORT), .val (.int (0 : Int32)), .val (.int (0 : Int32)), .unset] [(.int (0 : Int32))])) _
            refine XS.istore X79.here hx rfl (hb hby at_35) rfl (l' := #[.val (.int p0), .val (.int ((p0 &&& (2147483647 : Int32)) % (12 : Int32))), .val (.ref w_SHORT), .val (.int (0 : Int32)), .val (.int (0 : Int32)), .val (.int (0 : Int32))]) rfl ?_
            show Steps p.tables e below (T79.setTop (mkF m 37 #[.val (.int p0), .val (.int ((p0 &&& (2147483647 : Int32)) % (12 : Int32))), .val (.ref w_SHORT), .val (.int (0 : Int32)), .val (.int (0 : Int32)), .val (.int (0 : Int32))] [])) _
            refine XS.iloadN X79.here hx rfl (hb hby at_37) rfl ?_
            show Steps p.tables e below (T79.setTop (mkF m 38 #[.val (.int p0), .val (.int ((p0 &&& (2147483647 : Int32)) % (12 : Int32))), .val (.ref w_SHORT), .val (.int (0 : Int32)), .val (.int (0 : Int32)), .val (.int (0 : Int32))] [(.int (0 : Int32))])) _
            refine XS.ifYes X79.here hx rfl (pc0 := 38) (pc' := 47) rfl (hb hby at_38) rfl ((if0 _ _).trans (teq (by decide : (0 : Int32) = (0 : Int32))).1) (by decide) (by decide) ?_
            show Steps p.tables e below (T79.setTop (mkF m 47 #[.val (.int p0), .val (.int ((p0 &&& (2147483647 : Int32)) % (12 : Int32))), .val (.ref w_SHORT), .val (.int (0 : Int32)), .val (.int (0 : Int32)), .val (.int (0 : Int32))] [])) _
            refine XS.aloadN X79.here hx rfl (hb hby at_47) rfl rfl ?_
            show Steps p.tables e below (T79.setTop (mkF m 48 #[.val (.int p0), .val (.int ((p0 &&& (2147483647 : Int32)) % (12 : Int32))), .val (.ref w_SHORT), .val (.int (0 : Int32)), .val (.int (0 : Int32)), .val (.int (0 : Int32))] [(.ref w_SHORT)])) _
            refine st80.trans ?_
            show Steps p.tables e below (T80.setTop (mkF m 51 #[.val (.int p0), .val (.int ((p0 &&& (2147483647 : Int32)) % (12 : Int32))), .val (.ref w_SHORT), .val (.int (0 : Int32)), .val (.int (0 : Int32)), .val (.int (0 : Int32))] [(.int (1 : Int32))])) _
            refine XS.ifNo X80.here hx rfl (hb hby at_51) rfl ((if0 _ _).trans (feq (by decide : ¬ ((1 : Int32) = (0 : Int32)))).1) ?_
            show Steps p.tables e below (T80.setTop (mkF m 54 #[.val (.int p0), .val (.int ((p0 &&& (2147483647 : Int32)) % (12 : Int32))), .val (.ref w_SHORT), .val (.int (0 : Int32)), .val (.int (0 : Int32)), .val (.int (0 : Int32))] [])) _
            refine XS.iload X80.here hx rfl (hb hby at_54) rfl ?_
            show Steps p.tables e below (T80.setTop (mkF m 56 #[.val (.int p0), .val (.int ((p0 &&& (2147483647 : Int32)) % (12 : Int32))), .val (.ref w_SHORT), .val (.int (0 : Int32)), .val (.int (0 : Int32)), .val (.int (0 : Int32))] [(.int (0 : Int32))])) _
            refine XS.iconst X80.here hx rfl (hb hby at_56) ?_
            show Steps p.tables e below (T80.setTop (mkF m 57 #[.val (.int p0), .val (.int ((p0 &&& (2147483647 : Int32)) % (12 : Int32))), .val (.ref w_SHORT), .val (.int (0 : Int32)), .val (.int (0 : Int32)), .val (.int (0 : Int32))] [(.int (1 : Int32)), (.int (0 : Int32))])) _
            refine XS.iadd X80.here hx rfl (hb hby at_57) rfl ?_
            show Steps p.tables e below (T80.setTop (mkF m 58 #[.val (.int p0), .val (.int ((p0 &&& (2147483647 : Int32)) % (12 : Int32))), .val (.ref w_SHORT), .val (.int (0 : Int32)), .val (.int (0 : Int32)), .val (.int (0 : Int32))] [(.int ((0 : Int32) + (1 : Int32)))])) _
            refine XS.istore X80.here hx rfl (hb hby at_58) rfl (l' := #[.val (.int p0), .val (.int ((p0 &&& (2147483647 : Int32)) % (12 : Int32))), .val (.ref w_SHORT), .val (.int (0 : Int32)), .val (.int (0 : Int32)), .val (.int ((0 : Int32) + (1 : Int32)))]) rfl ?_
            show Steps p.tables e below (T80.setTop (mkF m 60 #[.val (.int p0), .val (.int ((p0 &&& (2147483647 : Int32)) % (12 : Int32))), .val (.ref w_SHORT), .val (.int (0 : Int32)), .val (.int (0 : Int32)), .val (.int ((0 : Int32) + (1 : Int32)))] [])) _
            refine XS.aloadN X80.here hx rfl (hb hby at_60) rfl rfl ?_
            show Steps p.tables e below (T80.setTop (mkF m 61 #[.val (.int p0), .val (.int ((p0 &&& (2147483647 : Int32)) % (12 : Int32))), .val (.ref w_SHORT), .val (.int (0 : Int32)), .val (.int (0 : Int32)), .val (.int ((0 : Int32) + (1 : Int32)))] [(.ref w_SHORT)])) _
            refine st81.trans ?_
            show Steps p.tables e below (T81.setTop (mkF m 64 #[.val (.int p0), .val (.int ((p0 &&& (2147483647 : Int32)) % (12 : Int32))), .val (.ref w_SHORT), .val (.int (0 : Int32)), .val (.int (0 : Int32)), .val (.int ((0 : Int32) + (1 : Int32)))] [(.int (0 : Int32))])) _
            refine XS.ifYes X81.here hx rfl (pc0 := 64) (pc' := 73) rfl (hb hby at_64) rfl ((if0 _ _).trans (teq (by decide : (0 : Int32) = (0 : Int32))).1) (by decide) (by decide) ?_
            show Steps p.tables e below (T81.setTop (mkF m 73 #[.val (.int p0), .val (.int ((p0 &&& (2147483647 : Int32)) % (12 : Int32))), .val (.ref w_SHORT), .val (.int (0 : Int32)), .val (.int (0 : Int32)), .val (.int ((0 : Int32) + (1 : Int32)))] [])) _
            refine XS.aloadN X81.here hx rfl (hb hby at_73) rfl rfl ?_
            show Steps p.tables e below (T81.setTop (mkF m 74 #[.val (.int p0), .val (.int ((p0 &&& (2147483647 : Int32)) % (12 : Int32))), .val (.ref w_SHORT), .val (.int (0 : Int32)), .val (.int (0 : Int32)), .val (.int ((0 : Int32) + (1 : Int32)))] [(.ref w_SHORT)])) _
            refine st82.trans ?_
            show Steps p.tables e below (T82.setTop (mkF m 77 #[.val (.int p0), .val (.int ((p0 &&& (2147483647 : Int32)) % (12 : Int32))), .val (.ref w_SHORT), .val (.int (0 : Int32)), .val (.int (0 : Int32)), .val (.int ((0 : Int32) + (1 : Int32)))] [(.int (0 : Int32))])) _
            refine XS.ifYes X82.here hx rfl (pc0 := 77) (pc' := 86) rfl (hb hby at_77) rfl ((if0 _ _).trans (teq (by decide : (0 : Int32) = (0 : Int32))).1) (by decide) (by decide) ?_
            show Steps p.tables e below (T82.setTop (mkF m 86 #[.val (.int p0), .val (.int ((p0 &&& (2147483647 : Int32)) % (12 : Int32))), .val (.ref w_SHORT), .val (.int (0 : Int32)), .val (.int (0 : Int32)), .val (.int ((0 : Int32) + (1 : Int32)))] [])) _
            refine XS.iloadN X82.here hx rfl (hb hby at_86) rfl ?_
            show Steps p.tables e below (T82.setTop (mkF m 87 #[.val (.int p0), .val (.int ((p0 &&& (2147483647 : Int32)) % (12 : Int32))), .val (.ref w_SHORT), .val (.int (0 : Int32)), .val (.int (0 : Int32)), .val (.int ((0 : Int32) + (1 : Int32)))] [(.int (0 : Int32))])) _
            refine XS.iload X82.here hx rfl (hb hby at_87) rfl ?_
            show Steps p.tables e below (T82.setTop (mkF m 89 #[.val (.int p0), .val (.int ((p0 &&& (2147483647 : Int32)) % (12 : Int32))), .val (.ref w_SHORT), .val (.int (0 : Int32)), .val (.int (0 : Int32)), .val (.int ((0 : Int32) + (1 : Int32)))] [(.int (0 : Int32)), (.int (0 : Int32))])) _
            refine XS.icmpNo X82.here hx rfl (hb hby at_89) rfl (teq (by decide : (0 : Int32) = (0 : Int32))).2 ?_
            show Steps p.tables e below (T82.setTop (mkF m 92 #[.val (.int p0), .val (.int ((p0 &&& (2147483647 : Int32)) % (12 : Int32))), .val (.ref w_SHORT), .val (.int (0 : Int32)), .val (.int (0 : Int32)), .val (.int ((0 : Int32) + (1 : Int32)))] [])) _
            refine XS.iload X82.here hx rfl (hb hby at_92) rfl ?_
            show Steps p.tables e below (T82.setTop (mkF m 94 #[.val (.int p0), .val (.int ((p0 &&& (2147483647 : Int32)) % (12 : Int32))), .val (.ref w_SHORT), .val (.int (0 : Int32)), .val (.int (0 : Int32)), .val (.int ((0 : Int32) + (1 : Int32)))] [(.int ((0 : Int32) + (1 : Int32)))])) _
            refine XS.iconst X82.here hx rfl (hb hby at_94) ?_
            show Steps p.tables e below (T82.setTop (mkF m 95 #[.val (.int p0), .val (.int ((p0 &&& (2147483647 : Int32)) % (12 : Int32))), .val (.ref w_SHORT), .val (.int (0 : Int32)), .val (.int (0 : Int32)), .val (.int ((0 : Int32) + (1 : Int32)))] [(.int (1 : Int32)), (.int ((0 : Int32) + (1 : Int32)))])) _
            refine XS.icmpNo X82.here hx rfl (hb hby at_95) rfl (teq (by decide : ((0 : Int32) + (1 : Int32)) = (1 : Int32))).2 ?_
            show Steps p.tables e below (T82.setTop (mkF m 98 #[.val (.int p0), .val (.int ((p0 &&& (2147483647 : Int32)) % (12 : Int32))), .val (.ref w_SHORT), .val (.int (0 : Int32)), .val (.int (0 : Int32)), .val (.int ((0 : Int32) + (1 : Int32)))] [])) _
            refine XS.iconst X82.here hx rfl (hb hby at_98) ?_
            show Steps p.tables e below (T82.setTop (mkF m 99 #[.val (.int p0), .val (.int ((p0 &&& (2147483647 : Int32)) % (12 : Int32))), .val (.ref w_SHORT), .val (.int (0 : Int32)), .val (.int (0 : Int32)), .val (.int ((0 : Int32) + (1 : Int32)))] [(.int (1 : Int32))])) _
            refine XS.goto X82.here hx rfl (pc0 := 99) (pc' := 103) rfl (hb hby at_99) (by decide) (by decide) ?_
            show Steps p.tables e below (T82.setTop (mkF m 103 #[.val (.int p0), .val (.int ((p0 &&& (2147483647 : Int32)) % (12 : Int32))), .val (.ref w_SHORT), .val (.int (0 : Int32)), .val (.int (0 : Int32)), .val (.int ((0 : Int32) + (1 : Int32)))] [(.int (1 : Int32))])) _
            exact retN X82 hx (t := .boolean) Bd.returns (by simp) (hb hby at_103) hr
          · show Q_law Z p0 w_BIT w_BOOLEAN w_UNSIGNED_BYTE w_SHORT w_INT w_LONG w_FLOAT w_DOUBLE w_CHAR w_UNICODE_CHAR w_POINT w_CIRCLE mr x_CIRCLE x_POINT h0 n0 _ T82.heap _
            refine ⟨?_, N82, trivial⟩
            rw [F_law, if_neg hs_63, if_neg hs_68, if_neg hs_73, if_pos hs_78]
        · by_cases hs_83 : ((p0 &&& (2147483647 : Int32)) % (12 : Int32)) = (4 : Int32)
          · have q61 : (F_pick ((p0 &&& (2147483647 : Int32)) % (12 : Int32)) w_BIT w_BOOLEAN w_UNSIGNED_BYTE w_SHORT w_INT w_LONG w_FLOAT w_DOUBLE w_CHAR w_UNICODE_CHAR w_POINT w_CIRCLE) = w_INT := by rw [F_pick, if_neg hs_63, if_neg hs_68, if_neg hs_73, if_neg hs_78, if_pos hs_83]
            rw [q61] at st61
            obtain ⟨cq84, kq84, q84a, q84b, q84c⟩ := isOf hZ e61 E_INT
            obtain ⟨_, _, ⟨T84, L84, k84, n84⟩, -, X84, ⟨Lc84, hQ84, l84, y84, z84⟩, st84⟩ := X61.virtualBack hx (y := (⟨"com/example/starquarry/starquarry/model/ColumnType", "isLogical", "()Z"⟩ : MethodName)) (z := (⟨"com/example/starquarry/starquarry/model/ColumnType", "isLogical", "()Z"⟩ : MethodName)) hown (mvT hZ (hw _ (List.mem_of_getElem? (i := 8) rfl))) (mvT hZ (hw _ (List.mem_of_getElem? (i := 9) rfl))) (notFace_of_selects (args := #[]) (mvT hZ (hw _ (List.mem_of_getElem? (i := 11) rfl)))) (mvT hZ (hw _ (List.mem_of_getElem? (i := 11) rfl))) (mvT hZ (hw _ (List.mem_of_getElem? (i := 10) rfl))) (by decide) (backOf (W := 0) (rm_lg l Z a0' hw [] w_INT w_BIT w_BOOLEAN h0 n0 Z0 S_BIT S_BOOLEAN) hZ (hw _ (List.mem_of_getElem? (i := 12) rfl)) (hw _ (List.mem_of_getElem? (i := 6) rfl)) (by decide) (by decide)) q84a q84c (g := (mkF m 14 #[.val (.int p0), .val (.int ((p0 &&& (2147483647 : Int32)) % (12 : Int32))), .val (.ref w_INT), .unset, .unset, .unset] [(.ref w_INT)])) rfl (by rw [hml]; rfl) (Steps.refl _) (argsL := []) (rest := []) (lenOf own_pd2 rfl) rfl (by show 2 * 0 + _ ≤ _; exact Nat.le_of_eq rfl) (hb hby at_14) (fun _ _ => ⟨rfl, e61, (by decide : 0 + 0 ≤ _), (by decide : 0 + 0 ≤ _)⟩)
            dsimp only [Pt.U, Pt.locs, Pt.cells, Pt.slots] at X84 l84 y84 z84 st84 hQ84
            subst l84 y84 z84
            obtain ⟨rfl, N84q, e84⟩ := hQ84
            have N84 := Fr.app N61 N84q
            have q84 : (F_lg w_INT w_BIT w_BOOLEAN) = (0 : Int32) := by rw [F_lg, if_neg ne_INT_BIT, if_neg ne_INT_BOOLEAN]
            rw [q84] at st84
            obtain ⟨cq85, kq85, q85a, q85b, q85c⟩ := isOf hZ e84 E_INT
            obtain ⟨_, _, ⟨T85, L85, k85, n85⟩, -, X85, ⟨Lc85, hQ85, l85, y85, z85⟩, st85⟩ := X84.virtualBack hx (y := (⟨"com/example/starquarry/starquarry/model/ColumnType", "isNumber", "()Z"⟩ : MethodName)) (z := (⟨"com/example/starquarry/starquarry/model/ColumnType", "isNumber", "()Z"⟩ : MethodName)) hown (mvT hZ (hw _ (List.mem_of_getElem? (i := 14) rfl))) (mvT hZ (hw _ (List.mem_of_getElem? (i := 15) rfl))) (notFace_of_selects (args := #[]) (mvT hZ (hw _ (List.mem_of_getElem? (i := 17) rfl)))) (mvT hZ (hw _ (List.mem_of_getElem? (i := 17) rfl))) (mvT hZ (hw _ (List.mem_of_getElem? (i := 16) rfl))) (by decide) (backOf (W := 0) (rm_num l Z a0' hw [] w_INT (4 : Int32) w_UNSIGNED_BYTE w_DOUBLE mr h0 n0 Z0 E_INT FO_INT S_UNSIGNED_BYTE E_UNSIGNED_BYTE S_DOUBLE E_DOUBLE MM FO_UNSIGNED_BYTE FO_DOUBLE) hZ (hw _ (List.mem_of_getElem? (i := 18) rfl)) (hw _ (List.mem_of_getElem? (i := 6) rfl)) (by decide) (by decide)) q85a q85c (g := (mkF m 48 #[.val (.int p0), .val (.int ((p0 &&& (2147483647 : Int32)) % (12 : Int32))), .val (.ref w_INT), .val (.int (0 : Int32)), .val (.int (0 : Int32)), .val (.int (0 : Int32))] [(.ref w_INT)])) rfl (by rw [hml]; rfl) (Steps.refl _) (argsL := []) (rest := []) (lenOf own_pd2 rfl) rfl (by show 2 * 0 + _ ≤ _; exact Nat.le_of_eq rfl) (hb hby at_48) (fun _ _ => ⟨rfl, e84, (by decide : 0 + 0 ≤ _), (by decide : 0 + 0 ≤ _)⟩)
            dsimp only [Pt.U, Pt.locs, Pt.cells, Pt.slots] at X85 l85 y85 z85 st85 hQ85
            subst l85 y85 z85
            obtain ⟨rfl, N85q, e85⟩ := hQ85
            have N85 := Fr.app N84 N85q
            have q85 : (F_num (4 : Int32)) = (1 : Int32) := by unfold F_num F_cmp; decide
            rw [q85] at st85
            obtain ⟨cq86, kq86, q86a, q86b, q86c⟩ := isOf hZ e85 E_INT
            obtain ⟨_, _, ⟨T86, L86, k86, n86⟩, -, X86, ⟨Lc86, hQ86, l86, y86, z86⟩, st86⟩ := X85.virtualBack hx (y := (⟨"com/example/starquarry/starquarry/model/ColumnType", "isText", "()Z"⟩ : MethodName)) (z := (⟨"com/example/starquarry/starquarry/model/ColumnType", "isText", "()Z"⟩ : MethodName)) hown (mvT hZ (hw _ (List.mem_of_getElem? (i := 36) rfl))) (mvT hZ (hw _ (List.mem_of_getElem? (i := 37) rfl))) (notFace_of_selects (args := #[]) (mvT hZ (hw _ (List.mem_of_getElem? (i := 39) rfl)))) (mvT hZ (hw _ (List.mem_of_getElem? (i := 39) rfl))) (mvT hZ (hw _ (List.mem_of_getElem? (i := 38) rfl))) (by decide) (backOf (W := 0) (rm_tx l Z a0' hw [] w_INT w_CHAR w_UNICODE_CHAR h0 n0 Z0 S_CHAR S_UNICODE_CHAR) hZ (hw _ (List.mem_of_getElem? (i := 40) rfl)) (hw _ (List.mem_of_getElem? (i := 6) rfl)) (by decide) (by decide)) q86a q86c (g := (mkF m 61 #[.val (.int p0), .val (.int ((p0 &&& (2147483647 : Int32)) % (12 : Int32))), .val (.ref w_INT), .val (.int (0 : Int32)), .val (.int (0 : Int32)), .val (.int ((0 : Int32) + (1 : Int32)))] [(.ref w_INT)])) rfl (by rw [hml]; rfl) (Steps.refl _) (argsL := []) (rest := []) (lenOf own_pd2 rfl) rfl (by show 2 * 0 + _ ≤ _; exact Nat.le_of_eq rfl) (hb hby at_61) (fun _ _ => ⟨rfl, e85, (by decide : 0 + 0 ≤ _), (by decide : 0 + 0 ≤ _)⟩)
            dsimp only [Pt.U, Pt.locs, Pt.cells, Pt.slots] at X86 l86 y86 z86 st86 hQ86
            subst l86 y86 z86
            obtain ⟨rfl, N86q, e86⟩ := hQ86
            have N86 := Fr.app N85 N86q
            have q86 : (F_tx w_INT w_CHAR w_UNICODE_CHAR) = (0 : Int32) := by rw [F_tx, if_neg ne_INT_CHAR, if_neg ne_INT_UNICODE_CHAR]
            rw [q86] at st86
            obtain ⟨cq87, kq87, q87a, q87b, q87c⟩ := isOf hZ e86 E_INT
            obtain ⟨_, _, ⟨T87, L87, k87, n87⟩, -, X87, ⟨Lc87, hQ87, l87, y87, z87⟩, st87⟩ := X86.virtualBack hx (y := (⟨"com/example/starquarry/starquarry/model/ColumnType", "isGeometry", "()Z"⟩ : MethodName)) (z := (⟨"com/example/starquarry/starquarry/model/ColumnType", "isGeometry", "()Z"⟩ : MethodName)) hown (mvT hZ (hw _ (List.mem_of_getElem? (i := 45) rfl))) (mvT hZ (hw _ (List.mem_of_getElem? (i := 46) rfl))) (notFace_of_selects (args := #[]) (mvT hZ (hw _ (List.mem_of_getElem? (i := 48) rfl)))) (mvT hZ (hw _ (List.mem_of_getElem? (i := 48) rfl))) (mvT hZ (hw _ (List.mem_of_getElem? (i := 47) rfl))) (by decide) (backOf (W := 0) (rm_geoN l Z a0' hw [] w_INT h0 n0 Z0 FX_INT) hZ (hw _ (List.mem_of_getElem? (i := 49) rfl)) (hw _ (List.mem_of_getElem? (i := 6) rfl)) (by decide) (by decide)) q87a q87c (g := (mkF m 74 #[.val (.int p0), .val (.int ((p0 &&& (2147483647 : Int32)) % (12 : Int32))), .val (.ref w_INT), .val (.int (0 : Int32)), .val (.int (0 : Int32)), .val (.int ((0 : Int32) + (1 : Int32)))] [(.ref w_INT)])) rfl (by rw [hml]; rfl) (Steps.refl _) (argsL := []) (rest := []) (lenOf own_pd2 rfl) rfl (by show 2 * 0 + _ ≤ _; exact Nat.le_of_eq rfl) (hb hby at_74) (fun _ _ => ⟨rfl, e86, (by decide : 0 + 0 ≤ _), (by decide : 0 + 0 ≤ _)⟩)
            dsimp only [Pt.U, Pt.locs, Pt.cells, Pt.slots] at X87 l87 y87 z87 st87 hQ87
            subst l87 y87 z87
            obtain ⟨rfl, N87q, e87⟩ := hQ87
            have N87 := Fr.app N86 N87q
            obtain ⟨fs, hr, hrun, hended, hW, hsame⟩ := X87.leave (v := some (.int (1 : Int32))) (fun h => by rw [Bd.returns] at h; cases h)
            refine ⟨_, _, pre62 _ ?_, hrun, hended, _, _, rfl, ?_, ⟨_, rfl⟩, hW, hsame.mono (by decide) (by decide)⟩
            · show Steps p.tables e below (s₁.setTop (mkF m 9 #[.val (.int p0), .val (.int ((p0 &&& (2147483647 : Int32)) % (12 : Int32))), .unset, .unset, .unset, .unset] [(.int ((p0 &&& (2147483647 : Int32)) % (12 : Int32)))])) _
              refine st61 _ ?_
              show Steps p.tables e below (T61.setTop (mkF m 12 #[.val (.int p0), .val (.int ((p0 &&& (2147483647 : Int32)) % (12 : Int32))), .unset, .unset, .unset, .unset] [(.ref w_INT)])) _
              refine XS.astoreN X61.here hx rfl (hb hby at_12) rfl rfl (l' := #[.val (.int p0), .val (.int ((p0 &&& (2147483647 : Int32)) % (12 : Int32))), .val (.ref w_INT), .unset, .unset, .unset]) rfl ?_
              show Steps p.tables e below (T61.setTop (mkF m 13 #[.val (.int p0), .val (.int ((p0 &&& (2147483647 : Int32)) % (12 : Int32))), .val (.ref w_INT), .unset, .unset, .unset] [])) _
              refine XS.aloadN X61.here hx rfl (hb hby at_13) rfl rfl ?_
              show Steps p.tables e below (T61.setTop (mkF m 14 #[.val (.int p0), .val (.int ((p0 &&& (2147483647 : Int32)) % (12 : Int32))), .val (.ref w_INT), .unset, .unset, .unset] [(.ref w_INT)])) _
              refine st84.trans ?_
              show Steps p.tables e below (T84.setTop (mkF m 17 #[.val (.int p0), .val (.int ((p0 &&& (2147483647 : Int32)) % (12 : Int32))), .val (.ref w_INT), .unset, .unset, .unset] [(.int (0 : Int32))])) _
              refine XS.istoreN X84.here hx rfl (hb hby at_17) rfl (l' := #[.val (.int p0), .val (.int ((p0 &&& (2147483647 : Int32)) % (12 : Int32))), .val (.ref w_INT), .val (.int (0 : Int32)), .unset, .unset]) rfl ?_
              show Steps p.tables e below (T84.setTop (mkF m 18 #[.val (.int p0), .val (.int ((p0 &&& (2147483647 : Int32)) % (12 : Int32))), .val (.ref w_INT), .val (.int (0 : Int32)), .unset, .unset] [])) _
              refine XS.iloadN X84.here hx rfl (hb hby at_18) rfl ?_
              show Steps p.tables e below (T84.setTop (mkF m 19 #[.val (.int p0), .val (.int ((p0 &&& (2147483647 : Int32)) % (12 : Int32))), .val (.ref w_INT), .val (.int (0 : Int32)), .unset, .unset] [(.int ((p0 &&& (2147483647 : Int32)) % (12 : Int32)))])) _
              refine XS.ifNo X84.here hx rfl (hb hby at_19) rfl ((if0 _ _).trans (feq hs_63).1) ?_
              show Steps p.tables e below (T84.setTop (mkF m 22 #[.val (.int p0), .val (.int ((p0 &&& (2147483647 : Int32)) % (12 : Int32))), .val (.ref w_INT), .val (.int (0 : Int32)), .unset, .unset] [])) _
              refine XS.iloadN X84.here hx rfl (hb hby at_22) rfl ?_
              show Steps p.tables e below (T84.setTop (mkF m 23 #[.val (.int p0), .val (.int ((p0 &&& (2147483647 : Int32)) % (12 : Int32))), .val (.ref w_INT), .val (.int (0 : Int32)), .unset, .unset] [(.int ((p0 &&& (2147483647 : Int32)) % (12 : Int32)))])) _
              refine XS.iconst X84.here hx rfl (hb hby at_23) ?_
              show Steps p.tables e below (T84.setTop (mkF m 24 #[.val (.int p0), .val (.int ((p0 &&& (2147483647 : Int32)) % (12 : Int32))), .val (.ref w_INT), .val (.int (0 : Int32)), .unset, .unset] [(.int (1 : Int32)), (.int ((p0 &&& (2147483647 : Int32)) % (12 : Int32)))])) _
              refine XS.icmpYes X84.here hx rfl (pc0 := 24) (pc' := 31) rfl (hb hby at_24) rfl (feq hs_68).2 (by decide) (by decide) ?_
              show Steps p.tables e below (T84.setTop (mkF m 31 #[.val (.int p0), .val (.int ((p0 &&& (2147483647 : Int32)) % (12 : Int32))), .val (.ref w_INT), .val (.int (0 : Int32)), .unset, .unset] [])) _
              refine XS.iconst X84.here hx rfl (hb hby at_31) ?_
              show Steps p.tables e below (T84.setTop (mkF m 32 #[.val (.int p0), .val (.int ((p0 &&& (2147483647 : Int32)) % (12 : Int32))), .val (.ref w_INT), .val (.int (0 : Int32)), .unset, .unset] [(.int (0 : Int32))])) _
              refine XS.istore X84.here hx rfl (hb hby at_32) rfl (l' := #[.val (.int p0), .val (.int ((p0 &&& (2147483647 : Int32)) % (12 : Int32))), .val (.ref w_INT), .val (.int (0 : Int32)), .val (.int (0 : Int32)), .unset]) rfl ?_
              show Steps p.tables e below (T84.setTop (mkF m 34 #[.val (.int p0), .val (.int ((p0 &&& (2147483647 : Int32)) % (12 : Int32))), .val (.ref w_INT), .val (.int (0 : Int32)), .val (.int (0 : Int32)), .unset] [])) _
              refine XS.iconst X84.here hx rfl (hb hby at_34) ?_
              show Steps p.tables e below (T84.setTop (mkF m 35 #[.val (.int p0), .val (.int ((p0 &&& (2147483647 : Int32)) % (12 : Int32))), .val (.ref w_INT), .val (.int (0 : Int32)), .val (.int (0 : Int32)), .unset] [(.int (0 : Int32))])) _
              refine XS.istore X84.here hx rfl (hb hby at_35) rfl (l' := #[.val (.int p0), .val (.int ((p0 &&& (2147483647 : Int32)) % (12 : Int32))), .val (.ref w_INT), .val (.int (0 : Int32)), .val (.int (0 : Int32)), .val (.int (0 : Int32))]) rfl ?_
              show Steps p.tables e below (T84.setTop (mkF m 37 #[.val (.int p0), .val (.int ((p0 &&& (2147483647 : Int32)) % (12 : Int32))), .val (.ref w_INT), .val (.int (0 : Int32)), .val (.int (0 : Int32)), .val (.int (0 : Int32))] [])) _
              refine XS.iloadN X84.here hx rfl (hb hby at_37) rfl ?_
              show Steps p.tables e below (T84.setTop (mkF m 38 #[.val (.int p0), .val (.int ((p0 &&& (2147483647 : Int32)) % (12 : Int32))), .val (.ref w_INT), .val (.int (0 : Int32)), .val (.int (0 : Int32)), .val (.int (0 : Int32))] [(.int (0 : Int32))])) _
              refine XS.ifYes X84.here hx rfl (pc0 := 38) (pc' := 47) rfl (hb hby at_38) rfl ((if0 _ _).trans (teq (by decide : (0 : Int32) = (0 : Int32))).1) (by decide) (by decide) ?_
              show Steps p.tables e below (T84.setTop (mkF m 47 #[.val (.int p0), .val (.int ((p0 &&& (2147483647 : Int32)) % (12 : Int32))), .val (.ref w_INT), .val (.int (0 : Int32)), .val (.int (0 : Int32)), .val (.int (0 : Int32))] [])) _
              refine XS.aloadN X84.here hx rfl (hb hby at_47) rfl rfl ?_
              show Steps p.tables e below (T84.setTop (mkF m 48 #[.val (.int p0), .val (.int ((p0 &&& (2147483647 : Int32)) % (12 : Int32))), .val (.ref w_INT), .val (.int (0 : Int32)), .val (.int (0 : Int32)), .val (.int (0 : Int32))] [(.ref w_INT)])) _
              refine st85.trans ?_
              show Steps p.tables e below (T85.setTop (mkF m 51 #[.val (.int p0), .val (.int ((p0 &&& (2147483647 : Int32)) % (12 : Int32))), .val (.ref w_INT), .val (.int (0 : Int32)), .val (.int (0 : Int32)), .val (.int (0 : Int32))] [(.int (1 : Int32))])) _
              refine XS.ifNo X85.here hx rfl (hb hby at_51) rfl ((if0 _ _).trans (feq (by decide : ¬ ((1 : Int32) = (0 : Int32)))).1) ?_
              show Steps p.tables e below (T85.setTop (mkF m 54 #[.val (.int p0), .val (.int ((p0 &&& (2147483647 : Int32)) % (12 : Int32))), .val (.ref w_INT), .val (.int (0 : Int32)), .val (.int (0 : Int32)), .val (.int (0 : Int32))] [])) _
              refine XS.iload X85.here hx rfl (hb hby at_54) rfl ?_
              show Steps p.tables e below (T85.setTop (mkF m 56 #[.val (.int p0), .val (.int ((p0 &&& (2147483647 : Int32)) % (12 : Int32))), .val (.ref w_INT), .val (.int (0 : Int32)), .val (.int (0 : Int32)), .val (.int (0 : Int32))] [(.int (0 : Int32))])) _
              refine XS.iconst X85.here hx rfl (hb hby at_56) ?_
              show Steps p.tables e below (T85.setTop (mkF m 57 #[.val (.int p0), .val (.int ((p0 &&& (2147483647 : Int32)) % (12 : Int32))), .val (.ref w_INT), .val (.int (0 : Int32)), .val (.int (0 : Int32)), .val (.int (0 : Int32))] [(.int (1 : Int32)), (.int (0 : Int32))])) _
              refine XS.iadd X85.here hx rfl (hb hby at_57) rfl ?_
              show Steps p.tables e below (T85.setTop (mkF m 58 #[.val (.int p0), .val (.int ((p0 &&& (2147483647 : Int32)) % (12 : Int32))), .val (.ref w_INT), .val (.int (0 : Int32)), .val (.int (0 : Int32)), .val (.int (0 : Int32))] [(.int ((0 : Int32) + (1 : Int32)))])) _
              refine XS.istore X85.here hx rfl (hb hby at_58) rfl (l' := #[.val (.int p0), .val (.int ((p0 &&& (2147483647 : Int32)) % (12 : Int32))), .val (.ref w_INT), .val (.int (0 : Int32)), .val (.int (0 : Int32)), .val (.int ((0 : Int32) + (1 : Int32)))]) rfl ?_
              show Steps p.tables e below (T85.setTop (mkF m 60 #[.val (.int p0), .val (.int ((p0 &&& (2147483647 : Int32)) % (12 : Int32))), .val (.ref w_INT), .val (.int (0 : Int32)), .val (.int (0 : Int32)), .val (.int ((0 : Int32) + (1 : Int32)))] [])) _
              refine XS.aloadN X85.here hx rfl (hb hby at_60) rfl rfl ?_
              show Steps p.tables e below (T85.setTop (mkF m 61 #[.val (.int p0), .val (.int ((p0 &&& (2147483647 : Int32)) % (12 : Int32))), .val (.ref w_INT), .val (.int (0 : Int32)), .val (.int (0 : Int32)), .val (.int ((0 : Int32) + (1 : Int32)))] [(.ref w_INT)])) _
              refine st86.trans ?_
              show Steps p.tables e below (T86.setTop (mkF m 64 #[.val (.int p0), .val (.int ((p0 &&& (2147483647 : Int32)) % (12 : Int32))), .val (.ref w_INT), .val (.int (0 : Int32)), .val (.int (0 : Int32)), .val (.int ((0 : Int32) + (1 : Int32)))] [(.int (0 : Int32))])) _
              refine XS.ifYes X86.here hx rfl (pc0 := 64) (pc' := 73) rfl (hb hby at_64) rfl ((if0 _ _).trans (teq (by decide : (0 : Int32) = (0 : Int32))).1) (by decide) (by decide) ?_
              show Steps p.tables e below (T86.setTop (mkF m 73 #[.val (.int p0), .val (.int ((p0 &&& (2147483647 : Int32)) % (12 : Int32))), .val (.ref w_INT), .val (.int (0 : Int32)), .val (.int (0 : Int32)), .val (.int ((0 : Int32) + (1 : Int32)))] [])) _
              refine XS.aloadN X86.here hx rfl (hb hby at_73) rfl rfl ?_
              show Steps p.tables e below (T86.setTop (mkF m 74 #[.val (.int p0), .val (.int ((p0 &&& (2147483647 : Int32)) % (12 : Int32))), .val (.ref w_INT), .val (.int (0 : Int32)), .val (.int (0 : Int32)), .val (.int ((0 : Int32) + (1 : Int32)))] [(.ref w_INT)])) _
              refine st87.trans ?_
              show Steps p.tables e below (T87.setTop (mkF m 77 #[.val (.int p0), .val (.int ((p0 &&& (2147483647 : Int32)) % (12 : Int32))), .val (.ref w_INT), .val (.int (0 : Int32)), .val (.int (0 : Int32)), .val (.int ((0 : Int32) + (1 : Int32)))] [(.int (0 : Int32))])) _
              refine XS.ifYes X87.here hx rfl (pc0 := 77) (pc' := 86) rfl (hb hby at_77) rfl ((if0 _ _).trans (teq (by decide : (0 : Int32) = (0 : Int32))).1) (by decide) (by decide) ?_
              show Steps p.tables e below (T87.setTop (mkF m 86 #[.val (.int p0), .val (.int ((p0 &&& (2147483647 : Int32)) % (12 : Int32))), .val (.ref w_INT), .val (.int (0 : Int32)), .val (.int (0 : Int32)), .val (.int ((0 : Int32) + (1 : Int32)))] [])) _
              refine XS.iloadN X87.here hx rfl (hb hby at_86) rfl ?_
              show Steps p.tables e below (T87.setTop (mkF m 87 #[.val (.int p0), .val (.int ((p0 &&& (2147483647 : Int32)) % (12 : Int32))), .val (.ref w_INT), .val (.int (0 : Int32)), .val (.int (0 : Int32)), .val (.int ((0 : Int32) + (1 : Int32)))] [(.int (0 : Int32))])) _
              refine XS.iload X87.here hx rfl (hb hby at_87) rfl ?_
              show Steps p.tables e below (T87.setTop (mkF m 89 #[.val (.int p0), .val (.int ((p0 &&& (2147483647 : Int32)) % (12 : Int32))), .val (.ref w_INT), .val (.int (0 : Int32)), .val (.int (0 : Int32)), .val (.int ((0 : Int32) + (1 : Int32)))] [(.int (0 : Int32)), (.int (0 : Int32))])) _
              refine XS.icmpNo X87.here hx rfl (hb hby at_89) rfl (teq (by decide : (0 : Int32) = (0 : Int32))).2 ?_
              show Steps p.tables e below (T87.setTop (mkF m 92 #[.val (.int p0), .val (.int ((p0 &&& (2147483647 : Int32)) % (12 : Int32))), .val (.ref w_INT), .val (.int (0 : Int32)), .val (.int (0 : Int32)), .val (.int ((0 : Int32) + (1 : Int32)))] [])) _
              refine XS.iload X87.here hx rfl (hb hby at_92) rfl ?_
              show Steps p.tables e below (T87.setTop (mkF m 94 #[.val (.int p0), .val (.int ((p0 &&& (2147483647 : Int32)) % (12 : Int32))), .val (.ref w_INT), .val (.int (0 : Int32)), .val (.int (0 : Int32)), .val (.int ((0 : Int32) + (1 : Int32)))] [(.int ((0 : Int32) + (1 : Int32)))])) _
              refine XS.iconst X87.here hx rfl (hb hby at_94) ?_
              show Steps p.tables e below (T87.setTop (mkF m 95 #[.val (.int p0), .val (.int ((p0 &&& (2147483647 : Int32)) % (12 : Int32))), .val (.ref w_INT), .val (.int (0 : Int32)), .val (.int (0 : Int32)), .val (.int ((0 : Int32) + (1 : Int32)))] [(.int (1 : Int32)), (.int ((0 : Int32) + (1 : Int32)))])) _
              refine XS.icmpNo X87.here hx rfl (hb hby at_95) rfl (teq (by decide : ((0 : Int32) + (1 : Int32)) = (1 : Int32))).2 ?_
              show Steps p.tables e below (T87.setTop (mkF m 98 #[.val (.int p0), .val (.int ((p0 &&& (2147483647 : Int32)) % (12 : Int32))), .val (.ref w_INT), .val (.int (0 : Int32)), .val (.int (0 : Int32)), .val (.int ((0 : Int32) + (1 : Int32)))] [])) _
              refine XS.iconst X87.here hx rfl (hb hby at_98) ?_
              show Steps p.tables e below (T87.setTop (mkF m 99 #[.val (.int p0), .val (.int ((p0 &&& (2147483647 : Int32)) % (12 : Int32))), .val (.ref w_INT), .val (.int (0 : Int32)), .val (.int (0 : Int32)), .val (.int ((0 : Int32) + (1 : Int32)))] [(.int (1 : Int32))])) _
              refine XS.goto X87.here hx rfl (pc0 := 99) (pc' := 103) rfl (hb hby at_99) (by decide) (by decide) ?_
              show Steps p.tables e below (T87.setTop (mkF m 103 #[.val (.int p0), .val (.int ((p0 &&& (2147483647 : Int32)) % (12 : Int32))), .val (.ref w_INT), .val (.int (0 : Int32)), .val (.int (0 : Int32)), .val (.int ((0 : Int32) + (1 : Int32)))] [(.int (1 : Int32))])) _
              exact retN X87 hx (t := .boolean) Bd.returns (by simp) (hb hby at_103) hr
            · show Q_law Z p0 w_BIT w_BOOLEAN w_UNSIGNED_BYTE w_SHORT w_INT w_LONG w_FLOAT w_DOUBLE w_CHAR w_UNICODE_CHAR w_POINT w_CIRCLE mr x_CIRCLE x_POINT h0 n0 _ T87.heap _
              refine ⟨?_, N87, trivial⟩
              rw [F_law, if_neg hs_63, if_neg hs_68, if_neg hs_73, if_neg hs_78, if_pos hs_83]
          · by_cases hs_88 : ((p0 &&& (2147483647 : Int32)) % (12 : Int32)) = (5 : Int32)
            · have q61 : (F_pick ((p0 &&& (2147483647 : Int32)) % (12 : Int32)) w_BIT w_BOOLEAN w_UNSIGNED_BYTE w_SHORT w_INT w_LONG w_FLOAT w_DOUBLE w_CHAR w_UNICODE_CHAR w_POINT w_CIRCLE) = w_LONG := by rw [F_pick, if_neg hs_63, if_neg hs_68, if_neg hs_73, if_neg hs_78, if_neg hs_83, if_pos hs_88]
              rw [q61] at st61
              obtain ⟨cq89, kq89, q89a, q89b, q89c⟩ := isOf hZ e61 E_LONG
              obtain ⟨_, _, ⟨T89, L89, k89, n89⟩, -, X89, ⟨Lc89, hQ89, l89, y89, z89⟩, st89⟩ := X61.virtualBack hx (y := (⟨"com/example/starquarry/starquarry/model/ColumnType", "isLogical", "()Z"⟩ : MethodName)) (z := (⟨"com/example/starquarry/starquarry/model/ColumnType", "isLogical", "()Z"⟩ : MethodName)) hown (mvT hZ (hw _ (List.mem_of_getElem? (i := 8) rfl))) (mvT hZ (hw _ (List.mem_of_getElem? (i := 9) rfl))) (notFace_of_selects (args := #[]) (mvT hZ (hw _ (List.mem_of_getElem? (i := 11) rfl)))) (mvT hZ (hw _ (List.mem_of_getElem? (i := 11) rfl))) (mvT hZ (hw _ (List.mem_of_getElem? (i := 10) rfl))) (by decide) (backOf (W := 0) (rm_lg l Z a0' hw [] w_LONG w_BIT w_BOOLEAN h0 n0 Z0 S_BIT S_BOOLEAN) hZ (hw _ (List.mem_of_getElem? (i := 12) rfl)) (hw _ (List.mem_of_getElem? (i := 6) rfl)) (by decide) (by decide)) q89a q89c (g := (mkF m 14 #[.val (.int p0), .val (.int ((p0 &&& (2147483647 : Int32)) % (12 : Int32))), .val (.ref w_LONG), .unset, .unset, .unset] [(.ref w_LONG)])) rfl (by rw [hml]; rfl) (Steps.refl _) (argsL := []) (rest := []) (lenOf own_pd2 rfl) rfl (by show 2 * 0 + _ ≤ _; exact Nat.le_of_eq rfl) (hb hby at_14) (fun _ _ => ⟨rfl, e61, (by decide : 0 + 0 ≤ _), (by decide : 0 + 0 ≤ _)⟩)
              dsimp only [Pt.U, Pt.locs, Pt.cells, Pt.slots] at X89 l89 y89 z89 st89 hQ89
              subst l89 y89 z89
              obtain ⟨rfl, N89q, e89⟩ := hQ89
              have N89 := Fr.app N61 N89q
              have q89 : (F_lg w_LONG w_BIT w_BOOLEAN) = (0 : Int32) := by rw [F_lg, if_neg ne_LONG_BIT, if_neg ne_LONG_BOOLEAN]
              rw [q89] at st89
              obtain ⟨cq90, kq90, q90a, q90b, q90c⟩ := isOf hZ e89 E_LONG
              obtain ⟨_, _, ⟨T90, L90, k90, n90⟩, -, X90, ⟨Lc90, hQ90, l90, y90, z90⟩, st90⟩ := X89.virtualBack hx (y := (⟨"com/example/starquarry/starquarry/model/ColumnType", "isNumber", "()Z"⟩ : MethodName)) (z := (⟨"com/example/starquarry/starquarry/model/ColumnType", "isNumber", "()Z"⟩ : MethodName)) hown (mvT hZ (hw _ (List.mem_of_getElem? (i := 14) rfl))) (mvT hZ (hw _ (List.mem_of_getElem? (i := 15) rfl))) (notFace_of_selects (args := #[]) (mvT hZ (hw _ (List.mem_of_getElem? (i := 17) rfl)))) (mvT hZ (hw _ (List.mem_of_getElem? (i := 17) rfl))) (mvT hZ (hw _ (List.mem_of_getElem? (i := 16) rfl))) (by decide) (backOf (W := 0) (rm_num l Z a0' hw [] w_LONG (5 : Int32) w_UNSIGNED_BYTE w_DOUBLE mr h0 n0 Z0 E_LONG FO_LONG S_UNSIGNED_BYTE E_UNSIGNED_BYTE S_DOUBLE E_DOUBLE MM FO_UNSIGNED_BYTE FO_DOUBLE) hZ (hw _ (List.mem_of_getElem? (i := 18) rfl)) (hw _ (List.mem_of_getElem? (i := 6) rfl)) (by decide) (by decide)) q90a q90c (g := (mkF m 48 #[.val (.int p0), .val (.int ((p0 &&& (2147483647 : Int32)) % (12 : Int32))), .val (.ref w_LONG), .val (.int (0 : Int32)), .val (.int (0 : Int32)), .val (.int (0 : Int32))] [(.ref w_LONG)])) rfl (by rw [hml]; rfl) (Steps.refl _) (argsL := []) (rest := []) (lenOf own_pd2 rfl) rfl (by show 2 * 0 + _ ≤ _; exact Nat.le_of_eq rfl) (hb hby at_48) (fun _ _ => ⟨rfl, e89, (by decide : 0 + 0 ≤ _), (by decide : 0 + 0 ≤ _)⟩)
              dsimp only [Pt.U, Pt.locs, Pt.cells, Pt.slots] at X90 l90 y90 z90 st90 hQ90
              subst l90 y90 z90
              obtain ⟨rfl, N90q, e90⟩ := hQ90
              have N90 := Fr.app N89 N90q
              have q90 : (F_num (5 : Int32)) = (1 : Int32) := by unfold F_num F_cmp; decide
              rw [q90] at st90
              obtain ⟨cq91, kq91, q91a, q91b, q91c⟩ := isOf hZ e90 E_LONG
              obtain ⟨_, _, ⟨T91, L91, k91, n91⟩, -, X91, ⟨Lc91, hQ91, l91, y91, z91⟩, st91⟩ := X90.virtualBack hx (y := (⟨"com/example/starquarry/starquarry/model/ColumnType", "isText", "()Z"⟩ : MethodName)) (z := (⟨"com/example/starquarry/starquarry/model/ColumnType", "isText", "()Z"⟩ : MethodName)) hown (mvT hZ (hw _ (List.mem_of_getElem? (i := 36) rfl))) (mvT hZ (hw _ (List.mem_of_getElem? (i := 37) rfl))) (notFace_of_selects (args := #[]) (mvT hZ (hw _ (List.mem_of_getElem? (i := 39) rfl)))) (mvT hZ (hw _ (List.mem_of_getElem? (i := 39) rfl))) (mvT hZ (hw _ (List.mem_of_getElem? (i := 38) rfl))) (by decide) (backOf (W := 0) (rm_tx l Z a0' hw [] w_LONG w_CHAR w_UNICODE_CHAR h0 n0 Z0 S_CHAR S_UNICODE_CHAR) hZ (hw _ (List.mem_of_getElem? (i := 40) rfl)) (hw _ (List.mem_of_getElem? (i := 6) rfl)) (by decide) (by decide)) q91a q91c (g := (mkF m 61 #[.val (.int p0), .val (.int ((p0 &&& (2147483647 : Int32)) % (12 : Int32))), .val (.ref w_LONG), .val (.int (0 : Int32)), .val (.int (0 : Int32)), .val (.int ((0 : Int32) + (1 : Int32)))] [(.ref w_LONG)])) rfl (by rw [hml]; rfl) (Steps.refl _) (argsL := []) (rest := []) (lenOf own_pd2 rfl) rfl (by show 2 * 0 + _ ≤ _; exact Nat.le_of_eq rfl) (hb hby at_61) (fun _ _ => ⟨rfl, e90, (by decide : 0 + 0 ≤ _), (by decide : 0 + 0 ≤ _)⟩)
              dsimp only [Pt.U, Pt.locs, Pt.cells, Pt.slots] at X91 l91 y91 z91 st91 hQ91
              subst l91 y91 z91
              obtain ⟨rfl, N91q, e91⟩ := hQ91
              have N91 := Fr.app N90 N91q
              have q91 : (F_tx w_LONG w_CHAR w_UNICODE_CHAR) = (0 : Int32) := by rw [F_tx, if_neg ne_LONG_CHAR, if_neg ne_LONG_UNICODE_CHAR]
              rw [q91] at st91
              obtain ⟨cq92, kq92, q92a, q92b, q92c⟩ := isOf hZ e91 E_LONG
              obtain ⟨_, _, ⟨T92, L92, k92, n92⟩, -, X92, ⟨Lc92, hQ92, l92, y92, z92⟩, st92⟩ := X91.virtualBack hx (y := (⟨"com/example/starquarry/starquarry/model/ColumnType", "isGeometry", "()Z"⟩ : MethodName)) (z := (⟨"com/example/starquarry/starquarry/model/ColumnType", "isGeometry", "()Z"⟩ : MethodName)) hown (mvT hZ (hw _ (List.mem_of_getElem? (i := 45) rfl))) (mvT hZ (hw _ (List.mem_of_getElem? (i := 46) rfl))) (notFace_of_selects (args := #[]) (mvT hZ (hw _ (List.mem_of_getElem? (i := 48) rfl)))) (mvT hZ (hw _ (List.mem_of_getElem? (i := 48) rfl))) (mvT hZ (hw _ (List.mem_of_getElem? (i := 47) rfl))) (by decide) (backOf (W := 0) (rm_geoN l Z a0' hw [] w_LONG h0 n0 Z0 FX_LONG) hZ (hw _ (List.mem_of_getElem? (i := 49) rfl)) (hw _ (List.mem_of_getElem? (i := 6) rfl)) (by decide) (by decide)) q92a q92c (g := (mkF m 74 #[.val (.int p0), .val (.int ((p0 &&& (2147483647 : Int32)) % (12 : Int32))), .val (.ref w_LONG), .val (.int (0 : Int32)), .val (.int (0 : Int32)), .val (.int ((0 : Int32) + (1 : Int32)))] [(.ref w_LONG)])) rfl (by rw [hml]; rfl) (Steps.refl _) (argsL := []) (rest := []) (lenOf own_pd2 rfl) rfl (by show 2 * 0 + _ ≤ _; exact Nat.le_of_eq rfl) (hb hby at_74) (fun _ _ => ⟨rfl, e91, (by decide : 0 + 0 ≤ _), (by decide : 0 + 0 ≤ _)⟩)
              dsimp only [Pt.U, Pt.locs, Pt.cells, Pt.slots] at X92 l92 y92 z92 st92 hQ92
              subst l92 y92 z92
              obtain ⟨rfl, N92q, e92⟩ := hQ92
              have N92 := Fr.app N91 N92q
              obtain ⟨fs, hr, hrun, hended, hW, hsame⟩ := X92.leave (v := some (.int (1 : Int32))) (fun h => by rw [Bd.returns] at h; cases h)
              refine ⟨_, _, pre62 _ ?_, hrun, hended, _, _, rfl, ?_, ⟨_, rfl⟩, hW, hsame.mono (by decide) (by decide)⟩
              · show Steps p.tables e below (s₁.setTop (mkF m 9 #[.val (.int p0), .val (.int ((p0 &&& (2147483647 : Int32)) % (12 : Int32))), .unset, .unset, .unset, .unset] [(.int ((p0 &&& (2147483647 : Int32)) % (12 : Int32)))])) _
                refine st61 _ ?_
                show Steps p.tables e below (T61.setTop (mkF m 12 #[.val (.int p0), .val (.int ((p0 &&& (2147483647 : Int32)) % (12 : Int32))), .unset, .unset, .unset, .unset] [(.ref w_LONG)])) _
                refine XS.astoreN X61.here hx rfl (hb hby at_12) rfl rfl (l' := #[.val (.int p0), .val (.int ((p0 &&& (2147483647 : Int32)) % (12 : Int32))), .val (.ref w_LONG), .unset, .unset, .unset]) rfl ?_
                show Steps p.tables e below (T61.setTop (mkF m 13 #[.val (.int p0), .val (.int ((p0 &&& (2147483647 : Int32)) % (12 : Int32))), .val (.ref w_LONG), .unset, .unset, .unset] [])) _
                refine XS.aloadN X61.here hx rfl (hb hby at_13) rfl rfl ?_
                show Steps p.tables e below (T61.setTop (mkF m 14 #[.val (.int p0), .val (.int ((p0 &&& (2147483647 : Int32)) % (12 : Int32))), .val (.ref w_LONG), .unset, .unset, .unset] [(.ref w_LONG)])) _
                refine st89.trans ?_
                show Steps p.tables e below (T89.setTop (mkF m 17 #[.val (.int p0), .val (.int ((p0 &&& (2147483647 : Int32)) % (12 : Int32))), .val (.ref w_LONG), .unset, .unset, .unset] [(.int (0 : Int32))])) _
                refine XS.istoreN X89.here hx rfl (hb hby at_17) rfl (l' := #[.val (.int p0), .val (.int ((p0 &&& (2147483647 : Int32)) % (12 : Int32))), .val (.ref w_LONG), .val (.int (0 : Int32)), .unset, .unset]) rfl ?_
                show Steps p.tables e below (T89.setTop (mkF m 18 #[.val (.int p0), .val (.int ((p0 &&& (2147483647 : Int32)) % (12 : Int32))), .val (.ref w_LONG), .val (.int (0 : Int32)), .unset, .unset] [])) _
                refine XS.iloadN X89.here hx rfl (hb hby at_18) rfl ?_
                show Steps p.tables e below (T89.setTop (mkF m 19 #[.val (.int p0), .val (.int ((p0 &&& (2147483647 : Int32)) % (12 : Int32))), .val (.ref w_LONG), .val (.int (0 : Int32)), .unset, .unset] [(.int ((p0 &&& (2147483647 : Int32)) % (12 : Int32)))])) _
                refine XS.ifNo X89.here hx rfl (hb hby at_19) rfl ((if0 _ _).trans (feq hs_63).1) ?_
                show Steps p.tables e below (T89.setTop (mkF m 22 #[.val (.int p0), .val (.int ((p0 &&& (2147483647 : Int32)) % (12 : Int32))), .val (.ref w_LONG), .val (.int (0 : Int32)), .unset, .unset] [])) _
                refine XS.iloadN X89.here hx rfl (hb hby at_22) rfl ?_
                show Steps p.tables e below (T89.setTop (mkF m 23 #[.val (.int p0), .val (.int ((p0 &&& (2147483647 : Int32)) % (12 : Int32))), .val (.ref w_LONG), .val (.int (0 : Int32)), .unset, .unset] [(.int ((p0 &&& (2147483647 : Int32)) % (12 : Int32)))])) _
                refine XS.iconst X89.here hx rfl (hb hby at_23) ?_
                show Steps p.tables e below (T89.setTop (mkF m 24 #[.val (.int p0), .val (.int ((p0 &&& (2147483647 : Int32)) % (12 : Int32))), .val (.ref w_LONG), .val (.int (0 : Int32)), .unset, .unset] [(.int (1 : Int32)), (.int ((p0 &&& (2147483647 : Int32)) % (12 : Int32)))])) _
                refine XS.icmpYes X89.here hx rfl (pc0 := 24) (pc' := 31) rfl (hb hby at_24) rfl (feq hs_68).2 (by decide) (by decide) ?_
                show Steps p.tables e below (T89.setTop (mkF m 31 #[.val (.int p0), .val (.int ((p0 &&& (2147483647 : Int32)) % (12 : Int32))), .val (.ref w_LONG), .val (.int (0 : Int32)), .unset, .unset] [])) _
                refine XS.iconst X89.here hx rfl (hb hby at_31) ?_
                show Steps p.tables e below (T89.setTop (mkF m 32 #[.val (.int p0), .val (.int ((p0 &&& (2147483647 : Int32)) % (12 : Int32))), .val (.ref w_LONG), .val (.int (0 : Int32)), .unset, .unset] [(.int (0 : Int32))])) _
                refine XS.istore X89.here hx rfl (hb hby at_32) rfl (l' := #[.val (.int p0), .val (.int ((p0 &&& (2147483647 : Int32)) % (12 : Int32))), .val (.ref w_LONG), .val (.int (0 : Int32)), .val (.int (0 : Int32)), .unset]) rfl ?_
                show Steps p.tables e below (T89.setTop (mkF m 34 #[.val (.int p0), .val (.int ((p0 &&& (2147483647 : Int32)) % (12 : Int32))), .val (.ref w_LONG), .val (.int (0 : Int32)), .val (.int (0 : Int32)), .unset] [])) _
                refine XS.iconst X89.here hx rfl (hb hby at_34) ?_
                show Steps p.tables e below (T89.setTop (mkF m 35 #[.val (.int p0), .val (.int ((p0 &&& (2147483647 : Int32)) % (12 : Int32))), .val (.ref w_LONG), .val (.int (0 : Int32)), .val (.int (0 : Int32)), .unset] [(.int (0 : Int32))])) _
                refine XS.istore X89.here hx rfl (hb hby at_35) rfl (l' := #[.val (.int p0), .val (.int ((p0 &&& (2147483647 : Int32)) % (12 : Int32))), .val (.ref w_LONG), .val (.int (0 : Int32)), .val (.int (0 : Int32)), .val (.int (0 : Int32))]) rfl ?_
                show Steps p.tables e below (T89.setTop (mkF m 37 #[.val (.int p0), .val (.int ((p0 &&& (2147483647 : Int32)) % (12 : Int32))), .val (.ref w_LONG), .val (.int (0 : Int32)), .val (.int (0 : Int32)), .val (.int (0 : Int32))] [])) _
                refine XS.iloadN X89.here hx rfl (hb hby at_37) rfl ?_
                show Steps p.tables e below (T89.setTop (mkF m 38 #[.val (.int p0), .val (.int ((p0 &&& (2147483647 : Int32)) % (12 : Int32))), .val (.ref w_LONG), .val (.int (0 : Int32)), .val (.int (0 : Int32)), .val (.int (0 : Int32))] [(.int (0 : Int32))])) _
                refine XS.ifYes X89.here hx rfl (pc0 := 38) (pc' := 47) rfl (hb hby at_38) rfl ((if0 _ _).trans (teq (by decide : (0 : Int32) = (0 : Int32))).1) (by decide) (by decide) ?_
                show Steps p.tables e below (T89.setTop (mkF m 47 #[.val (.int p0), .val (.int ((p0 &&& (2147483647 : Int32)) % (12 : Int32))), .val (.ref w_LONG), .val (.int (0 : Int32)), .val (.int (0 : Int32)), .val (.int (0 : Int32))] [])) _
                refine XS.aloadN X89.here hx rfl (hb hby at_47) rfl rfl ?_
                show Steps p.tables e below (T89.setTop (mkF m 48 #[.val (.int p0), .val (.int ((p0 &&& (2147483647 : Int32)) % (12 : Int32))), .val (.ref w_LONG), .val (.int (0 : Int32)), .val (.int (0 : Int32)), .val (.int (0 : Int32))] [(.ref w_LONG)])) _
                refine st90.trans ?_
                show Steps p.tables e below (T90.setTop (mkF m 51 #[.val (.int p0), .val (.int ((p0 &&& (2147483647 : Int32)) % (12 : Int32))), .val (.ref w_LONG), .val (.int (0 : Int32)), .val (.int (0 : Int32)), .val (.int (0 : Int32))] [(.int (1 : Int32))])) _
                refine XS.ifNo X90.here hx rfl (hb hby at_51) rfl ((if0 _ _).trans (feq (by decide : ¬ ((1 : Int32) = (0 : Int32)))).1) ?_
                show Steps p.tables e below (T90.setTop (mkF m 54 #[.val (.int p0), .val (.int ((p0 &&& (2147483647 : Int32)) % (12 : Int32))), .val (.ref w_LONG), .val (.int (0 : Int32)), .val (.int (0 : Int32)), .val (.int (0 : Int32))] [])) _
                refine XS.iload X90.here hx rfl (hb hby at_54) rfl ?_
                show Steps p.tables e below (T90.setTop (mkF m 56 #[.val (.int p0), .val (.int ((p0 &&& (2147483647 : Int32)) % (12 : Int32))), .val (.ref w_LONG), .val (.int (0 : Int32)), .val (.int (0 : Int32)), .val (.int (0 : Int32))] [(.int (0 : Int32))])) _
                refine XS.iconst X90.here hx rfl (hb hby at_56) ?_
                show Steps p.tables e below (T90.setTop (mkF m 57 #[.val (.int p0), .val (.int ((p0 &&& (2147483647 : Int32)) % (12 : Int32))), .val (.ref w_LONG), .val (.int (0 : Int32)), .val (.int (0 : Int32)), .val (.int (0 : Int32))] [(.int (1 : Int32)), (.int (0 : Int32))])) _
                refine XS.iadd X90.here hx rfl (hb hby at_57) rfl ?_
                show Steps p.tables e below (T90.setTop (mkF m 58 #[.val (.int p0), .val (.int ((p0 &&& (2147483647 : Int32)) % (12 : Int32))), .val (.ref w_LONG), .val (.int (0 : Int32)), .val (.int (0 : Int32)), .val (.int (0 : Int32))] [(.int ((0 : Int32) + (1 : Int32)))])) _
                refine XS.istore X90.here hx rfl (hb hby at_58) rfl (l' := #[.val (.int p0), .val (.int ((p0 &&& (2147483647 : Int32)) % (12 : Int32))), .val (.ref w_LONG), .val (.int (0 : Int32)), .val (.int (0 : Int32)), .val (.int ((0 : Int32) + (1 : Int32)))]) rfl ?_
                show Steps p.tables e below (T90.setTop (mkF m 60 #[.val (.int p0), .val (.int ((p0 &&& (2147483647 : Int32)) % (12 : Int32))), .val (.ref w_LONG), .val (.int (0 : Int32)), .val (.int (0 : Int32)), .val (.int ((0 : Int32) + (1 : Int32)))] [])) _
                refine XS.aloadN X90.here hx rfl (hb hby at_60) rfl rfl ?_
                show Steps p.tables e below (T90.setTop (mkF m 61 #[.val (.int p0), .val (.int ((p0 &&& (2147483647 : Int32)) % (12 : Int32))), .val (.ref w_LONG), .val (.int (0 : Int32)), .val (.int (0 : Int32)), .val (.int ((0 : Int32) + (1 : Int32)))] [(.ref w_LONG)])) _
                refine st91.trans ?_
                show Steps p.tables e below (T91.setTop (mkF m 64 #[.val (.int p0), .val (.int ((p0 &&& (2147483647 : Int32)) % (12 : Int32))), .val (.ref w_LONG), .val (.int (0 : Int32)), .val (.int (0 : Int32)), .val (.int ((0 : Int32) + (1 : Int32)))] [(.int (0 : Int32))])) _
                refine XS.ifYes X91.here hx rfl (pc0 := 64) (pc' := 73) rfl (hb hby at_64) rfl ((if0 _ _).trans (teq (by decide : (0 : Int32) = (0 : Int32))).1) (by decide) (by decide) ?_
                show Steps p.tables e below (T91.setTop (mkF m 73 #[.val (.int p0), .val (.int ((p0 &&& (2147483647 : Int32)) % (12 : Int32))), .val (.ref w_LONG), .val (.int (0 : Int32)), .val (.int (0 : Int32)), .val (.int ((0 : Int32) + (1 : Int32)))] [])) _
                refine XS.aloadN X91.here hx rfl (hb hby at_73) rfl rfl ?_
                show Steps p.tables e below (T91.setTop (mkF m 74 #[.val (.int p0), .val (.int ((p0 &&& (2147483647 : Int32)) % (12 : Int32))), .val (.ref w_LONG), .val (.int (0 : Int32)), .val (.int (0 : Int32)), .val (.int ((0 : Int32) + (1 : Int32)))] [(.ref w_LONG)])) _
                refine st92.trans ?_
                show Steps p.tables e below (T92.setTop (mkF m 77 #[.val (.int p0), .val (.int ((p0 &&& (2147483647 : Int32)) % (12 : Int32))), .val (.ref w_LONG), .val (.int (0 : Int32)), .val (.int (0 : Int32)), .val (.int ((0 : Int32) + (1 : Int32)))] [(.int (0 : Int32))])) _
                refine XS.ifYes X92.here hx rfl (pc0 := 77) (pc' := 86) rfl (hb hby at_77) rfl ((if0 _ _).trans (teq (by decide : (0 : Int32) = (0 : Int32))).1) (by decide) (by decide) ?_
                show Steps p.tables e below (T92.setTop (mkF m 86 #[.val (.int p0), .val (.int ((p0 &&& (2147483647 : Int32)) % (12 : Int32))), .val (.ref w_LONG), .val (.int (0 : Int32)), .val (.int (0 : Int32)), .val (.int ((0 : Int32) + (1 : Int32)))] [])) _
                refine XS.iloadN X92.here hx rfl (hb hby at_86) rfl ?_
                show Steps p.tables e below (T92.setTop (mkF m 87 #[.val (.int p0), .val (.int ((p0 &&& (2147483647 : Int32)) % (12 : Int32))), .val (.ref w_LONG), .val (.int (0 : Int32)), .val (.int (0 : Int32)), .val (.int ((0 : Int32) + (1 : Int32)))] [(.int (0 : Int32))])) _
                refine XS.iload X92.here hx rfl (hb hby at_87) rfl ?_
                show Steps p.tables e below (T92.setTop (mkF m 89 #[.val (.int p0), .val (.int ((p0 &&& (2147483647 : Int32)) % (12 : Int32))), .val (.ref w_LONG), .val (.int (0 : Int32)), .val (.int (0 : Int32)), .val (.int ((0 : Int32) + (1 : Int32)))] [(.int (0 : Int32)), (.int (0 : Int32))])) _
                refine XS.icmpNo X92.here hx rfl (hb hby at_89) rfl (teq (by decide : (0 : Int32) = (0 : Int32))).2 ?_
                show Steps p.tables e below (T92.setTop (mkF m 92 #[.val (.int p0), .val (.int ((p0 &&& (2147483647 : Int32)) % (12 : Int32))), .val (.ref w_LONG), .val (.int (0 : Int32)), .val (.int (0 : Int32)), .val (.int ((0 : Int32) + (1 : Int32)))] [])) _
                refine XS.iload X92.here hx rfl (hb hby at_92) rfl ?_
                show Steps p.tables e below (T92.setTop (mkF m 94 #[.val (.int p0), .val (.int ((p0 &&& (2147483647 : Int32)) % (12 : Int32))), .val (.ref w_LONG), .val (.int (0 : Int32)), .val (.int (0 : Int32)), .val (.int ((0 : Int32) + (1 : Int32)))] [(.int ((0 : Int32) + (1 : Int32)))])) _
                refine XS.iconst X92.here hx rfl (hb hby at_94) ?_
                show Steps p.tables e below (T92.setTop (mkF m 95 #[.val (.int p0), .val (.int ((p0 &&& (2147483647 : Int32)) % (12 : Int32))), .val (.ref w_LONG), .val (.int (0 : Int32)), .val (.int (0 : Int32)), .val (.int ((0 : Int32) + (1 : Int32)))] [(.int (1 : Int32)), (.int ((0 : Int32) + (1 : Int32)))])) _
                refine XS.icmpNo X92.here hx rfl (hb hby at_95) rfl (teq (by decide : ((0 : Int32) + (1 : Int32)) = (1 : Int32))).2 ?_
                show Steps p.tables e below (T92.setTop (mkF m 98 #[.val (.int p0), .val (.int ((p0 &&& (2147483647 : Int32)) % (12 : Int32))), .val (.ref w_LONG), .val (.int (0 : Int32)), .val (.int (0 : Int32)), .val (.int ((0 : Int32) + (1 : Int32)))] [])) _
                refine XS.iconst X92.here hx rfl (hb hby at_98) ?_
                show Steps p.tables e below (T92.setTop (mkF m 99 #[.val (.int p0), .val (.int ((p0 &&& (2147483647 : Int32)) % (12 : Int32))), .val (.ref w_LONG), .val (.int (0 : Int32)), .val (.int (0 : Int32)), .val (.int ((0 : Int32) + (1 : Int32)))] [(.int (1 : Int32))])) _
                refine XS.goto X92.here hx rfl (pc0 := 99) (pc' := 103) rfl (hb hby at_99) (by decide) (by decide) ?_
                show Steps p.tables e below (T92.setTop (mkF m 103 #[.val (.int p0), .val (.int ((p0 &&& (2147483647 : Int32)) % (12 : Int32))), .val (.ref w_LONG), .val (.int (0 : Int32)), .val (.int (0 : Int32)), .val (.int ((0 : Int32) + (1 : Int32)))] [(.int (1 : Int32))])) _
                exact retN X92 hx (t := .boolean) Bd.returns (by simp) (hb hby at_103) hr
              · show Q_law Z p0 w_BIT w_BOOLEAN w_UNSIGNED_BYTE w_SHORT w_INT w_LONG w_FLOAT w_DOUBLE w_CHAR w_UNICODE_CHAR w_POINT w_CIRCLE mr x_CIRCLE x_POINT h0 n0 _ T92.heap _
                refine ⟨?_, N92, trivial⟩
                rw [F_law, if_neg hs_63, if_neg hs_68, if_neg hs_73, if_neg hs_78, if_neg hs_83, if_pos hs_88]
            · by_cases hs_93 : ((p0 &&& (2147483647 : Int32)) % (12 : Int32)) = (6 : Int32)
              · have q61 : (F_pick ((p0 &&& (2147483647 : Int32)) % (12 : Int32)) w_BIT w_BOOLEAN w_UNSIGNED_BYTE w_SHORT w_INT w_LONG w_FLOAT w_DOUBLE w_CHAR w_UNICODE_CHAR w_POINT w_CIRCLE) = w_FLOAT := by rw [F_pick, if_neg hs_63, if_neg hs_68, if_neg hs_73, if_neg hs_78, if_neg hs_83, if_neg hs_88, if_pos hs_93]
                rw [q61] at st61
                obtain ⟨cq94, kq94, q94a, q94b, q94c⟩ := isOf hZ e61 E_FLOAT
                obtain ⟨_, _, ⟨T94, L94, k94, n94⟩, -, X94, ⟨Lc94, hQ94, l94, y94, z94⟩, st94⟩ := X61.virtualBack hx (y := (⟨"com/example/starquarry/starquarry/model/ColumnType", "isLogical", "()Z"⟩ : MethodName)) (z := (⟨"com/example/starquarry/starquarry/model/ColumnType", "isLogical", "()Z"⟩ : MethodName)) hown (mvT hZ (hw _ (List.mem_of_getElem? (i := 8) rfl))) (mvT hZ (hw _ (List.mem_of_getElem? (i := 9) rfl))) (notFace_of_selects (args := #[]) (mvT hZ (hw _ (List.mem_of_getElem? (i := 11) rfl)))) (mvT hZ (hw _ (List.mem_of_getElem? (i := 11) rfl))) (mvT hZ (hw _ (List.mem_of_getElem? (i := 10) rfl))) (by decide) (backOf (W := 0) (rm_lg l Z a0' hw [] w_FLOAT w_BIT w_BOOLEAN h0 n0 Z0 S_BIT S_BOOLEAN) hZ (hw _ (List.mem_of_getElem? (i := 12) rfl)) (hw _ (List.mem_of_getElem? (i := 6) rfl)) (by decide) (by decide)) q94a q94c (g := (mkF m 14 #[.val (.int p0), .val (.int ((p0 &&& (2147483647 : Int32)) % (12 : Int32))), .val (.ref w_FLOAT), .unset, .unset, .unset] [(.ref w_FLOAT)])) rfl (by rw [hml]; rfl) (Steps.refl _) (argsL := []) (rest := []) (lenOf own_pd2 rfl) rfl (by show 2 * 0 + _ ≤ _; exact Nat.le_of_eq rfl) (hb hby at_14) (fun _ _ => ⟨rfl, e61, (by decide : 0 + 0 ≤ _), (by decide : 0 + 0 ≤ _)⟩)
                dsimp only [Pt.U, Pt.locs, Pt.cells, Pt.slots] at X94 l94 y94 z94 st94 hQ94
                subst l94 y94 z94
                obtain ⟨rfl, N94q, e94⟩ := hQ94
                have N94 := Fr.app N61 N94q
                have q94 : (F_lg w_FLOAT w_BIT w_BOOLEAN) = (0 : Int32) := by rw [F_lg, if_neg ne_FLOAT_BIT, if_neg ne_FLOAT_BOOLEAN]
                rw [q94] at st94
                obtain ⟨cq95, kq95, q95a, q95b, q95c⟩ := isOf hZ e94 E_FLOAT
                obtain ⟨_, _, ⟨T95, L95, k95, n95⟩, -, X95, ⟨Lc95, hQ95, l95, y95, z95⟩, st95⟩ := X94.virtualBack hx (y := (⟨"com/example/starquarry/starquarry/model/ColumnType", "isNumber", "()Z"⟩ : MethodName)) (z := (⟨"com/example/starquarry/starquarry/model/ColumnType", "isNumber", "()Z"⟩ : MethodName)) hown (mvT hZ (hw _ (List.mem_of_getElem? (i := 14) rfl))) (mvT hZ (hw _ (List.mem_of_getElem? (i := 15) rfl))) (notFace_of_selects (args := #[]) (mvT hZ (hw _ (List.mem_of_getElem? (i := 17) rfl)))) (mvT hZ (hw _ (List.mem_of_getElem? (i := 17) rfl))) (mvT hZ (hw _ (List.mem_of_getElem? (i := 16) rfl))) (by decide) (backOf (W := 0) (rm_num l Z a0' hw [] w_FLOAT (6 : Int32) w_UNSIGNED_BYTE w_DOUBLE mr h0 n0 Z0 E_FLOAT FO_FLOAT S_UNSIGNED_BYTE E_UNSIGNED_BYTE S_DOUBLE E_DOUBLE MM FO_UNSIGNED_BYTE FO_DOUBLE) hZ (hw _ (List.mem_of_getElem? (i := 18) rfl)) (hw _ (List.mem_of_getElem? (i := 6) rfl)) (by decide) (by decide)) q95a q95c (g := (mkF m 48 #[.val (.int p0), .val (.int ((p0 &&& (2147483647 : Int32)) % (12 : Int32))), .val (.ref w_FLOAT), .val (.int (0 : Int32)), .val (.int (0 : Int32)), .val (.int (0 : Int32))] [(.ref w_FLOAT)])) rfl (by rw [hml]; rfl) (Steps.refl _) (argsL := []) (rest := []) (lenOf own_pd2 rfl) rfl (by show 2 * 0 + _ ≤ _; exact Nat.le_of_eq rfl) (hb hby at_48) (fun _ _ => ⟨rfl, e94, (by decide : 0 + 0 ≤ _), (by decide : 0 + 0 ≤ _)⟩)
                dsimp only [Pt.U, Pt.locs, Pt.cells, Pt.slots] at X95 l95 y95 z95 st95 hQ95
                subst l95 y95 z95
                obtain ⟨rfl, N95q, e95⟩ := hQ95
                have N95 := Fr.app N94 N95q
                have q95 : (F_num (6 : Int32)) = (1 : Int32) := by unfold F_num F_cmp; decide
                rw [q95] at st95
                obtain ⟨cq96, kq96, q96a, q96b, q96c⟩ := isOf hZ e95 E_FLOAT
                obtain ⟨_, _, ⟨T96, L96, k96, n96⟩, -, X96, ⟨Lc96, hQ96, l96, y96, z96⟩, st96⟩ := X95.virtualBack hx (y := (⟨"com/example/starquarry/starquarry/model/ColumnType", "isText", "()Z"⟩ : MethodName)) (z := (⟨"com/example/starquarry/starquarry/model/ColumnType", "isText", "()Z"⟩ : MethodName)) hown (mvT hZ (hw _ (List.mem_of_getElem? (i := 36) rfl))) (mvT hZ (hw _ (List.mem_of_getElem? (i := 37) rfl))) (notFace_of_selects (args := #[]) (mvT hZ (hw _ (List.mem_of_getElem? (i := 39) rfl)))) (mvT hZ (hw _ (List.mem_of_getElem? (i := 39) rfl))) (mvT hZ (hw _ (List.mem_of_getElem? (i := 38) rfl))) (by decide) (backOf (W := 0) (rm_tx l Z a0' hw [] w_FLOAT w_CHAR w_UNICODE_CHAR h0 n0 Z0 S_CHAR S_UNICODE_CHAR) hZ (hw _ (List.mem_of_getElem? (i := 40) rfl)) (hw _ (List.mem_of_getElem? (i := 6) rfl)) (by decide) (by decide)) q96a q96c (g := (mkF m 61 #[.val (.int p0), .val (.int ((p0 &&& (2147483647 : Int32)) % (12 : Int32))), .val (.ref w_FLOAT), .val (.int (0 : Int32)), .val (.int (0 : Int32)), .val (.int ((0 : Int32) + (1 : Int32)))] [(.ref w_FLOAT)])) rfl (by rw [hml]; rfl) (Steps.refl _) (argsL := []) (rest := []) (lenOf own_pd2 rfl) rfl (by show 2 * 0 + _ ≤ _; exact Nat.le_of_eq rfl) (hb hby at_61) (fun _ _ => ⟨rfl, e95, (by decide : 0 + 0 ≤ _), (by decide : 0 + 0 ≤ _)⟩)
                dsimp only [Pt.U, Pt.locs, Pt.cells, Pt.slots] at X96 l96 y96 z96 st96 hQ96
                subst l96 y96 z96
                obtain ⟨rfl, N96q, e96⟩ := hQ96
                have N96 := Fr.app N95 N96q
                have q96 : (F_tx w_FLOAT w_CHAR w_UNICODE_CHAR) = (0 : Int32) := by rw [F_tx, if_neg ne_FLOAT_CHAR, if_neg ne_FLOAT_UNICODE_CHAR]
                rw [q96] at st96
                obtain ⟨cq97, kq97, q97a, q97b, q97c⟩ := isOf hZ e96 E_FLOAT
                obtain ⟨_, _, ⟨T97, L97, k97, n97⟩, -, X97, ⟨Lc97, hQ97, l97, y97, z97⟩, st97⟩ := X96.virtualBack hx (y := (⟨"com/example/starquarry/starquarry/model/ColumnType", "isGeometry", "()Z"⟩ : MethodName)) (z := (⟨"com/example/starquarry/starquarry/model/ColumnType", "isGeometry", "()Z"⟩ : MethodName)) hown (mvT hZ (hw _ (List.mem_of_getElem? (i := 45) rfl))) (mvT hZ (hw _ (List.mem_of_getElem? (i := 46) rfl))) (notFace_of_selects (args := #[]) (mvT hZ (hw _ (List.mem_of_getElem? (i := 48) rfl)))) (mvT hZ (hw _ (List.mem_of_getElem? (i := 48) rfl))) (mvT hZ (hw _ (List.mem_of_getElem? (i := 47) rfl))) (by decide) (backOf (W := 0) (rm_geoN l Z a0' hw [] w_FLOAT h0 n0 Z0 FX_FLOAT) hZ (hw _ (List.mem_of_getElem? (i := 49) rfl)) (hw _ (List.mem_of_getElem? (i := 6) rfl)) (by decide) (by decide)) q97a q97c (g := (mkF m 74 #[.val (.int p0), .val (.int ((p0 &&& (2147483647 : Int32)) % (12 : Int32))), .val (.ref w_FLOAT), .val (.int (0 : Int32)), .val (.int (0 : Int32)), .val (.int ((0 : Int32) + (1 : Int32)))] [(.ref w_FLOAT)])) rfl (by rw [hml]; rfl) (Steps.refl _) (argsL := []) (rest := []) (lenOf own_pd2 rfl) rfl (by show 2 * 0 + _ ≤ _; exact Nat.le_of_eq rfl) (hb hby at_74) (fun _ _ => ⟨rfl, e96, (by decide : 0 + 0 ≤ _), (by decide : 0 + 0 ≤ _)⟩)
                dsimp only [Pt.U, Pt.locs, Pt.cells, Pt.slots] at X97 l97 y97 z97 st97 hQ97
                subst l97 y97 z97
                obtain ⟨rfl, N97q, e97⟩ := hQ97
                have N97 := Fr.app N96 N97q
                obtain ⟨fs, hr, hrun, hended, hW, hsame⟩ := X97.leave (v := some (.int (1 : Int32))) (fun h => by rw [Bd.returns] at h; cases h)
                refine ⟨_, _, pre62 _ ?_, hrun, hended, _, _, rfl, ?_, ⟨_, rfl⟩, hW, hsame.mono (by decide) (by decide)⟩
                · show Steps p.tables e below (s₁.setTop (mkF m 9 #[.val (.int p0), .val (.int ((p0 &&& (2147483647 : Int32)) % (12 : Int32))), .unset, .unset, .unset, .unset] [(.int ((p0 &&& (2147483647 : Int32)) % (12 : Int32)))])) _
                  refine st61 _ ?_
                  show Steps p.tables e below (T61.setTop (mkF m 12 #[.val (.int p0), .val (.int ((p0 &&& (2147483647 : Int32)) % (12 : Int32))), .unset, .unset, .unset, .unset] [(.ref w_FLOAT)])) _
                  refine XS.astoreN X61.here hx rfl (hb hby at_12) rfl rfl (l' := #[.val (.int p0), .val (.int ((p0 &&& (2147483647 : Int32)) % (12 : Int32))), .val (.ref w_FLOAT), .unset, .unset, .unset]) rfl ?_
                  show Steps p.tables e below (T61.setTop (mkF m 13 #[.val (.int p0), .val (.int ((p0 &&& (2147483647 : Int32)) % (12 : Int32))), .val (.ref w_FLOAT), .unset, .unset, .unset] [])) _
                  refine XS.aloadN X61.here hx rfl (hb hby at_13) rfl rfl ?_
                  show Steps p.tables e below (T61.setTop (mkF m 14 #[.val (.int p0), .val (.int ((p0 &&& (2147483647 : Int32)) % (12 : Int32))), .val (.ref w_FLOAT), .unset, .unset, .unset] [(.ref w_FLOAT)])) _
                  refine st94.trans ?_
                  show Steps p.tables e below (T94.setTop (mkF m 17 #[.val (.int p0), .val (.int ((p0 &&& (2147483647 : Int32)) % (12 : Int32))), .val (.ref w_FLOAT), .unset, .unset, .unset] [(.int (0 : Int32))])) _
                  refine XS.istoreN X94.here hx rfl (hb hby at_17) rfl (l' := #[.val (.int p0), .val (.int ((p0 &&& (2147483647 : Int32)) % (12 : Int32))), .val (.ref w_FLOAT), .val (.int (0 : Int32)), .unset, .unset]) rfl ?_
                  show Steps p.tables e below (T94.setTop (mkF m 18 #[.val (.int p0), .val (.int ((p0 &&& (2147483647 : Int32)) % (12 : Int32))), .val (.ref w_FLOAT), .val (.int (0 : Int32)), .unset, .unset] [])) _
                  refine XS.iloadN X94.here hx rfl (hb hby at_18) rfl ?_
                  show Steps p.tables e below (T94.setTop (mkF m 19 #[.val (.int p0), .val (.int ((p0 &&& (2147483647 : Int32)) % (12 : Int32))), .val (.ref w_FLOAT), .val (.int (0 : Int32)), .unset, .unset] [(.int ((p0 &&& (2147483647 : Int32)) % (12 : Int32)))])) _
                  refine XS.ifNo X94.here hx rfl (hb hby at_19) rfl ((if0 _ _).trans (feq hs_63).1) ?_
                  show Steps p.tables e below (T94.setTop (mkF m 22 #[.val (.int p0), .val (.int ((p0 &&& (2147483647 : Int32)) % (12 : Int32))), .val (.ref w_FLOAT), .val (.int (0 : Int32)), .unset, .unset] [])) _
                  refine XS.iloadN X94.here hx rfl (hb hby at_22) rfl ?_
                  show Steps p.tables e below (T94.setTop (mkF m 23 #[.val (.int p0), .val (.int ((p0 &&& (2147483647 : Int32)) % (12 : Int32))), .val (.ref w_FLOAT), .val (.int (0 : Int32)), .unset, .unset] [(.int ((p0 &&& (2147483647 : Int32)) % (12 : Int32)))])) _
                  refine XS.iconst X94.here hx rfl (hb hby at_23) ?_
                  show Steps p.tables e below (T94.setTop (mkF m 24 #[.val (.int p0), .val (.int ((p0 &&& (2147483647 : Int32)) % (12 : Int32))), .val (.ref w_FLOAT), .val (.int (0 : Int32)), .unset, .unset] [(.int (1 : Int32)), (.int ((p0 &&& (2147483647 : Int32)) % (12 : Int32)))])) _
                  refine XS.icmpYes X94.here hx rfl (pc0 := 24) (pc' := 31) rfl (hb hby at_24) rfl (feq hs_68).2 (by decide) (by decide) ?_
                  show Steps p.tables e below (T94.setTop (mkF m 31 #[.val (.int p0), .val (.int ((p0 &&& (2147483647 : Int32)) % (12 : Int32))), .val (.ref w_FLOAT), .val (.int (0 : Int32)), .unset, .unset] [])) _
                  refine XS.iconst X94.here hx rfl (hb hby at_31) ?_
                  show Steps p.tables e below (T94.setTop (mkF m 32 #[.val (.int p0), .val (.int ((p0 &&& (2147483647 : Int32)) % (12 : Int32))), .val (.ref w_FLOAT), .val (.int (0 : Int32)), .unset, .unset] [(.int (0 : Int32))])) _
                  refine XS.istore X94.here hx rfl (hb hby at_32) rfl (l' := #[.val (.int p0), .val (.int ((p0 &&& (2147483647 : Int32)) % (12 : Int32))), .val (.ref w_FLOAT), .val (.int (0 : Int32)), .val (.int (0 : Int32)), .unset]) rfl ?_
                  show Steps p.tables e below (T94.setTop (mkF m 34 #[.val (.int p0), .val (.int ((p0 &&& (2147483647 : Int32)) % (12 : Int32))), .val (.ref w_FLOAT), .val (.int (0 : Int32)), .val (.int (0 : Int32)), .unset] [])) _
                  refine XS.iconst X94.here hx rfl (hb hby at_34) ?_
                  show Steps p.tables e below (T94.setTop (mkF m 35 #[.val (.int p0), .val (.int ((p0 &&& (2147483647 : Int32)) % (12 : Int32))), .val (.ref w_FLOAT), .val (.int (0 : Int32)), .val (.int (0 : Int32)), .unset] [(.int (0 : Int32))])) _
                  refine XS.istore X94.here hx rfl (hb hby at_35) rfl (l' := #[.val (.int p0), .val (.int ((p0 &&& (2147483647 : Int32)) % (12 : Int32))), .val (.ref w_FLOAT), .val (.int (0 : Int32)), .val (.int (0 : Int32)), .val (.int (0 : Int32))]) rfl ?_
                  show Steps p.tables e below (T94.setTop (mkF m 37 #[.val (.int p0), .val (.int ((p0 &&& (2147483647 : Int32)) % (12 : Int32))), .val (.ref w_FLOAT), .val (.int (0 : Int32)), .val (.int (0 : Int32)), .val (.int (0 : Int32))] [])) _
                  refine XS.iloadN X94.here hx rfl (hb hby at_37) rfl ?_
                  show Steps p.tables e below (T94.setTop (mkF m 38 #[.val (.int p0), .val (.int ((p0 &&& (2147483647 : Int32)) % (12 : Int32))), .val (.ref w_FLOAT), .val (.int (0 : Int32)), .val (.int (0 : Int32)), .val (.int (0 : Int32))] [(.int (0 : Int32))])) _
                  refine XS.ifYes X94.here hx rfl (pc0 := 38) (pc' := 47) rfl (hb hby at_38) rfl ((if0 _ _).trans (teq (by decide : (0 : Int32) = (0 : Int32))).1) (by decide) (by decide) ?_
                  show Steps p.tables e below (T94.setTop (mkF m 47 #[.val (.int p0), .val (.int ((p0 &&& (2147483647 : Int32)) % (12 : Int32))), .val (.ref w_FLOAT), .val (.int (0 : Int32)), .val (.int (0 : Int32)), .val (.int (0 : Int32))] [])) _
                  refine XS.aloadN X94.here hx rfl (hb hby at_47) rfl rfl ?_
                  show Steps p.tables e below (T94.setTop (mkF m 48 #[.val (.int p0), .val (.int ((p0 &&& (2147483647 : Int32)) % (12 : Int32))), .val (.ref w_FLOAT), .val (.int (0 : Int32)), .val (.int (0 : Int32)), .val (.int (0 : Int32))] [(.ref w_FLOAT)])) _
                  refine st95.trans ?_
                  show Steps p.tables e below (T95.setTop (mkF m 51 #[.val (.int p0), .val (.int ((p0 &&& (2147483647 : Int32)) % (12 : Int32))), .val (.ref w_FLOAT), .val (.int (0 : Int32)), .val (.int (0 : Int32)), .val (.int (0 : Int32))] [(.int (1 : Int32))])) _
                  refine XS.ifNo X95.here hx rfl (hb hby at_51) rfl ((if0 _ _).trans (feq (by decide : ¬ ((1 : Int32) = (0 : Int32)))).1) ?_
                  show Steps p.tables e below (T95.setTop (mkF m 54 #[.val (.int p0), .val (.int ((p0 &&& (2147483647 : Int32)) % (12 : Int32))), .val (.ref w_FLOAT), .val (.int (0 : Int32)), .val (.int (0 : Int32)), .val (.int (0 : Int32))] [])) _
                  refine XS.iload X95.here hx rfl (hb hby at_54) rfl ?_
                  show Steps p.tables e below (T95.setTop (mkF m 56 #[.val (.int p0), .val (.int ((p0 &&& (2147483647 : Int32)) % (12 : Int32))), .val (.ref w_FLOAT), .val (.int (0 : Int32)), .val (.int (0 : Int32)), .val (.int (0 : Int32))] [(.int (0 : Int32))])) _
                  refine XS.iconst X95.here hx rfl (hb hby at_56) ?_
                  show Steps p.tables e below (T95.setTop (mkF m 57 #[.val (.int p0), .val (.int ((p0 &&& (2147483647 : Int32)) % (12 : Int32))), .val (.ref w_FLOAT), .val (.int (0 : Int32)), .val (.int (0 : Int32)), .val (.int (0 : Int32))] [(.int (1 : Int32)), (.int (0 : Int32))])) _
                  refine XS.iadd X95.here hx rfl (hb hby at_57) rfl ?_
                  show Steps p.tables e below (T95.setTop (mkF m 58 #[.val (.int p0), .val (.int ((p0 &&& (2147483647 : Int32)) % (12 : Int32))), .val (.ref w_FLOAT), .val (.int (0 : Int32)), .val (.int (0 : Int32)), .val (.int (0 : Int32))] [(.int ((0 : Int32) + (1 : Int32)))])) _
                  refine XS.istore X95.here hx rfl (hb hby at_58) rfl (l' := #[.val (.int p0), .val (.int ((p0 &&& (2147483647 : Int32)) % (12 : Int32))), .val (.ref w_FLOAT), .val (.int (0 : Int32)), .val (.int (0 : Int32)), .val (.int ((0 : Int32) + (1 : Int32)))]) rfl ?_
                  show Steps p.tables e below (T95.setTop (mkF m 60 #[.val (.int p0), .val (.int ((p0 &&& (2147483647 : Int32)) % (12 : Int32))), .val (.ref w_FLOAT), .val (.int (0 : Int32)), .val (.int (0 : Int32)), .val (.int ((0 : Int32) + (1 : Int32)))] [])) _
                  refine XS.aloadN X95.here hx rfl (hb hby at_60) rfl rfl ?_
                  show Steps p.tables e below (T95.setTop (mkF m 61 #[.val (.int p0), .val (.int ((p0 &&& (2147483647 : Int32)) % (12 : Int32))), .val (.ref w_FLOAT), .val (.int (0 : Int32)), .val (.int (0 : Int32)), .val (.int ((0 : Int32) + (1 : Int32)))] [(.ref w_FLOAT)])) _
                  refine st96.trans ?_
                  show Steps p.tables e below (T96.setTop (mkF m 64 #[.val (.int p0), .val (.int ((p0 &&& (2147483647 : Int32)) % (12 : Int32))), .val (.ref w_FLOAT), .val (.int (0 : Int32)), .val (.int (0 : Int32)), .val (.int ((0 : Int32) + (1 : Int32)))] [(.int (0 : Int32))])) _
                  refine XS.ifYes X96.here hx rfl (pc0 := 64) (pc' := 73) rfl (hb hby at_64) rfl ((if0 _ _).trans (teq (by decide : (0 : Int32) = (0 : Int32))).1) (by decide) (by decide) ?_
                  show Steps p.tables e below (T96.setTop (mkF m 73 #[.val (.int p0), .val (.int ((p0 &&& (2147483647 : Int32)) % (12 : Int32))), .val (.ref w_FLOAT), .val (.int (0 : Int32)), .val (.int (0 : Int32)), .val (.int ((0 : Int32) + (1 : Int32)))] [])) _
                  refine XS.aloadN X96.here hx rfl (hb hby at_73) rfl rfl ?_
                  show Steps p.tables e below (T96.setTop (mkF m 74 #[.val (.int p0), .val (.int ((p0 &&& (2147483647 : Int32)) % (12 : Int32))), .val (.ref w_FLOAT), .val (.int (0 : Int32)), .val (.int (0 : Int32)), .val (.int ((0 : Int32) + (1 : Int32)))] [(.ref w_FLOAT)])) _
                  refine st97.trans ?_
                  show Steps p.tables e below (T97.setTop (mkF m 77 #[.val (.int p0), .val (.int ((p0 &&& (2147483647 : Int32)) % (12 : Int32))), .val (.ref w_FLOAT), .val (.int (0 : Int32)), .val (.int (0 : Int32)), .val (.int ((0 : Int32) + (1 : Int32)))] [(.int (0 : Int32))])) _
                  refine XS.ifYes X97.here hx rfl (pc0 := 77) (pc' := 86) rfl (hb hby at_77) rfl ((if0 _ _).trans (teq (by decide : (0 : Int32) = (0 : Int32))).1) (by decide) (by decide) ?_
                  show Steps p.tables e below (T97.setTop (mkF m 86 #[.val (.int p0), .val (.int ((p0 &&& (2147483647 : Int32)) % (12 : Int32))), .val (.ref w_FLOAT), .val (.int (0 : Int32)), .val (.int (0 : Int32)), .val (.int ((0 : Int32) + (1 : Int32)))] [])) _
                  refine XS.iloadN X97.here hx rfl (hb hby at_86) rfl ?_
                  show Steps p.tables e below (T97.setTop (mkF m 87 #[.val (.int p0), .val (.int ((p0 &&& (2147483647 : Int32)) % (12 : Int32))), .val (.ref w_FLOAT), .val (.int (0 : Int32)), .val (.int (0 : Int32)), .val (.int ((0 : Int32) + (1 : Int32)))] [(.int (0 : Int32))])) _
                  refine XS.iload X97.here hx rfl (hb hby at_87) rfl ?_
                  show Steps p.tables e below (T97.setTop (mkF m 89 #[.val (.int p0), .val (.int ((p0 &&& (2147483647 : Int32)) % (12 : Int32))), .val (.ref w_FLOAT), .val (.int (0 : Int32)), .val (.int (0 : Int32)), .val (.int ((0 : Int32) + (1 : Int32)))] [(.int (0 : Int32)), (.int (0 : Int32))])) _
                  refine XS.icmpNo X97.here hx rfl (hb hby at_89) rfl (teq (by decide : (0 : Int32) = (0 : Int32))).2 ?_
                  show Steps p.tables e below (T97.setTop (mkF m 92 #[.val (.int p0), .val (.int ((p0 &&& (2147483647 : Int32)) % (12 : Int32))), .val (.ref w_FLOAT), .val (.int (0 : Int32)), .val (.int (0 : Int32)), .val (.int ((0 : Int32) + (1 : Int32)))] [])) _
                  refine XS.iload X97.here hx rfl (hb hby at_92) rfl ?_
                  show Steps p.tables e below (T97.setTop (mkF m 94 #[.val (.int p0), .val (.int ((p0 &&& (2147483647 : Int32)) % (12 : Int32))), .val (.ref w_FLOAT), .val (.int (0 : Int32)), .val (.int (0 : Int32)), .val (.int ((0 : Int32) + (1 : Int32)))] [(.int ((0 : Int32) + (1 : Int32)))])) _
                  refine XS.iconst X97.here hx rfl (hb hby at_94) ?_
                  show Steps p.tables e below (T97.setTop (mkF m 95 #[.val (.int p0), .val (.int ((p0 &&& (2147483647 : Int32)) % (12 : Int32))), .val (.ref w_FLOAT), .val (.int (0 : Int32)), .val (.int (0 : Int32)), .val (.int ((0 : Int32) + (1 : Int32)))] [(.int (1 : Int32)), (.int ((0 : Int32) + (1 : Int32)))])) _
                  refine XS.icmpNo X97.here hx rfl (hb hby at_95) rfl (teq (by decide : ((0 : Int32) + (1 : Int32)) = (1 : Int32))).2 ?_
                  show Steps p.tables e below (T97.setTop (mkF m 98 #[.val (.int p0), .val (.int ((p0 &&& (2147483647 : Int32)) % (12 : Int32))), .val (.ref w_FLOAT), .val (.int (0 : Int32)), .val (.int (0 : Int32)), .val (.int ((0 : Int32) + (1 : Int32)))] [])) _
                  refine XS.iconst X97.here hx rfl (hb hby at_98) ?_
                  show Steps p.tables e below (T97.setTop (mkF m 99 #[.val (.int p0), .val (.int ((p0 &&& (2147483647 : Int32)) % (12 : Int32))), .val (.ref w_FLOAT), .val (.int (0 : Int32)), .val (.int (0 : Int32)), .val (.int ((0 : Int32) + (1 : Int32)))] [(.int (1 : Int32))])) _
                  refine XS.goto X97.here hx rfl (pc0 := 99) (pc' := 103) rfl (hb hby at_99) (by decide) (by decide) ?_
                  show Steps p.tables e below (T97.setTop (mkF m 103 #[.val (.int p0), .val (.int ((p0 &&& (2147483647 : Int32)) % (12 : Int32))), .val (.ref w_FLOAT), .val (.int (0 : Int32)), .val (.int (0 : Int32)), .val (.int ((0 : Int32) + (1 : Int32)))] [(.int (1 : Int32))])) _
                  exact retN X97 hx (t := .boolean) Bd.returns (by simp) (hb hby at_103) hr
                · show Q_law Z p0 w_BIT w_BOOLEAN w_UNSIGNED_BYTE w_SHORT w_INT w_LONG w_FLOAT w_DOUBLE w_CHAR w_UNICODE_CHAR w_POINT w_CIRCLE mr x_CIRCLE x_POINT h0 n0 _ T97.heap _
                  refine ⟨?_, N97, trivial⟩
                  rw [F_law, if_neg hs_63, if_neg hs_68, if_neg hs_73, if_neg hs_78, if_neg hs_83, if_neg hs_88, if_pos hs_93]
              · by_cases hs_98 : ((p0 &&& (2147483647 : Int32)) % (12 : Int32)) = (7 : Int32)
                · have q61 : (F_pick ((p0 &&& (2147483647 : Int32)) % (12 : Int32)) w_BIT w_BOOLEAN w_UNSIGNED_BYTE w_SHORT w_INT w_LONG w_FLOAT w_DOUBLE w_CHAR w_UNICODE_CHAR w_POINT w_CIRCLE) = w_DOUBLE := by rw [F_pick, if_neg hs_63, if_neg hs_68, if_neg hs_73, if_neg hs_78, if_neg hs_83, if_neg hs_88, if_neg hs_93, if_pos hs_98]
                  rw [q61] at st61
                  obtain ⟨cq99, kq99, q99a, q99b, q99c⟩ := isOf hZ e61 E_DOUBLE
                  obtain ⟨_, _, ⟨T99, L99, k99, n99⟩, -, X99, ⟨Lc99, hQ99, l99, y99, z99⟩, st99⟩ := X61.virtualBack hx (y := (⟨"com/example/starquarry/starquarry/model/ColumnType", "isLogical", "()Z"⟩ : MethodName)) (z := (⟨"com/example/starquarry/starquarry/model/ColumnType", "isLogical", "()Z"⟩ : MethodName)) hown (mvT hZ (hw _ (List.mem_of_getElem? (i := 8) rfl))) (mvT hZ (hw _ (List.mem_of_getElem? (i := 9) rfl))) (notFace_of_selects (args := #[]) (mvT hZ (hw _ (List.mem_of_getElem? (i := 11) rfl)))) (mvT hZ (hw _ (List.mem_of_getElem? (i := 11) rfl))) (mvT hZ (hw _ (List.mem_of_getElem? (i := 10) rfl))) (by decide) (backOf (W := 0) (rm_lg l Z a0' hw [] w_DOUBLE w_BIT w_BOOLEAN h0 n0 Z0 S_BIT S_BOOLEAN) hZ (hw _ (List.mem_of_getElem? (i := 12) rfl)) (hw _ (List.mem_of_getElem? (i := 6) rfl)) (by decide) (by decide)) q99a q99c (g := (mkF m 14 #[.val (.int p0), .val (.int ((p0 &&& (2147483647 : Int32)) % (12 : Int32))), .val (.ref w_DOUBLE), .unset, .unset, .unset] [(.ref w_DOUBLE)])) rfl (by rw [hml]; rfl) (Steps.refl _) (argsL := []) (rest := []) (lenOf own_pd2 rfl) rfl (by show 2 * 0 + _ ≤ _; exact Nat.le_of_eq rfl) (hb hby at_14) (fun _ _ => ⟨rfl, e61, (by decide : 0 + 0 ≤ _), (by decide : 0 + 0 ≤ _)⟩)
                  dsimp only [Pt.U, Pt.locs, Pt.cells, Pt.slots] at X99 l99 y99 z99 st99 hQ99
                  subst l99 y99 z99
                  obtain ⟨rfl, N99q, e99⟩ := hQ99
                  have N99 := Fr.app N61 N99q
                  have q99 : (F_lg w_DOUBLE w_BIT w_BOOLEAN) = (0 : Int32) := by rw [F_lg, if_neg ne_DOUBLE_BIT, if_neg ne_DOUBLE_BOOLEAN]
                  rw [q99] at st99
                  obtain ⟨cq100, kq100, q100a, q100b, q100c⟩ := isOf hZ e99 E_DOUBLE
                  obtain ⟨_, _, ⟨T100, L100, k100, n100⟩, -, X100, ⟨Lc100, hQ100, l100, y100, z100⟩, st100⟩ := X99.virtualBack hx (y := (⟨"com/example/starquarry/starquarry/model/ColumnType", "isNumber", "()Z"⟩ : MethodName)) (z := (⟨"com/example/starquarry/starquarry/model/ColumnType", "isNumber", "()Z"⟩ : MethodName)) hown (mvT hZ (hw _ (List.mem_of_getElem? (i := 14) rfl))) (mvT hZ (hw _ (List.mem_of_getElem? (i := 15) rfl))) (notFace_of_selects (args := #[]) (mvT hZ (hw _ (List.mem_of_getElem? (i := 17) rfl)))) (mvT hZ (hw _ (List.mem_of_getElem? (i := 17) rfl))) (mvT hZ (hw _ (List.mem_of_getElem? (i := 16) rfl))) (by decide) (backOf (W := 0) (rm_num l Z a0' hw [] w_DOUBLE (7 : Int32) w_UNSIGNED_BYTE w_DOUBLE mr h0 n0 Z0 E_DOUBLE FO_DOUBLE S_UNSIGNED_BYTE E_UNSIGNED_BYTE S_DOUBLE E_DOUBLE MM FO_UNSIGNED_BYTE FO_DOUBLE) hZ (hw _ (List.mem_of_getElem? (i := 18) rfl)) (hw _ (List.mem_of_getElem? (i := 6) rfl)) (by decide) (by decide)) q100a q100c (g := (mkF m 48 #[.val (.int p0), .val (.int ((p0 &&& (2147483647 : Int32)) % (12 : Int32))), .val (.ref w_DOUBLE), .val (.int (0 : Int32)), .val (.int (0 : Int32)), .val (.int (0 : Int32))] [(.ref w_DOUBLE)])) rfl (by rw [hml]; rfl) (Steps.refl _) (argsL := []) (rest := []) (lenOf own_pd2 rfl) rfl (by show 2 * 0 + _ ≤ _; exact Nat.le_of_eq rfl) (hb hby at_48) (fun _ _ => ⟨rfl, e99, (by decide : 0 + 0 ≤ _), (by decide : 0 + 0 ≤ _)⟩)
                  dsimp only [Pt.U, Pt.locs, Pt.cells, Pt.slots] at X100 l100 y100 z100 st100 hQ100
                  subst l100 y100 z100
                  obtain ⟨rfl, N100q, e100⟩ := hQ100
                  have N100 := Fr.app N99 N100q
                  have q100 : (F_num (7 : Int32)) = (1 : Int32) := by unfold F_num F_cmp; decide
                  rw [q100] at st100
                  obtain ⟨cq101, kq101, q101a, q101b, q101c⟩ := isOf hZ e100 E_DOUBLE
                  obtain ⟨_, _, ⟨T101, L101, k101, n101⟩, -, X101, ⟨Lc101, hQ101, l101, y101, z101⟩, st101⟩ := X100.virtualBack hx (y := (⟨"com/example/starquarry/starquarry/model/ColumnType", "isText", "()Z"⟩ : MethodName)) (z := (⟨"com/example/starquarry/starquarry/model/ColumnType", "isText", "()Z"⟩ : MethodName)) hown (mvT hZ (hw _ (List.mem_of_getElem? (i := 36) rfl))) (mvT hZ (hw _ (List.mem_of_getElem? (i := 37) rfl))) (notFace_of_selects (args := #[]) (mvT hZ (hw _ (List.mem_of_getElem? (i := 39) rfl)))) (mvT hZ (hw _ (List.mem_of_getElem? (i := 39) rfl))) (mvT hZ (hw _ (List.mem_of_getElem? (i := 38) rfl))) (by decide) (backOf (W := 0) (rm_tx l Z a0' hw [] w_DOUBLE w_CHAR w_UNICODE_CHAR h0 n0 Z0 S_CHAR S_UNICODE_CHAR) hZ (hw _ (List.mem_of_getElem? (i := 40) rfl)) (hw _ (List.mem_of_getElem? (i := 6) rfl)) (by decide) (by decide)) q101a q101c (g := (mkF m 61 #[.val (.int p0), .val (.int ((p0 &&& (2147483647 : Int32)) % (12 : Int32))), .val (.ref w_DOUBLE), .val (.int (0 : Int32)), .val (.int (0 : Int32)), .val (.int ((0 : Int32) + (1 : Int32)))] [(.ref w_DOUBLE)])) rfl (by rw [hml]; rfl) (Steps.refl _) (argsL := []) (rest := []) (lenOf own_pd2 rfl) rfl (by show 2 * 0 + _ ≤ _; exact Nat.le_of_eq rfl) (hb hby at_61) (fun _ _ => ⟨rfl, e100, (by decide : 0 + 0 ≤ _), (by decide : 0 + 0 ≤ _)⟩)
                  dsimp only [Pt.U, Pt.locs, Pt.cells, Pt.slots] at X101 l101 y101 z101 st101 hQ101
                  subst l101 y101 z101
                  obtain ⟨rfl, N101q, e101⟩ := hQ101
                  have N101 := Fr.app N100 N101q
                  have q101 : (F_tx w_DOUBLE w_CHAR w_UNICODE_CHAR) = (0 : Int32) := by rw [F_tx, if_neg ne_DOUBLE_CHAR, if_neg ne_DOUBLE_UNICODE_CHAR]
                  rw [q101] at st101
                  obtain ⟨cq102, kq102, q102a, q102b, q102c⟩ := isOf hZ e101 E_DOUBLE
                  obtain ⟨_, _, ⟨T102, L102, k102, n102⟩, -, X102, ⟨Lc102, hQ102, l102, y102, z102⟩, st102⟩ := X101.virtualBack hx (y := (⟨"com/example/starquarry/starquarry/model/ColumnType", "isGeometry", "()Z"⟩ : MethodName)) (z := (⟨"com/example/starquarry/starquarry/model/ColumnType", "isGeometry", "()Z"⟩ : MethodName)) hown (mvT hZ (hw _ (List.mem_of_getElem? (i := 45) rfl))) (mvT hZ (hw _ (List.mem_of_getElem? (i := 46) rfl))) (notFace_of_selects (args := #[]) (mvT hZ (hw _ (List.mem_of_getElem? (i := 48) rfl)))) (mvT hZ (hw _ (List.mem_of_getElem? (i := 48) rfl))) (mvT hZ (hw _ (List.mem_of_getElem? (i := 47) rfl))) (by decide) (backOf (W := 0) (rm_geoN l Z a0' hw [] w_DOUBLE h0 n0 Z0 FX_DOUBLE) hZ (hw _ (List.mem_of_getElem? (i := 49) rfl)) (hw _ (List.mem_of_getElem? (i := 6) rfl)) (by decide) (by decide)) q102a q102c (g := (mkF m 74 #[.val (.int p0), .val (.int ((p0 &&& (2147483647 : Int32)) % (12 : Int32))), .val (.ref w_DOUBLE), .val (.int (0 : Int32)), .val (.int (0 : Int32)), .val (.int ((0 : Int32) + (1 : Int32)))] [(.ref w_DOUBLE)])) rfl (by rw [hml]; rfl) (Steps.refl _) (argsL := []) (rest := []) (lenOf own_pd2 rfl) rfl (by show 2 * 0 + _ ≤ _; exact Nat.le_of_eq rfl) (hb hby at_74) (fun _ _ => ⟨rfl, e101, (by decide : 0 + 0 ≤ _), (by decide : 0 + 0 ≤ _)⟩)
                  dsimp only [Pt.U, Pt.locs, Pt.cells, Pt.slots] at X102 l102 y102 z102 st102 hQ102
                  subst l102 y102 z102
                  obtain ⟨rfl, N102q, e102⟩ := hQ102
                  have N102 := Fr.app N101 N102q
                  obtain ⟨fs, hr, hrun, hended, hW, hsame⟩ := X102.leave (v := some (.int (1 : Int32))) (fun h => by rw [Bd.returns] at h; cases h)
                  refine ⟨_, _, pre62 _ ?_, hrun, hended, _, _, rfl, ?_, ⟨_, rfl⟩, hW, hsame.mono (by decide) (by decide)⟩
                  · show Steps p.tables e below (s₁.setTop (mkF m 9 #[.val (.int p0), .val (.int ((p0 &&& (2147483647 : Int32)) % (12 : Int32))), .unset, .unset, .unset, .unset] [(.int ((p0 &&& (2147483647 : Int32)) % (12 : Int32)))])) _
                    refine st61 _ ?_
                    show Steps p.tables e below (T61.setTop (mkF m 12 #[.val (.int p0), .val (.int ((p0 &&& (2147483647 : Int32)) % (12 : Int32))), .unset, .unset, .unset, .unset] [(.ref w_DOUBLE)])) _
                    refine XS.astoreN X61.here hx rfl (hb hby at_12) rfl rfl (l' := #[.val (.int p0), .val (.int ((p0 &&& (2147483647 : Int32)) % (12 : Int32))), .val (.ref w_DOUBLE), .unset, .unset, .unset]) rfl ?_
                    show Steps p.tables e below (T61.setTop (mkF m 13 #[.val (.int p0), .val (.int ((p0 &&& (2147483647 : Int32)) % (12 : Int32))), .val (.ref w_DOUBLE), .unset, .unset, .unset] [])) _
                    refine XS.aloadN X61.here hx rfl (hb hby at_13) rfl rfl ?_
                    show Steps p.tables e below (T61.setTop (mkF m 14 #[.val (.int p0), .val (.int ((p0 &&& (2147483647 : Int32)) % (12 : Int32))), .val (.ref w_DOUBLE), .unset, .unset, .unset] [(.ref w_DOUBLE)])) _
                    refine st99.trans ?_
                    show Steps p.tables e below (T99.setTop (mkF m 17 #[.val (.int p0), .val (.int ((p0 &&& (2147483647 : Int32)) % (12 : Int32))), .val (.ref w_DOUBLE), .unset, .unset, .unset] [(.int (0 : Int32))])) _
                    refine XS.istoreN X99.here hx rfl (hb hby at_17) rfl (l' := #[.val (.int p0), .val (.int ((p0 &&& (2147483647 : Int32)) % (12 : Int32))), .val (.ref w_DOUBLE), .val (.int (0 : Int32)), .unset, .unset]) rfl ?_
                    show Steps p.tables e below (T99.setTop (mkF m 18 #[.val (.int p0), .val (.int ((p0 &&& (2147483647 : Int32)) % (12 : Int32))), .val (.ref w_DOUBLE), .val (.int (0 : Int32)), .unset, .unset] [])) _
                    refine XS.iloadN X99.here hx rfl (hb hby at_18) rfl ?_
                    show Steps p.tables e below (T99.setTop (mkF m 19 #[.val (.int p0), .val (.int ((p0 &&& (2147483647 : Int32)) % (12 : Int32))), .val (.ref w_DOUBLE), .val (.int (0 : Int32)), .unset, .unset] [(.int ((p0 &&& (2147483647 : Int32)) % (12 : Int32)))])) _
                    refine XS.ifNo X99.here hx rfl (hb hby at_19) rfl ((if0 _ _).trans (feq hs_63).1) ?_
                    show Steps p.tables e below (T99.setTop (mkF m 22 #[.val (.int p0), .val (.int ((p0 &&& (2147483647 : Int32)) % (12 : Int32))), .val (.ref w_DOUBLE), .val (.int (0 : Int32)), .unset, .unset] [])) _
                    refine XS.iloadN X99.here hx rfl (hb hby at_22) rfl ?_
                    show Steps p.tables e below (T99.setTop (mkF m 23 #[.val (.int p0), .val (.int ((p0 &&& (2147483647 : Int32)) % (12 : Int32))), .val (.ref w_DOUBLE), .val (.int (0 : Int32)), .unset, .unset] [(.int ((p0 &&& (2147483647 : Int32)) % (12 : Int32)))])) _
                    refine XS.iconst X99.here hx rfl (hb hby at_23) ?_
                    show Steps p.tables e below (T99.setTop (mkF m 24 #[.val (.int p0), .val (.int ((p0 &&& (2147483647 : Int32)) % (12 : Int32))), .val (.ref w_DOUBLE), .val (.int (0 : Int32)), .unset, .unset] [(.int (1 : Int32)), (.int ((p0 &&& (2147483647 : Int32)) % (12 : Int32)))])) _
                    refine XS.icmpYes X99.here hx rfl (pc0 := 24) (pc' := 31) rfl (hb hby at_24) rfl (feq hs_68).2 (by decide) (by decide) ?_
                    show Steps p.tables e below (T99.setTop (mkF m 31 #[.val (.int p0), .val (.int ((p0 &&& (2147483647 : Int32)) % (12 : Int32))), .val (.ref w_DOUBLE), .val (.int (0 : Int32)), .unset, .unset] [])) _
                    refine XS.iconst X99.here hx rfl (hb hby at_31) ?_
                    show Steps p.tables e below (T99.setTop (mkF m 32 #[.val (.int p0), .val (.int ((p0 &&& (2147483647 : Int32)) % (12 : Int32))), .val (.ref w_DOUBLE), .val (.int (0 : Int32)), .unset, .unset] [(.int (0 : Int32))])) _
                    refine XS.istore X99.here hx rfl (hb hby at_32) rfl (l' := #[.val (.int p0), .val (.int ((p0 &&& (2147483647 : Int32)) % (12 : Int32))), .val (.ref w_DOUBLE), .val (.int (0 : Int32)), .val (.int (0 : Int32)), .unset]) rfl ?_
                    show Steps p.tables e below (T99.setTop (mkF m 34 #[.val (.int p0), .val (.int ((p0 &&& (2147483647 : Int32)) % (12 : Int32))), .val (.ref w_DOUBLE), .val (.int (0 : Int32)), .val (.int (0 : Int32)), .unset] [])) _
                    refine XS.iconst X99.here hx rfl (hb hby at_34) ?_
                    show Steps p.tables e below (T99.setTop (mkF m 35 #[.val (.int p0), .val (.int ((p0 &&& (2147483647 : Int32)) % (12 : Int32))), .val (.ref w_DOUBLE), .val (.int (0 : Int32)), .val (.int (0 : Int32)), .unset] [(.int (0 : Int32))])) _
                    refine XS.istore X99.here hx rfl (hb hby at_35) rfl (l' := #[.val (.int p0), .val (.int ((p0 &&& (2147483647 : Int32)) % (12 : Int32))), .val (.ref w_DOUBLE), .val (.int (0 : Int32)), .val (.int (0 : Int32)), .val (.int (0 : Int32))]) rfl ?_
                    show Steps p.tables e below (T99.setTop (mkF m 37 #[.val (.int p0), .val (.int ((p0 &&& (2147483647 : Int32)) % (12 : Int32))), .val (.ref w_DOUBLE), .val (.int (0 : Int32)), .val (.int (0 : Int32)), .val (.int (0 : Int32))] [])) _
                    refine XS.iloadN X99.here hx rfl (hb hby at_37) rfl ?_
                    show Steps p.tables e below (T99.setTop (mkF m 38 #[.val (.int p0), .val (.int ((p0 &&& (2147483647 : Int32)) % (12 : Int32))), .val (.ref w_DOUBLE), .val (.int (0 : Int32)), .val (.int (0 : Int32)), .val (.int (0 : Int32))] [(.int (0 : Int32))])) _
                    refine XS.ifYes X99.here hx rfl (pc0 := 38) (pc' := 47) rfl (hb hby at_38) rfl ((if0 _ _).trans (teq (by decide : (0 : Int32) = (0 : Int32))).1) (by decide) (by decide) ?_
                    show Steps p.tables e below (T99.setTop (mkF m 47 #[.val (.int p0), .val (.int ((p0 &&& (2147483647 : Int32)) % (12 : Int32))), .val (.ref w_DOUBLE), .val (.int (0 : Int32)), .val (.int (0 : Int32)), .val (.int (0 : Int32))] [])) _
                    refine XS.aloadN X99.here hx rfl (hb hby at_47) rfl rfl ?_
                    show Steps p.tables e below (T99.setTop (mkF m 48 #[.val (.int p0), .val (.int ((p0 &&& (2147483647 : Int32)) % (12 : Int32))), .val (.ref w_DOUBLE), .val (.int (0 : Int32)), .val (.int (0 : Int32)), .val (.int (0 : Int32))] [(.ref w_DOUBLE)])) _
                    refine st100.trans ?_
                    show Steps p.tables e below (T100.setTop (mkF m 51 #[.val (.int p0), .val (.int ((p0 &&& (2147483647 : Int32)) % (12 : Int32))), .val (.ref w_DOUBLE), .val (.int (0 : Int32)), .val (.int (0 : Int32)), .val (.int (0 : Int32))] [(.int (1 : Int32))])) _
                    refine XS.ifNo X100.here hx rfl (hb hby at_51) rfl ((if0 _ _).trans (feq (by decide : ¬ ((1 : Int32) = (0 : Int32)))).1) ?_
                    show Steps p.tables e below (T100.setTop (mkF m 54 #[.val (.int p0), .val (.int ((p0 &&& (2147483647 : Int32)) % (12 : Int32))), .val (.ref w_DOUBLE), .val (.int (0 : Int32)), .val (.int (0 : Int32)), .val (.int (0 : Int32))] [])) _
                    refine XS.iload X100.here hx rfl (hb hby at_54) rfl ?_
                    show Steps p.tables e below (T100.setTop (mkF m 56 #[.val (.int p0), .val (.int ((p0 &&& (2147483647 : Int32)) % (12 : Int32))), .val (.ref w_DOUBLE), .val (.int (0 : Int32)), .val (.int (0 : Int32)), .val (.int (0 : Int32))] [(.int (0 : Int32))])) _
                    refine XS.iconst X100.here hx rfl (hb hby at_56) ?_
                    show Steps p.tables e below (T100.setTop (mkF m 57 #[.val (.int p0), .val (.int ((p0 &&& (2147483647 : Int32)) % (12 : Int32))), .val (.ref w_DOUBLE), .val (.int (0 : Int32)), .val (.int (0 : Int32)), .val (.int (0 : Int32))] [(.int (1 : Int32)), (.int (0 : Int32))])) _
                    refine XS.iadd X100.here hx rfl (hb hby at_57) rfl ?_
                    show Steps p.tables e below (T100.setTop (mkF m 58 #[.val (.int p0), .val (.int ((p0 &&& (2147483647 : Int32)) % (12 : Int32))), .val (.ref w_DOUBLE), .val (.int (0 : Int32)), .val (.int (0 : Int32)), .val (.int (0 : Int32))] [(.int ((0 : Int32) + (1 : Int32)))])) _
                    refine XS.istore X100.here hx rfl (hb hby at_58) rfl (l' := #[.val (.int p0), .val (.int ((p0 &&& (2147483647 : Int32)) % (12 : Int32))), .val (.ref w_DOUBLE), .val (.int (0 : Int32)), .val (.int (0 : Int32)), .val (.int ((0 : Int32) + (1 : Int32)))]) rfl ?_
                    show Steps p.tables e below (T100.setTop (mkF m 60 #[.val (.int p0), .val (.int ((p0 &&& (2147483647 : Int32)) % (12 : Int32))), .val (.ref w_DOUBLE), .val (.int (0 : Int32)), .val (.int (0 : Int32)), .val (.int ((0 : Int32) + (1 : Int32)))] [])) _
                    refine XS.aloadN X100.here hx rfl (hb hby at_60) rfl rfl ?_
                    show Steps p.tables e below (T100.setTop (mkF m 61 #[.val (.int p0), .val (.int ((p0 &&& (2147483647 : Int32)) % (12 : Int32))), .val (.ref w_DOUBLE), .val (.int (0 : Int32)), .val (.int (0 : Int32)), .val (.int ((0 : Int32) + (1 : Int32)))] [(.ref w_DOUBLE)])) _
                    refine st101.trans ?_
                    show Steps p.tables e below (T101.setTop (mkF m 64 #[.val (.int p0), .val (.int ((p0 &&& (2147483647 : Int32)) % (12 : Int32))), .val (.ref w_DOUBLE), .val (.int (0 : Int32)), .val (.int (0 : Int32)), .val (.int ((0 : Int32) + (1 : Int32)))] [(.int (0 : Int32))])) _
                    refine XS.ifYes X101.here hx rfl (pc0 := 64) (pc' := 73) rfl (hb hby at_64) rfl ((if0 _ _).trans (teq (by decide : (0 : Int32) = (0 : Int32))).1) (by decide) (by decide) ?_
                    show Steps p.tables e below (T101.setTop (mkF m 73 #[.val (.int p0), .val (.int ((p0 &&& (2147483647 : Int32)) % (12 : Int32))), .val (.ref w_DOUBLE), .val (.int (0 : Int32)), .val (.int (0 : Int32)), .val (.int ((0 : Int32) + (1 : Int32)))] [])) _
                    refine XS.aloadN X101.here hx rfl (hb hby at_73) rfl rfl ?_
                    show Steps p.tables e below (T101.setTop (mkF m 74 #[.val (.int p0), .val (.int ((p0 &&& (2147483647 : Int32)) % (12 : Int32))), .val (.ref w_DOUBLE), .val (.int (0 : Int32)), .val (.int (0 : Int32)), .val (.int ((0 : Int32) + (1 : Int32)))] [(.ref w_DOUBLE)])) _
                    refine st102.trans ?_
                    show Steps p.tables e below (T102.setTop (mkF m 77 #[.val (.int p0), .val (.int ((p0 &&& (2147483647 : Int32)) % (12 : Int32))), .val (.ref w_DOUBLE), .val (.int (0 : Int32)), .val (.int (0 : Int32)), .val (.int ((0 : Int32) + (1 : Int32)))] [(.int (0 : Int32))])) _
                    refine XS.ifYes X102.here hx rfl (pc0 := 77) (pc' := 86) rfl (hb hby at_77) rfl ((if0 _ _).trans (teq (by decide : (0 : Int32) = (0 : Int32))).1) (by decide) (by decide) ?_
                    show Steps p.tables e below (T102.setTop (mkF m 86 #[.val (.int p0), .val (.int ((p0 &&& (2147483647 : Int32)) % (12 : Int32))), .val (.ref w_DOUBLE), .val (.int (0 : Int32)), .val (.int (0 : Int32)), .val (.int ((0 : Int32) + (1 : Int32)))] [])) _
                    refine XS.iloadN X102.here hx rfl (hb hby at_86) rfl ?_
                    show Steps p.tables e below (T102.setTop (mkF m 87 #[.val (.int p0), .val (.int ((p0 &&& (2147483647 : Int32)) % (12 : Int32))), .val (.ref w_DOUBLE), .val (.int (0 : Int32)), .val (.int (0 : Int32)), .val (.int ((0 : Int32) + (1 : Int32)))] [(.int (0 : Int32))])) _
                    refine XS.iload X102.here hx rfl (hb hby at_87) rfl ?_
                    show Steps p.tables e below (T102.setTop (mkF m 89 #[.val (.int p0), .val (.int ((p0 &&& (2147483647 : Int32)) % (12 : Int32))), .val (.ref w_DOUBLE), .val (.int (0 : Int32)), .val (.int (0 : Int32)), .val (.int ((0 : Int32) + (1 : Int32)))] [(.int (0 : Int32)), (.int (0 : Int32))])) _
                    refine XS.icmpNo X102.here hx rfl (hb hby at_89) rfl (teq (by decide : (0 : Int32) = (0 : Int32))).2 ?_
                    show Steps p.tables e below (T102.setTop (mkF m 92 #[.val (.int p0), .val (.int ((p0 &&& (2147483647 : Int32)) % (12 : Int32))), .val (.ref w_DOUBLE), .val (.int (0 : Int32)), .val (.int (0 : Int32)), .val (.int ((0 : Int32) + (1 : Int32)))] [])) _
                    refine XS.iload X102.here hx rfl (hb hby at_92) rfl ?_
                    show Steps p.tables e below (T102.setTop (mkF m 94 #[.val (.int p0), .val (.int ((p0 &&& (2147483647 : Int32)) % (12 : Int32))), .val (.ref w_DOUBLE), .val (.int (0 : Int32)), .val (.int (0 : Int32)), .val (.int ((0 : Int32) + (1 : Int32)))] [(.int ((0 : Int32) + (1 : Int32)))])) _
                    refine XS.iconst X102.here hx rfl (hb hby at_94) ?_
                    show Steps p.tables e below (T102.setTop (mkF m 95 #[.val (.int p0), .val (.int ((p0 &&& (2147483647 : Int32)) % (12 : Int32))), .val (.ref w_DOUBLE), .val (.int (0 : Int32)), .val (.int (0 : Int32)), .val (.int ((0 : Int32) + (1 : Int32)))] [(.int (1 : Int32)), (.int ((0 : Int32) + (1 : Int32)))])) _
                    refine XS.icmpNo X102.here hx rfl (hb hby at_95) rfl (teq (by decide : ((0 : Int32) + (1 : Int32)) = (1 : Int32))).2 ?_
                    show Steps p.tables e below (T102.setTop (mkF m 98 #[.val (.int p0), .val (.int ((p0 &&& (2147483647 : Int32)) % (12 : Int32))), .val (.ref w_DOUBLE), .val (.int (0 : Int32)), .val (.int (0 : Int32)), .val (.int ((0 : Int32) + (1 : Int32)))] [])) _
                    refine XS.iconst X102.here hx rfl (hb hby at_98) ?_
                    show Steps p.tables e below (T102.setTop (mkF m 99 #[.val (.int p0), .val (.int ((p0 &&& (2147483647 : Int32)) % (12 : Int32))), .val (.ref w_DOUBLE), .val (.int (0 : Int32)), .val (.int (0 : Int32)), .val (.int ((0 : Int32) + (1 : Int32)))] [(.int (1 : Int32))])) _
                    refine XS.goto X102.here hx rfl (pc0 := 99) (pc' := 103) rfl (hb hby at_99) (by decide) (by decide) ?_
                    show Steps p.tables e below (T102.setTop (mkF m 103 #[.val (.int p0), .val (.int ((p0 &&& (2147483647 : Int32)) % (12 : Int32))), .val (.ref w_DOUBLE), .val (.int (0 : Int32)), .val (.int (0 : Int32)), .val (.int ((0 : Int32) + (1 : Int32)))] [(.int (1 : Int32))])) _
                    exact retN X102 hx (t := .boolean) Bd.returns (by simp) (hb hby at_103) hr
                  · show Q_law Z p0 w_BIT w_BOOLEAN w_UNSIGNED_BYTE w_SHORT w_INT w_LONG w_FLOAT w_DOUBLE w_CHAR w_UNICODE_CHAR w_POINT w_CIRCLE mr x_CIRCLE x_POINT h0 n0 _ T102.heap _
                    refine ⟨?_, N102, trivial⟩
                    rw [F_law, if_neg hs_63, if_neg hs_68, if_neg hs_73, if_neg hs_78, if_neg hs_83, if_neg hs_88, if_neg hs_93, if_pos hs_98]
                · by_cases hs_103 : ((p0 &&& (2147483647 : Int32)) % (12 : Int32)) = (8 : Int32)
                  · have q61 : (F_pick ((p0 &&& (2147483647 : Int32)) % (12 : Int32)) w_BIT w_BOOLEAN w_UNSIGNED_BYTE w_SHORT w_INT w_LONG w_FLOAT w_DOUBLE w_CHAR w_UNICODE_CHAR w_POINT w_CIRCLE) = w_CHAR := by rw [F_pick, if_neg hs_63, if_neg hs_68, if_neg hs_73, if_neg hs_78, if_neg hs_83, if_neg hs_88, if_neg hs_93, if_neg hs_98, if_pos hs_103]
                    rw [q61] at st61
                    obtain ⟨cq104, kq104, q104a, q104b, q104c⟩ := isOf hZ e61 E_CHAR
                    obtain ⟨_, _, ⟨T104, L104, k104, n104⟩, -, X104, ⟨Lc104, hQ104, l104, y104, z104⟩, st104⟩ := X61.virtualBack hx (y := (⟨"com/example/starquarry/starquarry/model/ColumnType", "isLogical", "()Z"⟩ : MethodName)) (z := (⟨"com/example/starquarry/starquarry/model/ColumnType", "isLogical", "()Z"⟩ : MethodName)) hown (mvT hZ (hw _ (List.mem_of_getElem? (i := 8) rfl))) (mvT hZ (hw _ (List.mem_of_getElem? (i := 9) rfl))) (notFace_of_selects (args := #[]) (mvT hZ (hw _ (List.mem_of_getElem? (i := 11) rfl)))) (mvT hZ (hw _ (List.mem_of_getElem? (i := 11) rfl))) (mvT hZ (hw _ (List.mem_of_getElem? (i := 10) rfl))) (by decide) (backOf (W := 0) (rm_lg l Z a0' hw [] w_CHAR w_BIT w_BOOLEAN h0 n0 Z0 S_BIT S_BOOLEAN) hZ (hw _ (List.mem_of_getElem? (i := 12) rfl)) (hw _ (List.mem_of_getElem? (i := 6) rfl)) (by decide) (by decide)) q104a q104c (g := (mkF m 14 #[.val (.int p0), .val (.int ((p0 &&& (2147483647 : Int32)) % (12 : Int32))), .val (.ref w_CHAR), .unset, .unset, .unset] [(.ref w_CHAR)])) rfl (by rw [hml]; rfl) (Steps.refl _) (argsL := []) (rest := []) (lenOf own_pd2 rfl) rfl (by show 2 * 0 + _ ≤ _; exact Nat.le_of_eq rfl) (hb hby at_14) (fun _ _ => ⟨rfl, e61, (by decide : 0 + 0 ≤ _), (by decide : 0 + 0 ≤ _)⟩)
                    dsimp only [Pt.U, Pt.locs, Pt.cells, Pt.slots] at X104 l104 y104 z104 st104 hQ104
                    subst l104 y104 z104
                    obtain ⟨rfl, N104q, e104⟩ := hQ104
                    have N104 := Fr.app N61 N104q
                    have q104 : (F_lg w_CHAR w_BIT w_BOOLEAN) = (0 : Int32) := by rw [F_lg, if_neg ne_CHAR_BIT, if_neg ne_CHAR_BOOLEAN]
                    rw [q104] at st104
                    obtain ⟨cq105, kq105, q105a, q105b, q105c⟩ := isOf hZ e104 E_CHAR
                    obtain ⟨_, _, ⟨T105, L105, k105, n105⟩, -, X105, ⟨Lc105, hQ105, l105, y105, z105⟩, st105⟩ := X104.virtualBack hx (y := (⟨"com/example/starquarry/starquarry/model/ColumnType", "isNumber", "()Z"⟩ : MethodName)) (z := (⟨"com/example/starquarry/starquarry/model/ColumnType", "isNumber", "()Z"⟩ : MethodName)) hown (mvT hZ (hw _ (List.mem_of_getElem? (i := 14) rfl))) (mvT hZ (hw _ (List.mem_of_getElem? (i := 15) rfl))) (notFace_of_selects (args := #[]) (mvT hZ (hw _ (List.mem_of_getElem? (i := 17) rfl)))) (mvT hZ (hw _ (List.mem_of_getElem? (i := 17) rfl))) (mvT hZ (hw _ (List.mem_of_getElem? (i := 16) rfl))) (by decide) (backOf (W := 0) (rm_num l Z a0' hw [] w_CHAR (8 : Int32) w_UNSIGNED_BYTE w_DOUBLE mr h0 n0 Z0 E_CHAR FO_CHAR S_UNSIGNED_BYTE E_UNSIGNED_BYTE S_DOUBLE E_DOUBLE MM FO_UNSIGNED_BYTE FO_DOUBLE) hZ (hw _ (List.mem_of_getElem? (i := 18) rfl)) (hw _ (List.mem_of_getElem? (i := 6) rfl)) (by decide) (by decide)) q105a q105c (g := (mkF m 48 #[.val (.int p0), .val (.int ((p0 &&& (2147483647 : Int32)) % (12 : Int32))), .val (.ref w_CHAR), .val (.int (0 : Int32)), .val (.int (0 : Int32)), .val (.int (0 : Int32))] [(.ref w_CHAR)])) rfl (by rw [hml]; rfl) (Steps.refl _) (argsL := []) (rest := []) (lenOf own_pd2 rfl) rfl (by show 2 * 0 + _ ≤ _; exact Nat.le_of_eq rfl) (hb hby at_48) (fun _ _ => ⟨rfl, e104, (by decide : 0 + 0 ≤ _), (by decide : 0 + 0 ≤ _)⟩)
                    dsimp only [Pt.U, Pt.locs, Pt.cells, Pt.slots] at X105 l105 y105 z105 st105 hQ105
                    subst l105 y105 z105
                    obtain ⟨rfl, N105q, e105⟩ := hQ105
                    have N105 := Fr.app N104 N105q
                    have q105 : (F_num (8 : Int32)) = (0 : Int32) := by unfold F_num F_cmp; decide
                    rw [q105] at st105
                    obtain ⟨cq106, kq106, q106a, q106b, q106c⟩ := isOf hZ e105 E_CHAR
                    obtain ⟨_, _, ⟨T106, L106, k106, n106⟩, -, X106, ⟨Lc106, hQ106, l106, y106, z106⟩, st106⟩ := X105.virtualBack hx (y := (⟨"com/example/starquarry/starquarry/model/ColumnType", "isText", "()Z"⟩ : MethodName)) (z := (⟨"com/example/starquarry/starquarry/model/ColumnType", "isText", "()Z"⟩ : MethodName)) hown (mvT hZ (hw _ (List.mem_of_getElem? (i := 36) rfl))) (mvT hZ (hw _ (List.mem_of_getElem? (i := 37) rfl))) (notFace_of_selects (args := #[]) (mvT hZ (hw _ (List.mem_of_getElem? (i := 39) rfl)))) (mvT hZ (hw _ (List.mem_of_getElem? (i := 39) rfl))) (mvT hZ (hw _ (List.mem_of_getElem? (i := 38) rfl))) (by decide) (backOf (W := 0) (rm_tx l Z a0' hw [] w_CHAR w_CHAR w_UNICODE_CHAR h0 n0 Z0 S_CHAR S_UNICODE_CHAR) hZ (hw _ (List.mem_of_getElem? (i := 40) rfl)) (hw _ (List.mem_of_getElem? (i := 6) rfl)) (by decide) (by decide)) q106a q106c (g := (mkF m 61 #[.val (.int p0), .val (.int ((p0 &&& (2147483647 : Int32)) % (12 : Int32))), .val (.ref w_CHAR), .val (.int (0 : Int32)), .val (.int (0 : Int32)), .val (.int (0 : Int32))] [(.ref w_CHAR)])) rfl (by rw [hml]; rfl) (Steps.refl _) (argsL := []) (rest := []) (lenOf own_pd2 rfl) rfl (by show 2 * 0 + _ ≤ _; exact Nat.le_of_eq rfl) (hb hby at_61) (fun _ _ => ⟨rfl, e105, (by decide : 0 + 0 ≤ _), (by decide : 0 + 0 ≤ _)⟩)
                    dsimp only [Pt.U, Pt.locs, Pt.cells, Pt.slots] at X106 l106 y106 z106 st106 hQ106
                    subst l106 y106 z106
                    obtain ⟨rfl, N106q, e106⟩ := hQ106
                    have N106 := Fr.app N105 N106q
                    have q106 : (F_tx w_CHAR w_CHAR w_UNICODE_CHAR) = (1 : Int32) := by rw [F_tx, if_pos (rfl : w_CHAR = w_CHAR)]
                    rw [q106] at st106
                    obtain ⟨cq107, kq107, q107a, q107b, q107c⟩ := isOf hZ e106 E_CHAR
                    obtain ⟨_, _, ⟨T107, L107, k107, n107⟩, -, X107, ⟨Lc107, hQ107, l107, y107, z107⟩, st107⟩ := X106.virtualBack hx (y := (⟨"com/example/starquarry/starquarry/model/ColumnType", "isGeometry", "()Z"⟩ : MethodName)) (z := (⟨"com/example/starquarry/starquarry/model/ColumnType", "isGeometry", "()Z"⟩ : MethodName)) hown (mvT hZ (hw _ (List.mem_of_getElem? (i := 45) rfl))) (mvT hZ (hw _ (List.mem_of_getElem? (i := 46) rfl))) (notFace_of_selects (args := #[]) (mvT hZ (hw _ (List.mem_of_getElem? (i := 48) rfl)))) (mvT hZ (hw _ (List.mem_of_getElem? (i := 48) rfl))) (mvT hZ (hw _ (List.mem_of_getElem? (i := 47) rfl))) (by decide) (backOf (W := 0) (rm_geoN l Z a0' hw [] w_CHAR h0 n0 Z0 FX_CHAR) hZ (hw _ (List.mem_of_getElem? (i := 49) rfl)) (hw _ (List.mem_of_getElem? (i := 6) rfl)) (by decide) (by decide)) q107a q107c (g := (mkF m 74 #[.val (.int p0), .val (.int ((p0 &&& (2147483647 : Int32)) % (12 : Int32))), .val (.ref w_CHAR), .val (.int (0 : Int32)), .val (.int (0 : Int32)), .val (.int ((0 : Int32) + (1 : Int32)))] [(.ref w_CHAR)])) rfl (by rw [hml]; rfl) (Steps.refl _) (argsL := []) (rest := []) (lenOf own_pd2 rfl) rfl (by show 2 * 0 + _ ≤ _; exact Nat.le_of_eq rfl) (hb hby at_74) (fun _ _ => ⟨rfl, e106, (by decide : 0 + 0 ≤ _), (by decide : 0 + 0 ≤ _)⟩)
                    dsimp only [Pt.U, Pt.locs, Pt.cells, Pt.slots] at X107 l107 y107 z107 st107 hQ107
                    subst l107 y107 z107
                    obtain ⟨rfl, N107q, e107⟩ := hQ107
                    have N107 := Fr.app N106 N107q
                    obtain ⟨fs, hr, hrun, hended, hW, hsame⟩ := X107.leave (v := some (.int (1 : Int32))) (fun h => by rw [Bd.returns] at h; cases h)
                    refine ⟨_, _, pre62 _ ?_, hrun, hended, _, _, rfl, ?_, ⟨_, rfl⟩, hW, hsame.mono (by decide) (by decide)⟩
                    · show Steps p.tables e below (s₁.setTop (mkF m 9 #[.val (.int p0), .val (.int ((p0 &&& (2147483647 : Int32)) % (12 : Int32))), .unset, .unset, .unset, .unset] [(.int ((p0 &&& (2147483647 : Int32)) % (12 : Int32)))])) _
                      refine st61 _ ?_
                      show Steps p.tables e below (T61.setTop (mkF m 12 #[.val (.int p0), .val (.int ((p0 &&& (2147483647 : Int32)) % (12 : Int32))), .unset, .unset, .unset, .unset] [(.ref w_CHAR)])) _
                      refine XS.astoreN X61.here hx rfl (hb hby at_12) rfl rfl (l' := #[.val (.int p0), .val (.int ((p0 &&& (2147483647 : Int32)) % (12 : Int32))), .val (.ref w_CHAR), .unset, .unset, .unset]) rfl ?_
                      show Steps p.tables e below (T61.setTop (mkF m 13 #[.val (.int p0), .val (.int ((p0 &&& (2147483647 : Int32)) % (12 : Int32))), .val (.ref w_CHAR), .unset, .unset, .unset] [])) _
                      refine XS.aloadN X61.here hx rfl (hb hby at_13) rfl rfl ?_
                      show Steps p.tables e below (T61.setTop (mkF m 14 #[.val (.int p0), .val (.int ((p0 &&& (2147483647 : Int32)) % (12 : Int32))), .val (.ref w_CHAR), .unset, .unset, .unset] [(.ref w_CHAR)])) _
                      refine st104.trans ?_
                      show Steps p.tables e below (T104.setTop (mkF m 17 #[.val (.int p0), .val (.int ((p0 &&& (2147483647 : Int32)) % (12 : Int32))), .val (.ref w_CHAR), .unset, .unset, .unset] [(.int (0 : Int32))])) _
                      refine XS.istoreN X104.here hx rfl (hb hby at_17) rfl (l' := #[.val (.int p0), .val (.int ((p0 &&& (2147483647 : Int32)) % (12 : Int32))), .val (.ref w_CHAR), .val (.int (0 : Int32)), .unset, .unset]) rfl ?_
                      show Steps p.tables e below (T104.setTop (mkF m 18 #[.val (.int p0), .val (.int ((p0 &&& (2147483647 : Int32)) % (12 : Int32))), .val (.ref w_CHAR), .val (.int (0 : Int32)), .unset, .unset] [])) _
                      refine XS.iloadN X104.here hx rfl (hb hby at_18) rfl ?_
                      show Steps p.tables e below (T104.setTop (mkF m 19 #[.val (.int p0), .val (.int ((p0 &&& (2147483647 : Int32)) % (12 : Int32))), .val (.ref w_CHAR), .val (.int (0 : Int32)), .unset, .unset] [(.int ((p0 &&& (2147483647 : Int32)) % (12 : Int32)))])) _
                      refine XS.ifNo X104.here hx rfl (hb hby at_19) rfl ((if0 _ _).trans (feq hs_63).1) ?_
                      show Steps p.tables e below (T104.setTop (mkF m 22 #[.val (.int p0), .val (.int ((p0 &&& (2147483647 : Int32)) % (12 : Int32))), .val (.ref w_CHAR), .val (.int (0 : Int32)), .unset, .unset] [])) _
                      refine XS.iloadN X104.here hx rfl (hb hby at_22) rfl ?_
                      show Steps p.tables e below (T104.setTop (mkF m 23 #[.val (.int p0), .val (.int ((p0 &&& (2147483647 : Int32)) % (12 : Int32))), .val (.ref w_CHAR), .val (.int (0 : Int32)), .unset, .unset] [(.int ((p0 &&& (2147483647 : Int32)) % (12 : Int32)))])) _
                      refine XS.iconst X104.here hx rfl (hb hby at_23) ?_
                      show Steps p.tables e below (T104.setTop (mkF m 24 #[.val (.int p0), .val (.int ((p0 &&& (2147483647 : Int32)) % (12 : Int32))), .val (.ref w_CHAR), .val (.int (0 : Int32)), .unset, .unset] [(.int (1 : Int32)), (.int ((p0 &&& (2147483647 : Int32)) % (12 : Int32)))])) _
                      refine XS.icmpYes X104.here hx rfl (pc0 := 24) (pc' := 31) rfl (hb hby at_24) rfl (feq hs_68).2 (by decide) (by decide) ?_
                      show Steps p.tables e below (T104.setTop (mkF m 31 #[.val (.int p0), .val (.int ((p0 &&& (2147483647 : Int32)) % (12 : Int32))), .val (.ref w_CHAR), .val (.int (0 : Int32)), .unset, .unset] [])) _
                      refine XS.iconst X104.here hx rfl (hb hby at_31) ?_
                      show Steps p.tables e below (T104.setTop (mkF m 32 #[.val (.int p0), .val (.int ((p0 &&& (2147483647 : Int32)) % (12 : Int32))), .val (.ref w_CHAR), .val (.int (0 : Int32)), .unset, .unset] [(.int (0 : Int32))])) _
                      refine XS.istore X104.here hx rfl (hb hby at_32) rfl (l' := #[.val (.int p0), .val (.int ((p0 &&& (2147483647 : Int32)) % (12 : Int32))), .val (.ref w_CHAR), .val (.int (0 : Int32)), .val (.int (0 : Int32)), .unset]) rfl ?_
                      show Steps p.tables e below (T104.setTop (mkF m 34 #[.val (.int p0), .val (.int ((p0 &&& (2147483647 : Int32)) % (12 : Int32))), .val (.ref w_CHAR), .val (.int (0 : Int32)), .val (.int (0 : Int32)), .unset] [])) _
                      refine XS.iconst X104.here hx rfl (hb hby at_34) ?_
                      show Steps p.tables e below (T104.setTop (mkF m 35 #[.val (.int p0), .val (.int ((p0 &&& (2147483647 : Int32)) % (12 : Int32))), .val (.ref w_CHAR), .val (.int (0 : Int32)), .val (.int (0 : Int32)), .unset] [(.int (0 : Int32))])) _
                      refine XS.istore X104.here hx rfl (hb hby at_35) rfl (l' := #[.val (.int p0), .val (.int ((p0 &&& (2147483647 : Int32)) % (12 : Int32))), .val (.ref w_CHAR), .val (.int (0 : Int32)), .val (.int (0 : Int32)), .val (.int (0 : Int32))]) rfl ?_
                      show Steps p.tables e below (T104.setTop (mkF m 37 #[.val (.int p0), .val (.int ((p0 &&& (2147483647 : Int32)) % (12 : Int32))), .val (.ref w_CHAR), .val (.int (0 : Int32)), .val (.int (0 : Int32)), .val (.int (0 : Int32))] [])) _
                      refine XS.iloadN X104.here hx rfl (hb hby at_37) rfl ?_
                      show Steps p.tables e below (T104.setTop (mkF m 38 #[.val (.int p0), .val (.int ((p0 &&& (2147483647 : Int32)) % (12 : Int32))), .val (.ref w_CHAR), .val (.int (0 : Int32)), .val (.int (0 : Int32)), .val (.int (0 : Int32))] [(.int (0 : Int32))])) _
                      refine XS.ifYes X104.here hx rfl (pc0 := 38) (pc' := 47) rfl (hb hby at_38) rfl ((if0 _ _).trans (teq (by decide : (0 : Int32) = (0 : Int32))).1) (by decide) (by decide) ?_
                      show Steps p.tables e below (T104.setTop (mkF m 47 #[.val (.int p0), .val (.int ((p0 &&& (2147483647 : Int32)) % (12 : Int32))), .val (.ref w_CHAR), .val (.int (0 : Int32)), .val (.int (0 : Int32)), .val (.int (0 : Int32))] [])) _
                      refine XS.aloadN X104.here hx rfl (hb hby at_47) rfl rfl ?_
                      show Steps p.tables e below (T104.setTop (mkF m 48 #[.val (.int p0), .val (.int ((p0 &&& (2147483647 : Int32)) % (12 : Int32))), .val (.ref w_CHAR), .val (.int (0 : Int32)), .val (.int (0 : Int32)), .val (.int (0 : Int32))] [(.ref w_CHAR)])) _
                      refine st105.trans ?_
                      show Steps p.tables e below (T105.setTop (mkF m 51 #[.val (.int p0), .val (.int ((p0 &&& (2147483647 : Int32)) % (12 : Int32))), .val (.ref w_CHAR), .val (.int (0 : Int32)), .val (.int (0 : Int32)), .val (.int (0 : Int32))] [(.int (0 : Int32))])) _
                      refine XS.ifYes X105.here hx rfl (pc0 := 51) (pc' := 60) rfl (hb hby at_51) rfl ((if0 _ _).trans (teq (by decide : (0 : Int32) = (0 : Int32))).1) (by decide) (by decide) ?_
                      show Steps p.tables e below (T105.setTop (mkF m 60 #[.val (.int p0), .val (.int ((p0 &&& (2147483647 : Int32)) % (12 : Int32))), .val (.ref w_CHAR), .val (.int (0 : Int32)), .val (.int (0 : Int32)), .val (.int (0 : Int32))] [])) _
                      refine XS.aloadN X105.here hx rfl (hb hby at_60) rfl rfl ?_
                      show Steps p.tables e below (T105.setTop (mkF m 61 #[.val (.int p0), .val (.int ((p0 &&& (2147483647 : Int32)) % (12 : Int32))), .val (.ref w_CHAR), .val (.int (0 : Int32)), .val (.int (0 : Int32)), .val (.int (0 : Int32))] [(.ref w_CHAR)])) _
                      refine st106.trans ?_
                      show Steps p.tables e below (T106.setTop (mkF m 64 #[.val (.int p0), .val (.int ((p0 &&& (2147483647 : Int32)) % (12 : Int32))), .val (.ref w_CHAR), .val (.int (0 : Int32)), .val (.int (0 : Int32)), .val (.int (0 : Int32))] [(.int (1 : Int32))])) _
                      refine XS.ifNo X106.here hx rfl (hb hby at_64) rfl ((if0 _ _).trans (feq (by decide : ¬ ((1 : Int32) = (0 : Int32)))).1) ?_
                      show Steps p.tables e below (T106.setTop (mkF m 67 #[.val (.int p0), .val (.int ((p0 &&& (2147483647 : Int32)) % (12 : Int32))), .val (.ref w_CHAR), .val (.int (0 : Int32)), .val (.int (0 : Int32)), .val (.int (0 : Int32))] [])) _
                      refine XS.iload X106.here hx rfl (hb hby at_67) rfl ?_
                      show Steps p.tables e below (T106.setTop (mkF m 69 #[.val (.int p0), .val (.int ((p0 &&& (2147483647 : Int32)) % (12 : Int32))), .val (.ref w_CHAR), .val (.int (0 : Int32)), .val (.int (0 : Int32)), .val (.int (0 : Int32))] [(.int (0 : Int32))])) _
                      refine XS.iconst X106.here hx rfl (hb hby at_69) ?_
                      show Steps p.tables e below (T106.setTop (mkF m 70 #[.val (.int p0), .val (.int ((p0 &&& (2147483647 : Int32)) % (12 : Int32))), .val (.ref w_CHAR), .val (.int (0 : Int32)), .val (.int (0 : Int32)), .val (.int (0 : Int32))] [(.int (1 : Int32)), (.int (0 : Int32))])) _
                      refine XS.iadd X106.here hx rfl (hb hby at_70) rfl ?_
                      show Steps p.tables e below (T106.setTop (mkF m 71 #[.val (.int p0), .val (.int ((p0 &&& (2147483647 : Int32)) % (12 : Int32))), .val (.ref w_CHAR), .val (.int (0 : Int32)), .val (.int (0 : Int32)), .val (.int (0 : Int32))] [(.int ((0 : Int32) + (1 : Int32)))])) _
                      refine XS.istore X106.here hx rfl (hb hby at_71) rfl (l' := #[.val (.int p0), .val (.int ((p0 &&& (2147483647 : Int32)) % (12 : Int32))), .val (.ref w_CHAR), .val (.int (0 : Int32)), .val (.int (0 : Int32)), .val (.int ((0 : Int32) + (1 : Int32)))]) rfl ?_
                      show Steps p.tables e below (T106.setTop (mkF m 73 #[.val (.int p0), .val (.int ((p0 &&& (2147483647 : Int32)) % (12 : Int32))), .val (.ref w_CHAR), .val (.int (0 : Int32)), .val (.int (0 : Int32)), .val (.int ((0 : Int32) + (1 : Int32)))] [])) _
                      refine XS.aloadN X106.here hx rfl (hb hby at_73) rfl rfl ?_
                      show Steps p.tables e below (T106.setTop (mkF m 74 #[.val (.int p0), .val (.int ((p0 &&& (2147483647 : Int32)) % (12 : Int32))), .val (.ref w_CHAR), .val (.int (0 : Int32)), .val (.int (0 : Int32)), .val (.int ((0 : Int32) + (1 : Int32)))] [(.ref w_CHAR)])) _
                      refine st107.trans ?_
                      show Steps p.tables e below (T107.setTop (mkF m 77 #[.val (.int p0), .val (.int ((p0 &&& (2147483647 : Int32)) % (12 : Int32))), .val (.ref w_CHAR), .val (.int (0 : Int32)), .val (.int (0 : Int32)), .val (.int ((0 : Int32) + (1 : Int32)))] [(.int (0 : Int32))])) _
                      refine XS.ifYes X107.here hx rfl (pc0 := 77) (pc' := 86) rfl (hb hby at_77) rfl ((if0 _ _).trans (teq (by decide : (0 : Int32) = (0 : Int32))).1) (by decide) (by decide) ?_
                      show Steps p.tables e below (T107.setTop (mkF m 86 #[.val (.int p0), .val (.int ((p0 &&& (2147483647 : Int32)) % (12 : Int32))), .val (.ref w_CHAR), .val (.int (0 : Int32)), .val (.int (0 : Int32)), .val (.int ((0 : Int32) + (1 : Int32)))] [])) _
                      refine XS.iloadN X107.here hx rfl (hb hby at_86) rfl ?_
                      show Steps p.tables e below (T107.setTop (mkF m 87 #[.val (.int p0), .val (.int ((p0 &&& (2147483647 : Int32)) % (12 : Int32))), .val (.ref w_CHAR), .val (.int (0 : Int32)), .val (.int (0 : Int32)), .val (.int ((0 : Int32) + (1 : Int32)))] [(.int (0 : Int32))])) _
                      refine XS.iload X107.here hx rfl (hb hby at_87) rfl ?_
                      show Steps p.tables e below (T107.setTop (mkF m 89 #[.val (.int p0), .val (.int ((p0 &&& (2147483647 : Int32)) % (12 : Int32))), .val (.ref w_CHAR), .val (.int (0 : Int32)), .val (.int (0 : Int32)), .val (.int ((0 : Int32) + (1 : Int32)))] [(.int (0 : Int32)), (.int (0 : Int32))])) _
                      refine XS.icmpNo X107.here hx rfl (hb hby at_89) rfl (teq (by decide : (0 : Int32) = (0 : Int32))).2 ?_
                      show Steps p.tables e below (T107.setTop (mkF m 92 #[.val (.int p0), .val (.int ((p0 &&& (2147483647 : Int32)) % (12 : Int32))), .val (.ref w_CHAR), .val (.int (0 : Int32)), .val (.int (0 : Int32)), .val (.int ((0 : Int32) + (1 : Int32)))] [])) _
                      refine XS.iload X107.here hx rfl (hb hby at_92) rfl ?_
                      show Steps p.tables e below (T107.setTop (mkF m 94 #[.val (.int p0), .val (.int ((p0 &&& (2147483647 : Int32)) % (12 : Int32))), .val (.ref w_CHAR), .val (.int (0 : Int32)), .val (.int (0 : Int32)), .val (.int ((0 : Int32) + (1 : Int32)))] [(.int ((0 : Int32) + (1 : Int32)))])) _
                      refine XS.iconst X107.here hx rfl (hb hby at_94) ?_
                      show Steps p.tables e below (T107.setTop (mkF m 95 #[.val (.int p0), .val (.int ((p0 &&& (2147483647 : Int32)) % (12 : Int32))), .val (.ref w_CHAR), .val (.int (0 : Int32)), .val (.int (0 : Int32)), .val (.int ((0 : Int32) + (1 : Int32)))] [(.int (1 : Int32)), (.int ((0 : Int32) + (1 : Int32)))])) _
                      refine XS.icmpNo X107.here hx rfl (hb hby at_95) rfl (teq (by decide : ((0 : Int32) + (1 : Int32)) = (1 : Int32))).2 ?_
                      show Steps p.tables e below (T107.setTop (mkF m 98 #[.val (.int p0), .val (.int ((p0 &&& (2147483647 : Int32)) % (12 : Int32))), .val (.ref w_CHAR), .val (.int (0 : Int32)), .val (.int (0 : Int32)), .val (.int ((0 : Int32) + (1 : Int32)))] [])) _
                      refine XS.iconst X107.here hx rfl (hb hby at_98) ?_
                      show Steps p.tables e below (T107.setTop (mkF m 99 #[.val (.int p0), .val (.int ((p0 &&& (2147483647 : Int32)) % (12 : Int32))), .val (.ref w_CHAR), .val (.int (0 : Int32)), .val (.int (0 : Int32)), .val (.int ((0 : Int32) + (1 : Int32)))] [(.int (1 : Int32))])) _
                      refine XS.goto X107.here hx rfl (pc0 := 99) (pc' := 103) rfl (hb hby at_99) (by decide) (by decide) ?_
                      show Steps p.tables e below (T107.setTop (mkF m 103 #[.val (.int p0), .val (.int ((p0 &&& (2147483647 : Int32)) % (12 : Int32))), .val (.ref w_CHAR), .val (.int (0 : Int32)), .val (.int (0 : Int32)), .val (.int ((0 : Int32) + (1 : Int32)))] [(.int (1 : Int32))])) _
                      exact retN X107 hx (t := .boolean) Bd.returns (by simp) (hb hby at_103) hr
                    · show Q_law Z p0 w_BIT w_BOOLEAN w_UNSIGNED_BYTE w_SHORT w_INT w_LONG w_FLOAT w_DOUBLE w_CHAR w_UNICODE_CHAR w_POINT w_CIRCLE mr x_CIRCLE x_POINT h0 n0 _ T107.heap _
                      refine ⟨?_, N107, trivial⟩
                      rw [F_law, if_neg hs_63, if_neg hs_68, if_neg hs_73, if_neg hs_78, if_neg hs_83, if_neg hs_88, if_neg hs_93, if_neg hs_98, if_pos hs_103]
                  · by_cases hs_108 : ((p0 &&& (2147483647 : Int32)) % (12 : Int32)) = (9 : Int32)
                    · have q61 : (F_pick ((p0 &&& (2147483647 : Int32)) % (12 : Int32)) w_BIT w_BOOLEAN w_UNSIGNED_BYTE w_SHORT w_INT w_LONG w_FLOAT w_DOUBLE w_CHAR w_UNICODE_CHAR w_POINT w_CIRCLE) = w_UNICODE_CHAR := by rw [F_pick, if_neg hs_63, if_neg hs_68, if_neg hs_73, if_neg hs_78, if_neg hs_83, if_neg hs_88, if_neg hs_93, if_neg hs_98, if_neg hs_103, if_pos hs_108]
                      rw [q61] at st61
                      obtain ⟨cq109, kq109, q109a, q109b, q109c⟩ := isOf hZ e61 E_UNICODE_CHAR
                      obtain ⟨_, _, ⟨T109, L109, k109, n109⟩, -, X109, ⟨Lc109, hQ109, l109, y109, z109⟩, st109⟩ := X61.virtualBack hx (y := (⟨"com/example/starquarry/starquarry/model/ColumnType", "isLogical", "()Z"⟩ : MethodName)) (z := (⟨"com/example/starquarry/starquarry/model/ColumnType", "isLogical", "()Z"⟩ : MethodName)) hown (mvT hZ (hw _ (List.mem_of_getElem? (i := 8) rfl))) (mvT hZ (hw _ (List.mem_of_getElem? (i := 9) rfl))) (notFace_of_selects (args := #[]) (mvT hZ (hw _ (List.mem_of_getElem? (i := 11) rfl)))) (mvT hZ (hw _ (List.mem_of_getElem? (i := 11) rfl))) (mvT hZ (hw _ (List.mem_of_getElem? (i := 10) rfl))) (by decide) (backOf (W := 0) (rm_lg l Z a0' hw [] w_UNICODE_CHAR w_BIT w_BOOLEAN h0 n0 Z0 S_BIT S_BOOLEAN) hZ (hw _ (List.mem_of_getElem? (i := 12) rfl)) (hw _ (List.mem_of_getElem? (i := 6) rfl)) (by decide) (by decide)) q109a q109c (g := (mkF m 14 #[.val (.int p0), .val (.int ((p0 &&& (2147483647 : Int32)) % (12 : Int32))), .val (.ref w_UNICODE_CHAR), .unset, .unset, .unset] [(.ref w_UNICODE_CHAR)])) rfl (by rw [hml]; rfl) (Steps.refl _) (argsL := []) (rest := []) (lenOf own_pd2 rfl) rfl (by show 2 * 0 + _ ≤ _; exact Nat.le_of_eq rfl) (hb hby at_14) (fun _ _ => ⟨rfl, e61, (by decide : 0 + 0 ≤ _), (by decide : 0 + 0 ≤ _)⟩)
                      dsimp only [Pt.U, Pt.locs, Pt.cells, Pt.slots] at X109 l109 y109 z109 st109 hQ109
                      subst l109 y109 z109
                      obtain ⟨rfl, N109q, e109⟩ := hQ109
                      have N109 := Fr.app N61 N109q
                      have q109 : (F_lg w_UNICODE_CHAR w_BIT w_BOOLEAN) = (0 : Int32) := by rw [F_lg, if_neg ne_UNICODE_CHAR_BIT, if_neg ne_UNICODE_CHAR_BOOLEAN]
                      rw [q109] at st109
                      obtain ⟨cq110, kq110, q110a, q110b, q110c⟩ := isOf hZ e109 E_UNICODE_CHAR
                      obtain ⟨_, _, ⟨T110, L110, k110, n110⟩, -, X110, ⟨Lc110, hQ110, l110, y110, z110⟩, st110⟩ := X109.virtualBack hx (y := (⟨"com/example/starquarry/starquarry/model/ColumnType", "isNumber", "()Z"⟩ : MethodName)) (z := (⟨"com/example/starquarry/starquarry/model/ColumnType", "isNumber", "()Z"⟩ : MethodName)) hown (mvT hZ (hw _ (List.mem_of_getElem? (i := 14) rfl))) (mvT hZ (hw _ (List.mem_of_getElem? (i := 15) rfl))) (notFace_of_selects (args := #[]) (mvT hZ (hw _ (List.mem_of_getElem? (i := 17) rfl)))) (mvT hZ (hw _ (List.mem_of_getElem? (i := 17) rfl))) (mvT hZ (hw _ (List.mem_of_getElem? (i := 16) rfl))) (by decide) (backOf (W := 0) (rm_num l Z a0' hw [] w_UNICODE_CHAR (9 : Int32) w_UNSIGNED_BYTE w_DOUBLE mr h0 n0 Z0 E_UNICODE_CHAR FO_UNICODE_CHAR S_UNSIGNED_BYTE E_UNSIGNED_BYTE S_DOUBLE E_DOUBLE MM FO_UNSIGNED_BYTE FO_DOUBLE) hZ (hw _ (List.mem_of_getElem? (i := 18) rfl)) (hw _ (List.mem_of_getElem? (i := 6) rfl)) (by decide) (by decide)) q110a q110c (g := (mkF m 48 #[.val (.int p0), .val (.int ((p0 &&& (2147483647 : Int32)) % (12 : Int32))), .val (.ref w_UNICODE_CHAR), .val (.int (0 : Int32)), .val (.int (0 : Int32)), .val (.int (0 : Int32))] [(.ref w_UNICODE_CHAR)])) rfl (by rw [hml]; rfl) (Steps.refl _) (argsL := []) (rest := []) (lenOf own_pd2 rfl) rfl (by show 2 * 0 + _ ≤ _; exact Nat.le_of_eq rfl) (hb hby at_48) (fun _ _ => ⟨rfl, e109, (by decide : 0 + 0 ≤ _), (by decide : 0 + 0 ≤ _)⟩)
                      dsimp only [Pt.U, Pt.locs, Pt.cells, Pt.slots] at X110 l110 y110 z110 st110 hQ110
                      subst l110 y110 z110
                      obtain ⟨rfl, N110q, e110⟩ := hQ110
                      have N110 := Fr.app N109 N110q
                      have q110 : (F_num (9 : Int32)) = (0 : Int32) := by unfold F_num F_cmp; decide
                      rw [q110] at st110
                      obtain ⟨cq111, kq111, q111a, q111b, q111c⟩ := isOf hZ e110 E_UNICODE_CHAR
                      obtain ⟨_, _, ⟨T111, L111, k111, n111⟩, -, X111, ⟨Lc111, hQ111, l111, y111, z111⟩, st111⟩ := X110.virtualBack hx (y := (⟨"com/example/starquarry/starquarry/model/ColumnType", "isText", "()Z"⟩ : MethodName)) (z := (⟨"com/example/starquarry/starquarry/model/ColumnType", "isText", "()Z"⟩ : MethodName)) hown (mvT hZ (hw _ (List.mem_of_getElem? (i := 36) rfl))) (mvT hZ (hw _ (List.mem_of_getElem? (i := 37) rfl))) (notFace_of_selects (args := #[]) (mvT hZ (hw _ (List.mem_of_getElem? (i := 39) rfl)))) (mvT hZ (hw _ (List.mem_of_getElem? (i := 39) rfl))) (mvT hZ (hw _ (List.mem_of_getElem? (i := 38) rfl))) (by decide) (backOf (W := 0) (rm_tx l Z a0' hw [] w_UNICODE_CHAR w_CHAR w_UNICODE_CHAR h0 n0 Z0 S_CHAR S_UNICODE_CHAR) hZ (hw _ (List.mem_of_getElem? (i := 40) rfl)) (hw _ (List.mem_of_getElem? (i := 6) rfl)) (by decide) (by decide)) q111a q111c (g := (mkF m 61 #[.val (.int p0), .val (.int ((p0 &&& (2147483647 : Int32)) % (12 : Int32))), .val (.ref w_UNICODE_CHAR), .val (.int (0 : Int32)), .val (.int (0 : Int32)), .val (.int (0 : Int32))] [(.ref w_UNICODE_CHAR)])) rfl (by rw [hml]; rfl) (Steps.refl _) (argsL := []) (rest := []) (lenOf own_pd2 rfl) rfl (by show 2 * 0 + _ ≤ _; exact Nat.le_of_eq rfl) (hb hby at_61) (fun _ _ => ⟨rfl, e110, (by decide : 0 + 0 ≤ _), (by decide : 0 + 0 ≤ _)⟩)
                      dsimp only [Pt.U, Pt.locs, Pt.cells, Pt.slots] at X111 l111 y111 z111 st111 hQ111
                      subst l111 y111 z111
                      obtain ⟨rfl, N111q, e111⟩ := hQ111
                      have N111 := Fr.app N110 N111q
                      have q111 : (F_tx w_UNICODE_CHAR w_CHAR w_UNICODE_CHAR) = (1 : Int32) := by rw [F_tx, if_neg ne_UNICODE_CHAR_CHAR, if_pos (rfl : w_UNICODE_CHAR = w_UNICODE_CHAR)]
                      rw [q111] at st111
                      obtain ⟨cq112, kq112, q112a, q112b, q112c⟩ := isOf hZ e111 E_UNICODE_CHAR
                      obtain ⟨_, _, ⟨T112, L112, k112, n112⟩, -, X112, ⟨Lc112, hQ112, l112, y112, z112⟩, st112⟩ := X111.virtualBack hx (y := (⟨"com/example/starquarry/starquarry/model/ColumnType", "isGeometry", "()Z"⟩ : MethodName)) (z := (⟨"com/example/starquarry/starquarry/model/ColumnType", "isGeometry", "()Z"⟩ : MethodName)) hown (mvT hZ (hw _ (List.mem_of_getElem? (i := 45) rfl))) (mvT hZ (hw _ (List.mem_of_getElem? (i := 46) rfl))) (notFace_of_selects (args := #[]) (mvT hZ (hw _ (List.mem_of_getElem? (i := 48) rfl)))) (mvT hZ (hw _ (List.mem_of_getElem? (i := 48) rfl))) (mvT hZ (hw _ (List.mem_of_getElem? (i := 47) rfl))) (by decide) (backOf (W := 0) (rm_geoN l Z a0' hw [] w_UNICODE_CHAR h0 n0 Z0 FX_UNICODE_CHAR) hZ (hw _ (List.mem_of_getElem? (i := 49) rfl)) (hw _ (List.mem_of_getElem? (i := 6) rfl)) (by decide) (by decide)) q112a q112c (g := (mkF m 74 #[.val (.int p0), .val (.int ((p0 &&& (2147483647 : Int32)) % (12 : Int32))), .val (.ref w_UNICODE_CHAR), .val (.int (0 : Int32)), .val (.int (0 : Int32)), .val (.int ((0 : Int32) + (1 : Int32)))] [(.ref w_UNICODE_CHAR)])) rfl (by rw [hml]; rfl) (Steps.refl _) (argsL := []) (rest := []) (lenOf own_pd2 rfl) rfl (by show 2 * 0 + _ ≤ _; exact Nat.le_of_eq rfl) (hb hby at_74) (fun _ _ => ⟨rfl, e111, (by decide : 0 + 0 ≤ _), (by decide : 0 + 0 ≤ _)⟩)
                      dsimp only [Pt.U, Pt.locs, Pt.cells, Pt.slots] at X112 l112 y112 z112 st112 hQ112
                      subst l112 y112 z112
                      obtain ⟨rfl, N112q, e112⟩ := hQ112
                      have N112 := Fr.app N111 N112q
                      obtain ⟨fs, hr, hrun, hended, hW, hsame⟩ := X112.leave (v := some (.int (1 : Int32))) (fun h => by rw [Bd.returns] at h; cases h)
                      refine ⟨_, _, pre62 _ ?_, hrun, hended, _, _, rfl, ?_, ⟨_, rfl⟩, hW, hsame.mono (by decide) (by decide)⟩
                      · show Steps p.tables e below (s₁.setTop (mkF m 9 #[.val (.int p0), .val (.int ((p0 &&& (2147483647 : Int32)) % (12 : Int32))), .unset, .unset, .unset, .unset] [(.int ((p0 &&& (2147483647 : Int32)) % (12 : Int32)))])) _
                        refine st61 _ ?_
                        show Steps p.tables e below (T61.setTop (mkF m 12 #[.val (.int p0), .val (.int ((p0 &&& (2147483647 : Int32)) % (12 : Int32))), .unset, .unset, .unset, .unset] [(.ref w_UNICODE_CHAR)])) _
                        refine XS.astoreN X61.here hx rfl (hb hby at_12) rfl rfl (l' := #[.val (.int p0), .val (.int ((p0 &&& (2147483647 : Int32)) % (12 : Int32))), .val (.ref w_UNICODE_CHAR), .unset, .unset, .unset]) rfl ?_
                        show Steps p.tables e below (T61.setTop (mkF m 13 #[.val (.int p0), .val (.int ((p0 &&& (2147483647 : Int32)) % (12 : Int32))), .val (.ref w_UNICODE_CHAR), .unset, .unset, .unset] [])) _
                        refine XS.aloadN X61.here hx rfl (hb hby at_13) rfl rfl ?_
                        show Steps p.tables e below (T61.setTop (mkF m 14 #[.val (.int p0), .val (.int ((p0 &&& (2147483647 : Int32)) % (12 : Int32))), .val (.ref w_UNICODE_CHAR), .unset, .unset, .unset] [(.ref w_UNICODE_CHAR)])) _
                        refine st109.trans ?_
                        show Steps p.tables e below (T109.setTop (mkF m 17 #[.val (.int p0), .val (.int ((p0 &&& (2147483647 : Int32)) % (12 : Int32))), .val (.ref w_UNICODE_CHAR), .unset, .unset, .unset] [(.int (0 : Int32))])) _
                        refine XS.istoreN X109.here hx rfl (hb hby at_17) rfl (l' := #[.val (.int p0), .val (.int ((p0 &&& (2147483647 : Int32)) % (12 : Int32))), .val (.ref w_UNICODE_CHAR), .val (.int (0 : Int32)), .unset, .unset]) rfl ?_
                        show Steps p.tables e below (T109.setTop (mkF m 18 #[.val (.int p0), .val (.int ((p0 &&& (2147483647 : Int32)) % (12 : Int32))), .val (.ref w_UNICODE_CHAR), .val (.int (0 : Int32)), .unset, .unset] [])) _
                        refine XS.iloadN X109.here hx rfl (hb hby at_18) rfl ?_
                        show Steps p.tables e below (T109.setTop (mkF m 19 #[.val (.int p0), .val (.int ((p0 &&& (2147483647 : Int32)) % (12 : Int32))), .val (.ref w_UNICODE_CHAR), .val (.int (0 : Int32)), .unset, .unset] [(.int ((p0 &&& (2147483647 : Int32)) % (12 : Int32)))])) _
                        refine XS.ifNo X109.here hx rfl (hb hby at_19) rfl ((if0 _ _).trans (feq hs_63).1) ?_
                        show Steps p.tables e below (T109.setTop (mkF m 22 #[.val (.int p0), .val (.int ((p0 &&& (2147483647 : Int32)) % (12 : Int32))), .val (.ref w_UNICODE_CHAR), .val (.int (0 : Int32)), .unset, .unset] [])) _
                        refine XS.iloadN X109.here hx rfl (hb hby at_22) rfl ?_
                        show Steps p.tables e below (T109.setTop (mkF m 23 #[.val (.int p0), .val (.int ((p0 &&& (2147483647 : Int32)) % (12 : Int32))), .val (.ref w_UNICODE_CHAR), .val (.int (0 : Int32)), .unset, .unset] [(.int ((p0 &&& (2147483647 : Int32)) % (12 : Int32)))])) _
                        refine XS.iconst X109.here hx rfl (hb hby at_23) ?_
                        show Steps p.tables e below (T109.setTop (mkF m 24 #[.val (.int p0), .val (.int ((p0 &&& (2147483647 : Int32)) % (12 : Int32))), .val (.ref w_UNICODE_CHAR), .val (.int (0 : Int32)), .unset, .unset] [(.int (1 : Int32)), (.int ((p0 &&& (2147483647 : Int32)) % (12 : Int32)))])) _
                        refine XS.icmpYes X109.here hx rfl (pc0 := 24) (pc' := 31) rfl (hb hby at_24) rfl (feq hs_68).2 (by decide) (by decide) ?_
                        show Steps p.tables e below (T109.setTop (mkF m 31 #[.val (.int p0), .val (.int ((p0 &&& (2147483647 : Int32)) % (12 : Int32))), .val (.ref w_UNICODE_CHAR), .val (.int (0 : Int32)), .unset, .unset] [])) _
                        refine XS.iconst X109.here hx rfl (hb hby at_31) ?_
                        show Steps p.tables e below (T109.setTop (mkF m 32 #[.val (.int p0), .val (.int ((p0 &&& (2147483647 : Int32)) % (12 : Int32))), .val (.ref w_UNICODE_CHAR), .val (.int (0 : Int32)), .unset, .unset] [(.int (0 : Int32))])) _
                        refine XS.istore X109.here hx rfl (hb hby at_32) rfl (l' := #[.val (.int p0), .val (.int ((p0 &&& (2147483647 : Int32)) % (12 : Int32))), .val (.ref w_UNICODE_CHAR), .val (.int (0 : Int32)), .val (.int (0 : Int32)), .unset]) rfl ?_
                        show Steps p.tables e below (T109.setTop (mkF m 34 #[.val (.int p0), .val (.int ((p0 &&& (2147483647 : Int32)) % (12 : Int32))), .val (.ref w_UNICODE_CHAR), .val (.int (0 : Int32)), .val (.int (0 : Int32)), .unset] [])) _
                        refine XS.iconst X109.here hx rfl (hb hby at_34) ?_
                        show Steps p.tables e below (T109.setTop (mkF m 35 #[.val (.int p0), .val (.int ((p0 &&& (2147483647 : Int32)) % (12 : Int32))), .val (.ref w_UNICODE_CHAR), .val (.int (0 : Int32)), .val (.int (0 : Int32)), .unset] [(.int (0 : Int32))])) _
                        refine XS.istore X109.here hx rfl (hb hby at_35) rfl (l' := #[.val (.int p0), .val (.int ((p0 &&& (2147483647 : Int32)) % (12 : Int32))), .val (.ref w_UNICODE_CHAR), .val (.int (0 : Int32)), .val (.int (0 : Int32)), .val (.int (0 : Int32))]) rfl ?_
                        show Steps p.tables e below (T109.setTop (mkF m 37 #[.val (.int p0), .val (.int ((p0 &&& (2147483647 : Int32)) % (12 : Int32))), .val (.ref w_UNICODE_CHAR), .val (.int (0 : Int32)), .val (.int (0 : Int32)), .val (.int (0 : Int32))] [])) _
                        refine XS.iloadN X109.here hx rfl (hb hby at_37) rfl ?_
                        show Steps p.tables e below (T109.setTop (mkF m 38 #[.val (.int p0), .val (.int ((p0 &&& (2147483647 : Int32)) % (12 : Int32))), .val (.ref w_UNICODE_CHAR), .val (.int (0 : Int32)), .val (.int (0 : Int32)), .val (.int (0 : Int32))] [(.int (0 : Int32))])) _
                        refine XS.ifYes X109.here hx rfl (pc0 := 38) (pc' := 47) rfl (hb hby at_38) rfl ((if0 _ _).trans (teq (by decide : (0 : Int32) = (0 : Int32))).1) (by decide) (by decide) ?_
                        show Steps p.tables e below (T109.setTop (mkF m 47 #[.val (.int p0), .val (.int ((p0 &&& (2147483647 : Int32)) % (12 : Int32))), .val (.ref w_UNICODE_CHAR), .val (.int (0 : Int32)), .val (.int (0 : Int32)), .val (.int (0 : Int32))] [])) _
                        refine XS.aloadN X109.here hx rfl (hb hby at_47) rfl rfl ?_
                        show Steps p.tables e below (T109.setTop (mkF m 48 #[.val (.int p0), .val (.int ((p0 &&& (2147483647 : Int32)) % (12 : Int32))), .val (.ref w_UNICODE_CHAR), .val (.int (0 : Int32)), .val (.int (0 : Int32)), .val (.int (0 : Int32))] [(.ref w_UNICODE_CHAR)])) _
                        refine st110.trans ?_
                        show Steps p.tables e below (T110.setTop (mkF m 51 #[.val (.int p0), .val (.int ((p0 &&& (2147483647 : Int32)) % (12 : Int32))), .val (.ref w_UNICODE_CHAR), .val (.int (0 : Int32)), .val (.int (0 : Int32)), .val (.int (0 : Int32))] [(.int (0 : Int32))])) _
                        refine XS.ifYes X110.here hx rfl (pc0 := 51) (pc' := 60) rfl (hb hby at_51) rfl ((if0 _ _).trans (teq (by decide : (0 : Int32) = (0 : Int32))).1) (by decide) (by decide) ?_
                        show Steps p.tables e below (T110.setTop (mkF m 60 #[.val (.int p0), .val (.int ((p0 &&& (2147483647 : Int32)) % (12 : Int32))), .val (.ref w_UNICODE_CHAR), .val (.int (0 : Int32)), .val (.int (0 : Int32)), .val (.int (0 : Int32))] [])) _
                        refine XS.aloadN X110.here hx rfl (hb hby at_60) rfl rfl ?_
                        show Steps p.tables e below (T110.setTop (mkF m 61 #[.val (.int p0), .val (.int ((p0 &&& (2147483647 : Int32)) % (12 : Int32))), .val (.ref w_UNICODE_CHAR), .val (.int (0 : Int32)), .val (.int (0 : Int32)), .val (.int (0 : Int32))] [(.ref w_UNICODE_CHAR)])) _
                        refine st111.trans ?_
                        show Steps p.tables e below (T111.setTop (mkF m 64 #[.val (.int p0), .val (.int ((p0 &&& (2147483647 : Int32)) % (12 : Int32))), .val (.ref w_UNICODE_CHAR), .val (.int (0 : Int32)), .val (.int (0 : Int32)), .val (.int (0 : Int32))] [(.int (1 : Int32))])) _
                        refine XS.ifNo X111.here hx rfl (hb hby at_64) rfl ((if0 _ _).trans (feq (by decide : ¬ ((1 : Int32) = (0 : Int32)))).1) ?_
                        show Steps p.tables e below (T111.setTop (mkF m 67 #[.val (.int p0), .val (.int ((p0 &&& (2147483647 : Int32)) % (12 : Int32))), .val (.ref w_UNICODE_CHAR), .val (.int (0 : Int32)), .val (.int (0 : Int32)), .val (.int (0 : Int32))] [])) _
                        refine XS.iload X111.here hx rfl (hb hby at_67) rfl ?_
                        show Steps p.tables e below (T111.setTop (mkF m 69 #[.val (.int p0), .val (.int ((p0 &&& (2147483647 : Int32)) % (12 : Int32))), .val (.ref w_UNICODE_CHAR), .val (.int (0 : Int32)), .val (.int (0 : Int32)), .val (.int (0 : Int32))] [(.int (0 : Int32))])) _
                        refine XS.iconst X111.here hx rfl (hb hby at_69) ?_
                        show Steps p.tables e below (T111.setTop (mkF m 70 #[.val (.int p0), .val (.int ((p0 &&& (2147483647 : Int32)) % (12 : Int32))), .val (.ref w_UNICODE_CHAR), .val (.int (0 : Int32)), .val (.int (0 : Int32)), .val (.int (0 : Int32))] [(.int (1 : Int32)), (.int (0 : Int32))])) _
                        refine XS.iadd X111.here hx rfl (hb hby at_70) rfl ?_
                        show Steps p.tables e below (T111.setTop (mkF m 71 #[.val (.int p0), .val (.int ((p0 &&& (2147483647 : Int32)) % (12 : Int32))), .val (.ref w_UNICODE_CHAR), .val (.int (0 : Int32)), .val (.int (0 : Int32)), .val (.int (0 : Int32))] [(.int ((0 : Int32) + (1 : Int32)))])) _
                        refine XS.istore X111.here hx rfl (hb hby at_71) rfl (l' := #[.val (.int p0), .val (.int ((p0 &&& (2147483647 : Int32)) % (12 : Int32))), .val (.ref w_UNICODE_CHAR), .val (.int (0 : Int32)), .val (.int (0 : Int32)), .val (.int ((0 : Int32) + (1 : Int32)))]) rfl ?_
                        show Steps p.tables e below (T111.setTop (mkF m 73 #[.val (.int p0), .val (.int ((p0 &&& (2147483647 : Int32)) % (12 : Int32))), .val (.ref w_UNICODE_CHAR), .val (.int (0 : Int32)), .val (.int (0 : Int32)), .val (.int ((0 : Int32) + (1 : Int32)))] [])) _
                        refine XS.aloadN X111.here hx rfl (hb hby at_73) rfl rfl ?_
                        show Steps p.tables e below (T111.setTop (mkF m 74 #[.val (.int p0), .val (.int ((p0 &&& (2147483647 : Int32)) % (12 : Int32))), .val (.ref w_UNICODE_CHAR), .val (.int (0 : Int32)), .val (.int (0 : Int32)), .val (.int ((0 : Int32) + (1 : Int32)))] [(.ref w_UNICODE_CHAR)])) _
                        refine st112.trans ?_
                        show Steps p.tables e below (T112.setTop (mkF m 77 #[.val (.int p0), .val (.int ((p0 &&& (2147483647 : Int32)) % (12 : Int32))), .val (.ref w_UNICODE_CHAR), .val (.int (0 : Int32)), .val (.int (0 : Int32)), .val (.int ((0 : Int32) + (1 : Int32)))] [(.int (0 : Int32))])) _
                        refine XS.ifYes X112.here hx rfl (pc0 := 77) (pc' := 86) rfl (hb hby at_77) rfl ((if0 _ _).trans (teq (by decide : (0 : Int32) = (0 : Int32))).1) (by decide) (by decide) ?_
                        show Steps p.tables e below (T112.setTop (mkF m 86 #[.val (.int p0), .val (.int ((p0 &&& (2147483647 : Int32)) % (12 : Int32))), .val (.ref w_UNICODE_CHAR), .val (.int (0 : Int32)), .val (.int (0 : Int32)), .val (.int ((0 : Int32) + (1 : Int32)))] [])) _
                        refine XS.iloadN X112.here hx rfl (hb hby at_86) rfl ?_
                        show Steps p.tables e below (T112.setTop (mkF m 87 #[.val (.int p0), .val (.int ((p0 &&& (2147483647 : Int32)) % (12 : Int32))), .val (.ref w_UNICODE_CHAR), .val (.int (0 : Int32)), .val (.int (0 : Int32)), .val (.int ((0 : Int32) + (1 : Int32)))] [(.int (0 : Int32))])) _
                        refine XS.iload X112.here hx rfl (hb hby at_87) rfl ?_
                        show Steps p.tables e below (T112.setTop (mkF m 89 #[.val (.int p0), .val (.int ((p0 &&& (2147483647 : Int32)) % (12 : Int32))), .val (.ref w_UNICODE_CHAR), .val (.int (0 : Int32)), .val (.int (0 : Int32)), .val (.int ((0 : Int32) + (1 : Int32)))] [(.int (0 : Int32)), (.int (0 : Int32))])) _
                        refine XS.icmpNo X112.here hx rfl (hb hby at_89) rfl (teq (by decide : (0 : Int32) = (0 : Int32))).2 ?_
                        show Steps p.tables e below (T112.setTop (mkF m 92 #[.val (.int p0), .val (.int ((p0 &&& (2147483647 : Int32)) % (12 : Int32))), .val (.ref w_UNICODE_CHAR), .val (.int (0 : Int32)), .val (.int (0 : Int32)), .val (.int ((0 : Int32) + (1 : Int32)))] [])) _
                        refine XS.iload X112.here hx rfl (hb hby at_92) rfl ?_
                        show Steps p.tables e below (T112.setTop (mkF m 94 #[.val (.int p0), .val (.int ((p0 &&& (2147483647 : Int32)) % (12 : Int32))), .val (.ref w_UNICODE_CHAR), .val (.int (0 : Int32)), .val (.int (0 : Int32)), .val (.int ((0 : Int32) + (1 : Int32)))] [(.int ((0 : Int32) + (1 : Int32)))])) _
                        refine XS.iconst X112.here hx rfl (hb hby at_94) ?_
                        show Steps p.tables e below (T112.setTop (mkF m 95 #[.val (.int p0), .val (.int ((p0 &&& (2147483647 : Int32)) % (12 : Int32))), .val (.ref w_UNICODE_CHAR), .val (.int (0 : Int32)), .val (.int (0 : Int32)), .val (.int ((0 : Int32) + (1 : Int32)))] [(.int (1 : Int32)), (.int ((0 : Int32) + (1 : Int32)))])) _
                        refine XS.icmpNo X112.here hx rfl (hb hby at_95) rfl (teq (by decide : ((0 : Int32) + (1 : Int32)) = (1 : Int32))).2 ?_
                        show Steps p.tables e below (T112.setTop (mkF m 98 #[.val (.int p0), .val (.int ((p0 &&& (2147483647 : Int32)) % (12 : Int32))), .val (.ref w_UNICODE_CHAR), .val (.int (0 : Int32)), .val (.int (0 : Int32)), .val (.int ((0 : Int32) + (1 : Int32)))] [])) _
                        refine XS.iconst X112.here hx rfl (hb hby at_98) ?_
                        show Steps p.tables e below (T112.setTop (mkF m 99 #[.val (.int p0), .val (.int ((p0 &&& (2147483647 : Int32)) % (12 : Int32))), .val (.ref w_UNICODE_CHAR), .val (.int (0 : Int32)), .val (.int (0 : Int32)), .val (.int ((0 : Int32) + (1 : Int32)))] [(.int (1 : Int32))])) _
                        refine XS.goto X112.here hx rfl (pc0 := 99) (pc' := 103) rfl (hb hby at_99) (by decide) (by decide) ?_
                        show Steps p.tables e below (T112.setTop (mkF m 103 #[.val (.int p0), .val (.int ((p0 &&& (2147483647 : Int32)) % (12 : Int32))), .val (.ref w_UNICODE_CHAR), .val (.int (0 : Int32)), .val (.int (0 : Int32)), .val (.int ((0 : Int32) + (1 : Int32)))] [(.int (1 : Int32))])) _
                        exact retN X112 hx (t := .boolean) Bd.returns (by simp) (hb hby at_103) hr
                      · show Q_law Z p0 w_BIT w_BOOLEAN w_UNSIGNED_BYTE w_SHORT w_INT w_LONG w_FLOAT w_DOUBLE w_CHAR w_UNICODE_CHAR w_POINT w_CIRCLE mr x_CIRCLE x_POINT h0 n0 _ T112.heap _
                        refine ⟨?_, N112, trivial⟩
                        rw [F_law, if_neg hs_63, if_neg hs_68, if_neg hs_73, if_neg hs_78, if_neg hs_83, if_neg hs_88, if_neg hs_93, if_neg hs_98, if_neg hs_103, if_pos hs_108]
                    · by_cases hs_113 : ((p0 &&& (2147483647 : Int32)) % (12 : Int32)) = (10 : Int32)
                      · have q61 : (F_pick ((p0 &&& (2147483647 : Int32)) % (12 : Int32)) w_BIT w_BOOLEAN w_UNSIGNED_BYTE w_SHORT w_INT w_LONG w_FLOAT w_DOUBLE w_CHAR w_UNICODE_CHAR w_POINT w_CIRCLE) = w_POINT := by rw [F_pick, if_neg hs_63, if_neg hs_68, if_neg hs_73, if_neg hs_78, if_neg hs_83, if_neg hs_88, if_neg hs_93, if_neg hs_98, if_neg hs_103, if_neg hs_108, if_pos hs_113]
                        rw [q61] at st61
                        obtain ⟨cq114, kq114, q114a, q114b, q114c⟩ := isOf hZ e61 E_POINT
                        obtain ⟨_, _, ⟨T114, L114, k114, n114⟩, -, X114, ⟨Lc114, hQ114, l114, y114, z114⟩, st114⟩ := X61.virtualBack hx (y := (⟨"com/example/starquarry/starquarry/model/ColumnType", "isLogical", "()Z"⟩ : MethodName)) (z := (⟨"com/example/starquarry/starquarry/model/ColumnType", "isLogical", "()Z"⟩ : MethodName)) hown (mvT hZ (hw _ (List.mem_of_getElem? (i := 8) rfl))) (mvT hZ (hw _ (List.mem_of_getElem? (i := 9) rfl))) (notFace_of_selects (args := #[]) (mvT hZ (hw _ (List.mem_of_getElem? (i := 11) rfl)))) (mvT hZ (hw _ (List.mem_of_getElem? (i := 11) rfl))) (mvT hZ (hw _ (List.mem_of_getElem? (i := 10) rfl))) (by decide) (backOf (W := 0) (rm_lg l Z a0' hw [] w_POINT w_BIT w_BOOLEAN h0 n0 Z0 S_BIT S_BOOLEAN) hZ (hw _ (List.mem_of_getElem? (i := 12) rfl)) (hw _ (List.mem_of_getElem? (i := 6) rfl)) (by decide) (by decide)) q114a q114c (g := (mkF m 14 #[.val (.int p0), .val (.int ((p0 &&& (2147483647 : Int32)) % (12 : Int32))), .val (.ref w_POINT), .unset, .unset, .unset] [(.ref w_POINT)])) rfl (by rw [hml]; rfl) (Steps.refl _) (argsL := []) (rest := []) (lenOf own_pd2 rfl) rfl (by show 2 * 0 + _ ≤ _; exact Nat.le_of_eq rfl) (hb hby at_14) (fun _ _ => ⟨rfl, e61, (by decide : 0 + 0 ≤ _), (by decide : 0 + 0 ≤ _)⟩)
                        dsimp only [Pt.U, Pt.locs, Pt.cells, Pt.slots] at X114 l114 y114 z114 st114 hQ114
                        subst l114 y114 z114
                        obtain ⟨rfl, N114q, e114⟩ := hQ114
                        have N114 := Fr.app N61 N114q
                        have q114 : (F_lg w_POINT w_BIT w_BOOLEAN) = (0 : Int32) := by rw [F_lg, if_neg ne_POINT_BIT, if_neg ne_POINT_BOOLEAN]
                        rw [q114] at st114
                        obtain ⟨cq115, kq115, q115a, q115b, q115c⟩ := isOf hZ e114 E_POINT
                        obtain ⟨_, _, ⟨T115, L115, k115, n115⟩, -, X115, ⟨Lc115, hQ115, l115, y115, z115⟩, st115⟩ := X114.virtualBack hx (y := (⟨"com/example/starquarry/starquarry/model/ColumnType", "isNumber", "()Z"⟩ : MethodName)) (z := (⟨"com/example/starquarry/starquarry/model/ColumnType", "isNumber", "()Z"⟩ : MethodName)) hown (mvT hZ (hw _ (List.mem_of_getElem? (i := 14) rfl))) (mvT hZ (hw _ (List.mem_of_getElem? (i := 15) rfl))) (notFace_of_selects (args := #[]) (mvT hZ (hw _ (List.mem_of_getElem? (i := 17) rfl)))) (mvT hZ (hw _ (List.mem_of_getElem? (i := 17) rfl))) (mvT hZ (hw _ (List.mem_of_getElem? (i := 16) rfl))) (by decide) (backOf (W := 0) (rm_num l Z a0' hw [] w_POINT (10 : Int32) w_UNSIGNED_BYTE w_DOUBLE mr h0 n0 Z0 E_POINT FO_POINT S_UNSIGNED_BYTE E_UNSIGNED_BYTE S_DOUBLE E_DOUBLE MM FO_UNSIGNED_BYTE FO_DOUBLE) hZ (hw _ (List.mem_of_getElem? (i := 18) rfl)) (hw _ (List.mem_of_getElem? (i := 6) rfl)) (by decide) (by decide)) q115a q115c (g := (mkF m 48 #[.val (.int p0), .val (.int ((p0 &&& (2147483647 : Int32)) % (12 : Int32))), .val (.ref w_POINT), .val (.int (0 : Int32)), .val (.int (0 : Int32)), .val (.int (0 : Int32))] [(.ref w_POINT)])) rfl (by rw [hml]; rfl) (Steps.refl _) (argsL := []) (rest := []) (lenOf own_pd2 rfl) rfl (by show 2 * 0 + _ ≤ _; exact Nat.le_of_eq rfl) (hb hby at_48) (fun _ _ => ⟨rfl, e114, (by decide : 0 + 0 ≤ _), (by decide : 0 + 0 ≤ _)⟩)
                        dsimp only [Pt.U, Pt.locs, Pt.cells, Pt.slots] at X115 l115 y115 z115 st115 hQ115
                        subst l115 y115 z115
                        obtain ⟨rfl, N115q, e115⟩ := hQ115
                        have N115 := Fr.app N114 N115q
                        have q115 : (F_num (10 : Int32)) = (0 : Int32) := by unfold F_num F_cmp; decide
                        rw [q115] at st115
                        obtain ⟨cq116, kq116, q116a, q116b, q116c⟩ := isOf hZ e115 E_POINT
                        obtain ⟨_, _, ⟨T116, L116, k116, n116⟩, -, X116, ⟨Lc116, hQ116, l116, y116, z116⟩, st116⟩ := X115.virtualBack hx (y := (⟨"com/example/starquarry/starquarry/model/ColumnType", "isText", "()Z"⟩ : MethodName)) (z := (⟨"com/example/starquarry/starquarry/model/ColumnType", "isText", "()Z"⟩ : MethodName)) hown (mvT hZ (hw _ (List.mem_of_getElem? (i := 36) rfl))) (mvT hZ (hw _ (List.mem_of_getElem? (i := 37) rfl))) (notFace_of_selects (args := #[]) (mvT hZ (hw _ (List.mem_of_getElem? (i := 39) rfl)))) (mvT hZ (hw _ (List.mem_of_getElem? (i := 39) rfl))) (mvT hZ (hw _ (List.mem_of_getElem? (i := 38) rfl))) (by decide) (backOf (W := 0) (rm_tx l Z a0' hw [] w_POINT w_CHAR w_UNICODE_CHAR h0 n0 Z0 S_CHAR S_UNICODE_CHAR) hZ (hw _ (List.mem_of_getElem? (i := 40) rfl)) (hw _ (List.mem_of_getElem? (i := 6) rfl)) (by decide) (by decide)) q116a q116c (g := (mkF m 61 #[.val (.int p0), .val (.int ((p0 &&& (2147483647 : Int32)) % (12 : Int32))), .val (.ref w_POINT), .val (.int (0 : Int32)), .val (.int (0 : Int32)), .val (.int (0 : Int32))] [(.ref w_POINT)])) rfl (by rw [hml]; rfl) (Steps.refl _) (argsL := []) (rest := []) (lenOf own_pd2 rfl) rfl (by show 2 * 0 + _ ≤ _; exact Nat.le_of_eq rfl) (hb hby at_61) (fun _ _ => ⟨rfl, e115, (by decide : 0 + 0 ≤ _), (by decide : 0 + 0 ≤ _)⟩)
                        dsimp only [Pt.U, Pt.locs, Pt.cells, Pt.slots] at X116 l116 y116 z116 st116 hQ116
                        subst l116 y116 z116
                        obtain ⟨rfl, N116q, e116⟩ := hQ116
                        have N116 := Fr.app N115 N116q
                        have q116 : (F_tx w_POINT w_CHAR w_UNICODE_CHAR) = (0 : Int32) := by rw [F_tx, if_neg ne_POINT_CHAR, if_neg ne_POINT_UNICODE_CHAR]
                        rw [q116] at st116
                        obtain ⟨cq117, kq117, q117a, q117b, q117c⟩ := isOf hZ e116 E_POINT
                        obtain ⟨_, _, ⟨T117, L117, k117, n117⟩, -, X117, ⟨Lc117, hQ117, l117, y117, z117⟩, st117⟩ := X116.virtualBack hx (y := (⟨"com/example/starquarry/starquarry/model/ColumnType", "isGeometry", "()Z"⟩ : MethodName)) (z := (⟨"com/example/starquarry/starquarry/model/ColumnType", "isGeometry", "()Z"⟩ : MethodName)) hown (mvT hZ (hw _ (List.mem_of_getElem? (i := 45) rfl))) (mvT hZ (hw _ (List.mem_of_getElem? (i := 46) rfl))) (notFace_of_selects (args := #[]) (mvT hZ (hw _ (List.mem_of_getElem? (i := 48) rfl)))) (mvT hZ (hw _ (List.mem_of_getElem? (i := 48) rfl))) (mvT hZ (hw _ (List.mem_of_getElem? (i := 47) rfl))) (by decide) (backOf (W := 0) (rm_geoR l Z a0' hw [] w_POINT x_POINT h0 n0 Z0 FX_POINT) hZ (hw _ (List.mem_of_getElem? (i := 49) rfl)) (hw _ (List.mem_of_getElem? (i := 6) rfl)) (by decide) (by decide)) q117a q117c (g := (mkF m 74 #[.val (.int p0), .val (.int ((p0 &&& (2147483647 : Int32)) % (12 : Int32))), .val (.ref w_POINT), .val (.int (0 : Int32)), .val (.int (0 : Int32)), .val (.int (0 : Int32))] [(.ref w_POINT)])) rfl (by rw [hml]; rfl) (Steps.refl _) (argsL := []) (rest := []) (lenOf own_pd2 rfl) rfl (by show 2 * 0 + _ ≤ _; exact Nat.le_of_eq rfl) (hb hby at_74) (fun _ _ => ⟨rfl, e116, (by decide : 0 + 0 ≤ _), (by decide : 0 + 0 ≤ _)⟩)
                        dsimp only [Pt.U, Pt.locs, Pt.cells, Pt.slots] at X117 l117 y117 z117 st117 hQ117
                        subst l117 y117 z117
                        obtain ⟨rfl, N117q, e117⟩ := hQ117
                        have N117 := Fr.app N116 N117q
                        obtain ⟨fs, hr, hrun, hended, hW, hsame⟩ := X117.leave (v := some (.int (1 : Int32))) (fun h => by rw [Bd.returns] at h; cases h)
                        refine ⟨_, _, pre62 _ ?_, hrun, hended, _, _, rfl, ?_, ⟨_, rfl⟩, hW, hsame.mono (by decide) (by decide)⟩
                        · show Steps p.tables e below (s₁.setTop (mkF m 9 #[.val (.int p0), .val (.int ((p0 &&& (2147483647 : Int32)) % (12 : Int32))), .unset, .unset, .unset, .unset] [(.int ((p0 &&& (2147483647 : Int32)) % (12 : Int32)))])) _
                          refine st61 _ ?_
                          show Steps p.tables e below (T61.setTop (mkF m 12 #[.val (.int p0), .val (.int ((p0 &&& (2147483647 : Int32)) % (12 : Int32))), .unset, .unset, .unset, .unset] [(.ref w_POINT)])) _
                          refine XS.astoreN X61.here hx rfl (hb hby at_12) rfl rfl (l' := #[.val (.int p0), .val (.int ((p0 &&& (2147483647 : Int32)) % (12 : Int32))), .val (.ref w_POINT), .unset, .unset, .unset]) rfl ?_
                          show Steps p.tables e below (T61.setTop (mkF m 13 #[.val (.int p0), .val (.int ((p0 &&& (2147483647 : Int32)) % (12 : Int32))), .val (.ref w_POINT), .unset, .unset, .unset] [])) _
                          refine XS.aloadN X61.here hx rfl (hb hby at_13) rfl rfl ?_
                          show Steps p.tables e below (T61.setTop (mkF m 14 #[.val (.int p0), .val (.int ((p0 &&& (2147483647 : Int32)) % (12 : Int32))), .val (.ref w_POINT), .unset, .unset, .unset] [(.ref w_POINT)])) _
                          refine st114.trans ?_
                          show Steps p.tables e below (T114.setTop (mkF m 17 #[.val (.int p0), .val (.int ((p0 &&& (2147483647 : Int32)) % (12 : Int32))), .val (.ref w_POINT), .unset, .unset, .unset] [(.int (0 : Int32))])) _
                          refine XS.istoreN X114.here hx rfl (hb hby at_17) rfl (l' := #[.val (.int p0), .val (.int ((p0 &&& (2147483647 : Int32)) % (12 : Int32))), .val (.ref w_POINT), .val (.int (0 : Int32)), .unset, .unset]) rfl ?_
                          show Steps p.tables e below (T114.setTop (mkF m 18 #[.val (.int p0), .val (.int ((p0 &&& (2147483647 : Int32)) % (12 : Int32))), .val (.ref w_POINT), .val (.int (0 : Int32)), .unset, .unset] [])) _
                          refine XS.iloadN X114.here hx rfl (hb hby at_18) rfl ?_
                          show Steps p.tables e below (T114.setTop (mkF m 19 #[.val (.int p0), .val (.int ((p0 &&& (2147483647 : Int32)) % (12 : Int32))), .val (.ref w_POINT), .val (.int (0 : Int32)), .unset, .unset] [(.int ((p0 &&& (2147483647 : Int32)) % (12 : Int32)))])) _
                          refine XS.ifNo X114.here hx rfl (hb hby at_19) rfl ((if0 _ _).trans (feq hs_63).1) ?_
                          show Steps p.tables e below (T114.setTop (mkF m 22 #[.val (.int p0), .val (.int ((p0 &&& (2147483647 : Int32)) % (12 : Int32))), .val (.ref w_POINT), .val (.int (0 : Int32)), .unset, .unset] [])) _
                          refine XS.iloadN X114.here hx rfl (hb hby at_22) rfl ?_
                          show Steps p.tables e below (T114.setTop (mkF m 23 #[.val (.int p0), .val (.int ((p0 &&& (2147483647 : Int32)) % (12 : Int32))), .val (.ref w_POINT), .val (.int (0 : Int32)), .unset, .unset] [(.int ((p0 &&& (2147483647 : Int32)) % (12 : Int32)))])) _
                          refine XS.iconst X114.here hx rfl (hb hby at_23) ?_
                          show Steps p.tables e below (T114.setTop (mkF m 24 #[.val (.int p0), .val (.int ((p0 &&& (2147483647 : Int32)) % (12 : Int32))), .val (.ref w_POINT), .val (.int (0 : Int32)), .unset, .unset] [(.int (1 : Int32)), (.int ((p0 &&& (2147483647 : Int32)) % (12 : Int32)))])) _
                          refine XS.icmpYes X114.here hx rfl (pc0 := 24) (pc' := 31) rfl (hb hby at_24) rfl (feq hs_68).2 (by decide) (by decide) ?_
                          show Steps p.tables e below (T114.setTop (mkF m 31 #[.val (.int p0), .val (.int ((p0 &&& (2147483647 : Int32)) % (12 : Int32))), .val (.ref w_POINT), .val (.int (0 : Int32)), .unset, .unset] [])) _
                          refine XS.iconst X114.here hx rfl (hb hby at_31) ?_
                          show Steps p.tables e below (T114.setTop (mkF m 32 #[.val (.int p0), .val (.int ((p0 &&& (2147483647 : Int32)) % (12 : Int32))), .val (.ref w_POINT), .val (.int (0 : Int32)), .unset, .unset] [(.int (0 : Int32))])) _
                          refine XS.istore X114.here hx rfl (hb hby at_32) rfl (l' := #[.val (.int p0), .val (.int ((p0 &&& (2147483647 : Int32)) % (12 : Int32))), .val (.ref w_POINT), .val (.int (0 : Int32)), .val (.int (0 : Int32)), .unset]) rfl ?_
                          show Steps p.tables e below (T114.setTop (mkF m 34 #[.val (.int p0), .val (.int ((p0 &&& (2147483647 : Int32)) % (12 : Int32))), .val (.ref w_POINT), .val (.int (0 : Int32)), .val (.int (0 : Int32)), .unset] [])) _
                          refine XS.iconst X114.here hx rfl (hb hby at_34) ?_
                          show Steps p.tables e below (T114.setTop (mkF m 35 #[.val (.int p0), .val (.int ((p0 &&& (2147483647 : Int32)) % (12 : Int32))), .val (.ref w_POINT), .val (.int (0 : Int32)), .val (.int (0 : Int32)), .unset] [(.int (0 : Int32))])) _
                          refine XS.istore X114.here hx rfl (hb hby at_35) rfl (l' := #[.val (.int p0), .val (.int ((p0 &&& (2147483647 : Int32)) % (12 : Int32))), .val (.ref w_POINT), .val (.int (0 : Int32)), .val (.int (0 : Int32)), .val (.int (0 : Int32))]) rfl ?_
                          show Steps p.tables e below (T114.setTop (mkF m 37 #[.val (.int p0), .val (.int ((p0 &&& (2147483647 : Int32)) % (12 : Int32))), .val (.ref w_POINT), .val (.int (0 : Int32)), .val (.int (0 : Int32)), .val (.int (0 : Int32))] [])) _
                          refine XS.iloadN X114.here hx rfl (hb hby at_37) rfl ?_
                          show Steps p.tables e below (T114.setTop (mkF m 38 #[.val (.int p0), .val (.int ((p0 &&& (2147483647 : Int32)) % (12 : Int32))), .val (.ref w_POINT), .val (.int (0 : Int32)), .val (.int (0 : Int32)), .val (.int (0 : Int32))] [(.int (0 : Int32))])) _
                          refine XS.ifYes X114.here hx rfl (pc0 := 38) (pc' := 47) rfl (hb hby at_38) rfl ((if0 _ _).trans (teq (by decide : (0 : Int32) = (0 : Int32))).1) (by decide) (by decide) ?_
                          show Steps p.tables e below (T114.setTop (mkF m 47 #[.val (.int p0), .val (.int ((p0 &&& (2147483647 : Int32)) % (12 : Int32))), .val (.ref w_POINT), .val (.int (0 : Int32)), .val (.int (0 : Int32)), .val (.int (0 : Int32))] [])) _
                          refine XS.aloadN X114.here hx rfl (hb hby at_47) rfl rfl ?_
                          show Steps p.tables e below (T114.setTop (mkF m 48 #[.val (.int p0), .val (.int ((p0 &&& (2147483647 : Int32)) % (12 : Int32))), .val (.ref w_POINT), .val (.int (0 : Int32)), .val (.int (0 : Int32)), .val (.int (0 : Int32))] [(.ref w_POINT)])) _
                          refine st115.trans ?_
                          show Steps p.tables e below (T115.setTop (mkF m 51 #[.val (.int p0), .val (.int ((p0 &&& (2147483647 : Int32)) % (12 : Int32))), .val (.ref w_POINT), .val (.int (0 : Int32)), .val (.int (0 : Int32)), .val (.int (0 : Int32))] [(.int (0 : Int32))])) _
                          refine XS.ifYes X115.here hx rfl (pc0 := 51) (pc' := 60) rfl (hb hby at_51) rfl ((if0 _ _).trans (teq (by decide : (0 : Int32) = (0 : Int32))).1) (by decide) (by decide) ?_
                          show Steps p.tables e below (T115.setTop (mkF m 60 #[.val (.int p0), .val (.int ((p0 &&& (2147483647 : Int32)) % (12 : Int32))), .val (.ref w_POINT), .val (.int (0 : Int32)), .val (.int (0 : Int32)), .val (.int (0 : Int32))] [])) _
                          refine XS.aloadN X115.here hx rfl (hb hby at_60) rfl rfl ?_
                          show Steps p.tables e below (T115.setTop (mkF m 61 #[.val (.int p0), .val (.int ((p0 &&& (2147483647 : Int32)) % (12 : Int32))), .val (.ref w_POINT), .val (.int (0 : Int32)), .val (.int (0 : Int32)), .val (.int (0 : Int32))] [(.ref w_POINT)])) _
                          refine st116.trans ?_
                          show Steps p.tables e below (T116.setTop (mkF m 64 #[.val (.int p0), .val (.int ((p0 &&& (2147483647 : Int32)) % (12 : Int32))), .val (.ref w_POINT), .val (.int (0 : Int32)), .val (.int (0 : Int32)), .val (.int (0 : Int32))] [(.int (0 : Int32))])) _
                          refine XS.ifYes X116.here hx rfl (pc0 := 64) (pc' := 73) rfl (hb hby at_64) rfl ((if0 _ _).trans (teq (by decide : (0 : Int32) = (0 : Int32))).1) (by decide) (by decide) ?_
                          show Steps p.tables e below (T116.setTop (mkF m 73 #[.val (.int p0), .val (.int ((p0 &&& (2147483647 : Int32)) % (12 : Int32))), .val (.ref w_POINT), .val (.int (0 : Int32)), .val (.int (0 : Int32)), .val (.int (0 : Int32))] [])) _
                          refine XS.aloadN X116.here hx rfl (hb hby at_73) rfl rfl ?_
                          show Steps p.tables e below (T116.setTop (mkF m 74 #[.val (.int p0), .val (.int ((p0 &&& (2147483647 : Int32)) % (12 : Int32))), .val (.ref w_POINT), .val (.int (0 : Int32)), .val (.int (0 : Int32)), .val (.int (0 : Int32))] [(.ref w_POINT)])) _
                          refine st117.trans ?_
                          show Steps p.tables e below (T117.setTop (mkF m 77 #[.val (.int p0), .val (.int ((p0 &&& (2147483647 : Int32)) % (12 : Int32))), .val (.ref w_POINT), .val (.int (0 : Int32)), .val (.int (0 : Int32)), .val (.int (0 : Int32))] [(.int (1 : Int32))])) _
                          refine XS.ifNo X117.here hx rfl (hb hby at_77) rfl ((if0 _ _).trans (feq (by decide : ¬ ((1 : Int32) = (0 : Int32)))).1) ?_
                          show Steps p.tables e below (T117.setTop (mkF m 80 #[.val (.int p0), .val (.int ((p0 &&& (2147483647 : Int32)) % (12 : Int32))), .val (.ref w_POINT), .val (.int (0 : Int32)), .val (.int (0 : Int32)), .val (.int (0 : Int32))] [])) _
                          refine XS.iload X117.here hx rfl (hb hby at_80) rfl ?_
                          show Steps p.tables e below (T117.setTop (mkF m 82 #[.val (.int p0), .val (.int ((p0 &&& (2147483647 : Int32)) % (12 : Int32))), .val (.ref w_POINT), .val (.int (0 : Int32)), .val (.int (0 : Int32)), .val (.int (0 : Int32))] [(.int (0 : Int32))])) _
                          refine XS.iconst X117.here hx rfl (hb hby at_82) ?_
                          show Steps p.tables e below (T117.setTop (mkF m 83 #[.val (.int p0), .val (.int ((p0 &&& (2147483647 : Int32)) % (12 : Int32))), .val (.ref w_POINT), .val (.int (0 : Int32)), .val (.int (0 : Int32)), .val (.int (0 : Int32))] [(.int (1 : Int32)), (.int (0 : Int32))])) _
                          refine XS.iadd X117.here hx rfl (hb hby at_83) rfl ?_
                          show Steps p.tables e below (T117.setTop (mkF m 84 #[.val (.int p0), .val (.int ((p0 &&& (2147483647 : Int32)) % (12 : Int32))), .val (.ref w_POINT), .val (.int (0 : Int32)), .val (.int (0 : Int32)), .val (.int (0 : Int32))] [(.int ((0 : Int32) + (1 : Int32)))])) _
                          refine XS.istore X117.here hx rfl (hb hby at_84) rfl (l' := #[.val (.int p0), .val (.int ((p0 &&& (2147483647 : Int32)) % (12 : Int32))), .val (.ref w_POINT), .val (.int (0 : Int32)), .val (.int (0 : Int32)), .val (.int ((0 : Int32) + (1 : Int32)))]) rfl ?_
                          show Steps p.tables e below (T117.setTop (mkF m 86 #[.val (.int p0), .val (.int ((p0 &&& (2147483647 : Int32)) % (12 : Int32))), .val (.ref w_POINT), .val (.int (0 : Int32)), .val (.int (0 : Int32)), .val (.int ((0 : Int32) + (1 : Int32)))] [])) _
                          refine XS.iloadN X117.here hx rfl (hb hby at_86) rfl ?_
                          show Steps p.tables e below (T117.setTop (mkF m 87 #[.val (.int p0), .val (.int ((p0 &&& (2147483647 : Int32)) % (12 : Int32))), .val (.ref w_POINT), .val (.int (0 : Int32)), .val (.int (0 : Int32)), .val (.int ((0 : Int32) + (1 : Int32)))] [(.int (0 : Int32))])) _
                          refine XS.iload X117.here hx rfl (hb hby at_87) rfl ?_
                          show Steps p.tables e below (T117.setTop (mkF m 89 #[.val (.int p0), .val (.int ((p0 &&& (2147483647 : Int32)) % (12 : Int32))), .val (.ref w_POINT), .val (.int (0 : Int32)), .val (.int (0 : Int32)), .val (.int ((0 : Int32) + (1 : Int32)))] [(.int (0 : Int32)), (.int (0 : Int32))])) _
                          refine XS.icmpNo X117.here hx rfl (hb hby at_89) rfl (teq (by decide : (0 : Int32) = (0 : Int32))).2 ?_
                          show Steps p.tables e below (T117.setTop (mkF m 92 #[.val (.int p0), .val (.int ((p0 &&& (2147483647 : Int32)) % (12 : Int32))), .val (.ref w_POINT), .val (.int (0 : Int32)), .val (.int (0 : Int32)), .val (.int ((0 : Int32) + (1 : Int32)))] [])) _
                          refine XS.iload X117.here hx rfl (hb hby at_92) rfl ?_
                          show Steps p.tables e below (T117.setTop (mkF m 94 #[.val (.int p0), .val (.int ((p0 &&& (2147483647 : Int32)) % (12 : Int32))), .val (.ref w_POINT), .val (.int (0 : Int32)), .val (.int (0 : Int32)), .val (.int ((0 : Int32) + (1 : Int32)))] [(.int ((0 : Int32) + (1 : Int32)))])) _
                          refine XS.iconst X117.here hx rfl (hb hby at_94) ?_
                          show Steps p.tables e below (T117.setTop (mkF m 95 #[.val (.int p0), .val (.int ((p0 &&& (2147483647 : Int32)) % (12 : Int32))), .val (.ref w_POINT), .val (.int (0 : Int32)), .val (.int (0 : Int32)), .val (.int ((0 : Int32) + (1 : Int32)))] [(.int (1 : Int32)), (.int ((0 : Int32) + (1 : Int32)))])) _
                          refine XS.icmpNo X117.here hx rfl (hb hby at_95) rfl (teq (by decide : ((0 : Int32) + (1 : Int32)) = (1 : Int32))).2 ?_
                          show Steps p.tables e below (T117.setTop (mkF m 98 #[.val (.int p0), .val (.int ((p0 &&& (2147483647 : Int32)) % (12 : Int32))), .val (.ref w_POINT), .val (.int (0 : Int32)), .val (.int (0 : Int32)), .val (.int ((0 : Int32) + (1 : Int32)))] [])) _
                          refine XS.iconst X117.here hx rfl (hb hby at_98) ?_
                          show Steps p.tables e below (T117.setTop (mkF m 99 #[.val (.int p0), .val (.int ((p0 &&& (2147483647 : Int32)) % (12 : Int32))), .val (.ref w_POINT), .val (.int (0 : Int32)), .val (.int (0 : Int32)), .val (.int ((0 : Int32) + (1 : Int32)))] [(.int (1 : Int32))])) _
                          refine XS.goto X117.here hx rfl (pc0 := 99) (pc' := 103) rfl (hb hby at_99) (by decide) (by decide) ?_
                          show Steps p.tables e below (T117.setTop (mkF m 103 #[.val (.int p0), .val (.int ((p0 &&& (2147483647 : Int32)) % (12 : Int32))), .val (.ref w_POINT), .val (.int (0 : Int32)), .val (.int (0 : Int32)), .val (.int ((0 : Int32) + (1 : Int32)))] [(.int (1 : Int32))])) _
                          exact retN X117 hx (t := .boolean) Bd.returns (by simp) (hb hby at_103) hr
                        · show Q_law Z p0 w_BIT w_BOOLEAN w_UNSIGNED_BYTE w_SHORT w_INT w_LONG w_FLOAT w_DOUBLE w_CHAR w_UNICODE_CHAR w_POINT w_CIRCLE mr x_CIRCLE x_POINT h0 n0 _ T117.heap _
                          refine ⟨?_, N117, trivial⟩
                          rw [F_law, if_neg hs_63, if_neg hs_68, if_neg hs_73, if_neg hs_78, if_neg hs_83, if_neg hs_88, if_neg hs_93, if_neg hs_98, if_neg hs_103, if_neg hs_108, if_pos hs_113]
                      · have q61 : (F_pick ((p0 &&& (2147483647 : Int32)) % (12 : Int32)) w_BIT w_BOOLEAN w_UNSIGNED_BYTE w_SHORT w_INT w_LONG w_FLOAT w_DOUBLE w_CHAR w_UNICODE_CHAR w_POINT w_CIRCLE) = w_CIRCLE := by rw [F_pick, if_neg hs_63, if_neg hs_68, if_neg hs_73, if_neg hs_78, if_neg hs_83, if_neg hs_88, if_neg hs_93, if_neg hs_98, if_neg hs_103, if_neg hs_108, if_neg hs_113]
                        rw [q61] at st61
                        obtain ⟨cq118, kq118, q118a, q118b, q118c⟩ := isOf hZ e61 E_CIRCLE
                        obtain ⟨_, _, ⟨T118, L118, k118, n118⟩, -, X118, ⟨Lc118, hQ118, l118, y118, z118⟩, st118⟩ := X61.virtualBack hx (y := (⟨"com/example/starquarry/starquarry/model/ColumnType", "isLogical", "()Z"⟩ : MethodName)) (z := (⟨"com/example/starquarry/starquarry/model/ColumnType", "isLogical", "()Z"⟩ : MethodName)) hown (mvT hZ (hw _ (List.mem_of_getElem? (i := 8) rfl))) (mvT hZ (hw _ (List.mem_of_getElem? (i := 9) rfl))) (notFace_of_selects (args := #[]) (mvT hZ (hw _ (List.mem_of_getElem? (i := 11) rfl)))) (mvT hZ (hw _ (List.mem_of_getElem? (i := 11) rfl))) (mvT hZ (hw _ (List.mem_of_getElem? (i := 10) rfl))) (by decide) (backOf (W := 0) (rm_lg l Z a0' hw [] w_CIRCLE w_BIT w_BOOLEAN h0 n0 Z0 S_BIT S_BOOLEAN) hZ (hw _ (List.mem_of_getElem? (i := 12) rfl)) (hw _ (List.mem_of_getElem? (i := 6) rfl)) (by decide) (by decide)) q118a q118c (g := (mkF m 14 #[.val (.int p0), .val (.int ((p0 &&& (2147483647 : Int32)) % (12 : Int32))), .val (.ref w_CIRCLE), .unset, .unset, .unset] [(.ref w_CIRCLE)])) rfl (by rw [hml]; rfl) (Steps.refl _) (argsL := []) (rest := []) (lenOf own_pd2 rfl) rfl (by show 2 * 0 + _ ≤ _; exact Nat.le_of_eq rfl) (hb hby at_14) (fun _ _ => ⟨rfl, e61, (by decide : 0 + 0 ≤ _), (by decide : 0 + 0 ≤ _)⟩)
                        dsimp only [Pt.U, Pt.locs, Pt.cells, Pt.slots] at X118 l118 y118 z118 st118 hQ118
                        subst l118 y118 z118
                        obtain ⟨rfl, N118q, e118⟩ := hQ118
                        have N118 := Fr.app N61 N118q
                        have q118 : (F_lg w_CIRCLE w_BIT w_BOOLEAN) = (0 : Int32) := by rw [F_lg, if_neg ne_CIRCLE_BIT, if_neg ne_CIRCLE_BOOLEAN]
                        rw [q118] at st118
                        obtain ⟨cq119, kq119, q119a, q119b, q119c⟩ := isOf hZ e118 E_CIRCLE
                        obtain ⟨_, _, ⟨T119, L119, k119, n119⟩, -, X119, ⟨Lc119, hQ119, l119, y119, z119⟩, st119⟩ := X118.virtualBack hx (y := (⟨"com/example/starquarry/starquarry/model/ColumnType", "isNumber", "()Z"⟩ : MethodName)) (z := (⟨"com/example/starquarry/starquarry/model/ColumnType", "isNumber", "()Z"⟩ : MethodName)) hown (mvT hZ (hw _ (List.mem_of_getElem? (i := 14) rfl))) (mvT hZ (hw _ (List.mem_of_getElem? (i := 15) rfl))) (notFace_of_selects (args := #[]) (mvT hZ (hw _ (List.mem_of_getElem? (i := 17) rfl)))) (mvT hZ (hw _ (List.mem_of_getElem? (i := 17) rfl))) (mvT hZ (hw _ (List.mem_of_getElem? (i := 16) rfl))) (by decide) (backOf (W := 0) (rm_num l Z a0' hw [] w_CIRCLE (11 : Int32) w_UNSIGNED_BYTE w_DOUBLE mr h0 n0 Z0 E_CIRCLE FO_CIRCLE S_UNSIGNED_BYTE E_UNSIGNED_BYTE S_DOUBLE E_DOUBLE MM FO_UNSIGNED_BYTE FO_DOUBLE) hZ (hw _ (List.mem_of_getElem? (i := 18) rfl)) (hw _ (List.mem_of_getElem? (i := 6) rfl)) (by decide) (by decide)) q119a q119c (g := (mkF m 48 #[.val (.int p0), .val (.int ((p0 &&& (2147483647 : Int32)) % (12 : Int32))), .val (.ref w_CIRCLE), .val (.int (0 : Int32)), .val (.int (0 : Int32)), .val (.int (0 : Int32))] [(.ref w_CIRCLE)])) rfl (by rw [hml]; rfl) (Steps.refl _) (argsL := []) (rest := []) (lenOf own_pd2 rfl) rfl (by show 2 * 0 + _ ≤ _; exact Nat.le_of_eq rfl) (hb hby at_48) (fun _ _ => ⟨rfl, e118, (by decide : 0 + 0 ≤ _), (by decide : 0 + 0 ≤ _)⟩)
                        dsimp only [Pt.U, Pt.locs, Pt.cells, Pt.slots] at X119 l119 y119 z119 st119 hQ119
                        subst l119 y119 z119
                        obtain ⟨rfl, N119q, e119⟩ := hQ119
                        have N119 := Fr.app N118 N119q
                        have q119 : (F_num (11 : Int32)) = (0 : Int32) := by unfold F_num F_cmp; decide
                        rw [q119] at st119
                        obtain ⟨cq120, kq120, q120a, q120b, q120c⟩ := isOf hZ e119 E_CIRCLE
                        obtain ⟨_, _, ⟨T120, L120, k120, n120⟩, -, X120, ⟨Lc120, hQ120, l120, y120, z120⟩, st120⟩ := X119.virtualBack hx (y := (⟨"com/example/starquarry/starquarry/model/ColumnType", "isText", "()Z"⟩ : MethodName)) (z := (⟨"com/example/starquarry/starquarry/model/ColumnType", "isText", "()Z"⟩ : MethodName)) hown (mvT hZ (hw _ (List.mem_of_getElem? (i := 36) rfl))) (mvT hZ (hw _ (List.mem_of_getElem? (i := 37) rfl))) (notFace_of_selects (args := #[]) (mvT hZ (hw _ (List.mem_of_getElem? (i := 39) rfl)))) (mvT hZ (hw _ (List.mem_of_getElem? (i := 39) rfl))) (mvT hZ (hw _ (List.mem_of_getElem? (i := 38) rfl))) (by decide) (backOf (W := 0) (rm_tx l Z a0' hw [] w_CIRCLE w_CHAR w_UNICODE_CHAR h0 n0 Z0 S_CHAR S_UNICODE_CHAR) hZ (hw _ (List.mem_of_getElem? (i := 40) rfl)) (hw _ (List.mem_of_getElem? (i := 6) rfl)) (by decide) (by decide)) q120a q120c (g := (mkF m 61 #[.val (.int p0), .val (.int ((p0 &&& (2147483647 : Int32)) % (12 : Int32))), .val (.ref w_CIRCLE), .val (.int (0 : Int32)), .val (.int (0 : Int32)), .val (.int (0 : Int32))] [(.ref w_CIRCLE)])) rfl (by rw [hml]; rfl) (Steps.refl _) (argsL := []) (rest := []) (lenOf own_pd2 rfl) rfl (by show 2 * 0 + _ ≤ _; exact Nat.le_of_eq rfl) (hb hby at_61) (fun _ _ => ⟨rfl, e119, (by decide : 0 + 0 ≤ _), (by decide : 0 + 0 ≤ _)⟩)
                        dsimp only [Pt.U, Pt.locs, Pt.cells, Pt.slots] at X120 l120 y120 z120 st120 hQ120
                        subst l120 y120 z120
                        obtain ⟨rfl, N120q, e120⟩ := hQ120
                        have N120 := Fr.app N119 N120q
                        have q120 : (F_tx w_CIRCLE w_CHAR w_UNICODE_CHAR) = (0 : Int32) := by rw [F_tx, if_neg ne_CIRCLE_CHAR, if_neg ne_CIRCLE_UNICODE_CHAR]
                        rw [q120] at st120
                        obtain ⟨cq121, kq121, q121a, q121b, q121c⟩ := isOf hZ e120 E_CIRCLE
                        obtain ⟨_, _, ⟨T121, L121, k121, n121⟩, -, X121, ⟨Lc121, hQ121, l121, y121, z121⟩, st121⟩ := X120.virtualBack hx (y := (⟨"com/example/starquarry/starquarry/model/ColumnType", "isGeometry", "()Z"⟩ : MethodName)) (z := (⟨"com/example/starquarry/starquarry/model/ColumnType", "isGeometry", "()Z"⟩ : MethodName)) hown (mvT hZ (hw _ (List.mem_of_getElem? (i := 45) rfl))) (mvT hZ (hw _ (List.mem_of_getElem? (i := 46) rfl))) (notFace_of_selects (args := #[]) (mvT hZ (hw _ (List.mem_of_getElem? (i := 48) rfl)))) (mvT hZ (hw _ (List.mem_of_getElem? (i := 48) rfl))) (mvT hZ (hw _ (List.mem_of_getElem? (i := 47) rfl))) (by decide) (backOf (W := 0) (rm_geoR l Z a0' hw [] w_CIRCLE x_CIRCLE h0 n0 Z0 FX_CIRCLE) hZ (hw _ (List.mem_of_getElem? (i := 49) rfl)) (hw _ (List.mem_of_getElem? (i := 6) rfl)) (by decide) (by decide)) q121a q121c (g := (mkF m 74 #[.val (.int p0), .val (.int ((p0 &&& (2147483647 : Int32)) % (12 : Int32))), .val (.ref w_CIRCLE), .val (.int (0 : Int32)), .val (.int (0 : Int32)), .val (.int (0 : Int32))] [(.ref w_CIRCLE)])) rfl (by rw [hml]; rfl) (Steps.refl _) (argsL := []) (rest := []) (lenOf own_pd2 rfl) rfl (by show 2 * 0 + _ ≤ _; exact Nat.le_of_eq rfl) (hb hby at_74) (fun _ _ => ⟨rfl, e120, (by decide : 0 + 0 ≤ _), (by decide : 0 + 0 ≤ _)⟩)
                        dsimp only [Pt.U, Pt.locs, Pt.cells, Pt.slots] at X121 l121 y121 z121 st121 hQ121
                        subst l121 y121 z121
                        obtain ⟨rfl, N121q, e121⟩ := hQ121
                        have N121 := Fr.app N120 N121q
                        obtain ⟨fs, hr, hrun, hended, hW, hsame⟩ := X121.leave (v := some (.int (1 : Int32))) (fun h => by rw [Bd.returns] at h; cases h)
                        refine ⟨_, _, pre62 _ ?_, hrun, hended, _, _, rfl, ?_, ⟨_, rfl⟩, hW, hsame.mono (by decide) (by decide)⟩
                        · show Steps p.tables e below (s₁.setTop (mkF m 9 #[.val (.int p0), .val (.int ((p0 &&& (2147483647 : Int32)) % (12 : Int32))), .unset, .unset, .unset, .unset] [(.int ((p0 &&& (2147483647 : Int32)) % (12 : Int32)))])) _
                          refine st61 _ ?_
                          show Steps p.tables e below (T61.setTop (mkF m 12 #[.val (.int p0), .val (.int ((p0 &&& (2147483647 : Int32)) % (12 : Int32))), .unset, .unset, .unset, .unset] [(.ref w_CIRCLE)])) _
                          refine XS.astoreN X61.here hx rfl (hb hby at_12) rfl rfl (l' := #[.val (.int p0), .val (.int ((p0 &&& (2147483647 : Int32)) % (12 : Int32))), .val (.ref w_CIRCLE), .unset, .unset, .unset]) rfl ?_
                          show Steps p.tables e below (T61.setTop (mkF m 13 #[.val (.int p0), .val (.int ((p0 &&& (2147483647 : Int32)) % (12 : Int32))), .val (.ref w_CIRCLE), .unset, .unset, .unset] [])) _
                          refine XS.aloadN X61.here hx rfl (hb hby at_13) rfl rfl ?_
                          show Steps p.tables e below (T61.setTop (mkF m 14 #[.val (.int p0), .val (.int ((p0 &&& (2147483647 : Int32)) % (12 : Int32))), .val (.ref w_CIRCLE), .unset, .unset, .unset] [(.ref w_CIRCLE)])) _
                          refine st118.trans ?_
                          show Steps p.tables e below (T118.setTop (mkF m 17 #[.val (.int p0), .val (.int ((p0 &&& (2147483647 : Int32)) % (12 : Int32))), .val (.ref w_CIRCLE), .unset, .unset, .unset] [(.int (0 : Int32))])) _
                          refine XS.istoreN X118.here hx rfl (hb hby at_17) rfl (l' := #[.val (.int p0), .val (.int ((p0 &&& (2147483647 : Int32)) % (12 : Int32))), .val (.ref w_CIRCLE), .val (.int (0 : Int32)), .unset, .unset]) rfl ?_
                          show Steps p.tables e below (T118.setTop (mkF m 18 #[.val (.int p0), .val (.int ((p0 &&& (2147483647 : Int32)) % (12 : Int32))), .val (.ref w_CIRCLE), .val (.int (0 : Int32)), .unset, .unset] [])) _
                          refine XS.iloadN X118.here hx rfl (hb hby at_18) rfl ?_
                          show Steps p.tables e below (T118.setTop (mkF m 19 #[.val (.int p0), .val (.int ((p0 &&& (2147483647 : Int32)) % (12 : Int32))), .val (.ref w_CIRCLE), .val (.int (0 : Int32)), .unset, .unset] [(.int ((p0 &&& (2147483647 : Int32)) % (12 : Int32)))])) _
                          refine XS.ifNo X118.here hx rfl (hb hby at_19) rfl ((if0 _ _).trans (feq hs_63).1) ?_
                          show Steps p.tables e below (T118.setTop (mkF m 22 #[.val (.int p0), .val (.int ((p0 &&& (2147483647 : Int32)) % (12 : Int32))), .val (.ref w_CIRCLE), .val (.int (0 : Int32)), .unset, .unset] [])) _
                          refine XS.iloadN X118.here hx rfl (hb hby at_22) rfl ?_
                          show Steps p.tables e below (T118.setTop (mkF m 23 #[.val (.int p0), .val (.int ((p0 &&& (2147483647 : Int32)) % (12 : Int32))), .val (.ref w_CIRCLE), .val (.int (0 : Int32)), .unset, .unset] [(.int ((p0 &&& (2147483647 : Int32)) % (12 : Int32)))])) _
                          refine XS.iconst X118.here hx rfl (hb hby at_23) ?_
                          show Steps p.tables e below (T118.setTop (mkF m 24 #[.val (.int p0), .val (.int ((p0 &&& (2147483647 : Int32)) % (12 : Int32))), .val (.ref w_CIRCLE), .val (.int (0 : Int32)), .unset, .unset] [(.int (1 : Int32)), (.int ((p0 &&& (2147483647 : Int32)) % (12 : Int32)))])) _
                          refine XS.icmpYes X118.here hx rfl (pc0 := 24) (pc' := 31) rfl (hb hby at_24) rfl (feq hs_68).2 (by decide) (by decide) ?_
                          show Steps p.tables e below (T118.setTop (mkF m 31 #[.val (.int p0), .val (.int ((p0 &&& (2147483647 : Int32)) % (12 : Int32))), .val (.ref w_CIRCLE), .val (.int (0 : Int32)), .unset, .unset] [])) _
                          refine XS.iconst X118.here hx rfl (hb hby at_31) ?_
                          show Steps p.tables e below (T118.setTop (mkF m 32 #[.val (.int p0), .val (.int ((p0 &&& (2147483647 : Int32)) % (12 : Int32))), .val (.ref w_CIRCLE), .val (.int (0 : Int32)), .unset, .unset] [(.int (0 : Int32))])) _
                          refine XS.istore X118.here hx rfl (hb hby at_32) rfl (l' := #[.val (.int p0), .val (.int ((p0 &&& (2147483647 : Int32)) % (12 : Int32))), .val (.ref w_CIRCLE), .val (.int (0 : Int32)), .val (.int (0 : Int32)), .unset]) rfl ?_
                          show Steps p.tables e below (T118.setTop (mkF m 34 #[.val (.int p0), .val (.int ((p0 &&& (2147483647 : Int32)) % (12 : Int32))), .val (.ref w_CIRCLE), .val (.int (0 : Int32)), .val (.int (0 : Int32)), .unset] [])) _
                          refine XS.iconst X118.here hx rfl (hb hby at_34) ?_
                          show Steps p.tables e below (T118.setTop (mkF m 35 #[.val (.int p0), .val (.int ((p0 &&& (2147483647 : Int32)) % (12 : Int32))), .val (.ref w_CIRCLE), .val (.int (0 : Int32)), .val (.int (0 : Int32)), .unset] [(.int (0 : Int32))])) _
                          refine XS.istore X118.here hx rfl (hb hby at_35) rfl (l' := #[.val (.int p0), .val (.int ((p0 &&& (2147483647 : Int32)) % (12 : Int32))), .val (.ref w_CIRCLE), .val (.int (0 : Int32)), .val (.int (0 : Int32)), .val (.int (0 : Int32))]) rfl ?_
                          show Steps p.tables e below (T118.setTop (mkF m 37 #[.val (.int p0), .val (.int ((p0 &&& (2147483647 : Int32)) % (12 : Int32))), .val (.ref w_CIRCLE), .val (.int (0 : Int32)), .val (.int (0 : Int32)), .val (.int (0 : Int32))] [])) _
                          refine XS.iloadN X118.here hx rfl (hb hby at_37) rfl ?_
                          show Steps p.tables e below (T118.setTop (mkF m 38 #[.val (.int p0), .val (.int ((p0 &&& (2147483647 : Int32)) % (12 : Int32))), .val (.ref w_CIRCLE), .val (.int (0 : Int32)), .val (.int (0 : Int32)), .val (.int (0 : Int32))] [(.int (0 : Int32))])) _
                          refine XS.ifYes X118.here hx rfl (pc0 := 38) (pc' := 47) rfl (hb hby at_38) rfl ((if0 _ _).trans (teq (by decide : (0 : Int32) = (0 : Int32))).1) (by decide) (by decide) ?_
                          show Steps p.tables e below (T118.setTop (mkF m 47 #[.val (.int p0), .val (.int ((p0 &&& (2147483647 : Int32)) % (12 : Int32))), .val (.ref w_CIRCLE), .val (.int (0 : Int32)), .val (.int (0 : Int32)), .val (.int (0 : Int32))] [])) _
                          refine XS.aloadN X118.here hx rfl (hb hby at_47) rfl rfl ?_
                          show Steps p.tables e below (T118.setTop (mkF m 48 #[.val (.int p0), .val (.int ((p0 &&& (2147483647 : Int32)) % (12 : Int32))), .val (.ref w_CIRCLE), .val (.int (0 : Int32)), .val (.int (0 : Int32)), .val (.int (0 : Int32))] [(.ref w_CIRCLE)])) _
                          refine st119.trans ?_
                          show Steps p.tables e below (T119.setTop (mkF m 51 #[.val (.int p0), .val (.int ((p0 &&& (2147483647 : Int32)) % (12 : Int32))), .val (.ref w_CIRCLE), .val (.int (0 : Int32)), .val (.int (0 : Int32)), .val (.int (0 : Int32))] [(.int (0 : Int32))])) _
                          refine XS.ifYes X119.here hx rfl (pc0 := 51) (pc' := 60) rfl (hb hby at_51) rfl ((if0 _ _).trans (teq (by decide : (0 : Int32) = (0 : Int32))).1) (by decide) (by decide) ?_
                          show Steps p.tables e below (T119.setTop (mkF m 60 #[.val (.int p0), .val (.int ((p0 &&& (2147483647 : Int32)) % (12 : Int32))), .val (.ref w_CIRCLE), .val (.int (0 : Int32)), .val (.int (0 : Int32)), .val (.int (0 : Int32))] [])) _
                          refine XS.aloadN X119.here hx rfl (hb hby at_60) rfl rfl ?_
                          show Steps p.tables e below (T119.setTop (mkF m 61 #[.val (.int p0), .val (.int ((p0 &&& (2147483647 : Int32)) % (12 : Int32))), .val (.ref w_CIRCLE), .val (.int (0 : Int32)), .val (.int (0 : Int32)), .val (.int (0 : Int32))] [(.ref w_CIRCLE)])) _
                          refine st120.trans ?_
                          show Steps p.tables e below (T120.setTop (mkF m 64 #[.val (.int p0), .val (.int ((p0 &&& (2147483647 : Int32)) % (12 : Int32))), .val (.ref w_CIRCLE), .val (.int (0 : Int32)), .val (.int (0 : Int32)), .val (.int (0 : Int32))] [(.int (0 : Int32))])) _
                          refine XS.ifYes X120.here hx rfl (pc0 := 64) (pc' := 73) rfl (hb hby at_64) rfl ((if0 _ _).trans (teq (by decide : (0 : Int32) = (0 : Int32))).1) (by decide) (by decide) ?_
                          show Steps p.tables e below (T120.setTop (mkF m 73 #[.val (.int p0), .val (.int ((p0 &&& (2147483647 : Int32)) % (12 : Int32))), .val (.ref w_CIRCLE), .val (.int (0 : Int32)), .val (.int (0 : Int32)), .val (.int (0 : Int32))] [])) _
                          refine XS.aloadN X120.here hx rfl (hb hby at_73) rfl rfl ?_
                          show Steps p.tables e below (T120.setTop (mkF m 74 #[.val (.int p0), .val (.int ((p0 &&& (2147483647 : Int32)) % (12 : Int32))), .val (.ref w_CIRCLE), .val (.int (0 : Int32)), .val (.int (0 : Int32)), .val (.int (0 : Int32))] [(.ref w_CIRCLE)])) _
                          refine st121.trans ?_
                          show Steps p.tables e below (T121.setTop (mkF m 77 #[.val (.int p0), .val (.int ((p0 &&& (2147483647 : Int32)) % (12 : Int32))), .val (.ref w_CIRCLE), .val (.int (0 : Int32)), .val (.int (0 : Int32)), .val (.int (0 : Int32))] [(.int (1 : Int32))])) _
                          refine XS.ifNo X121.here hx rfl (hb hby at_77) rfl ((if0 _ _).trans (feq (by decide : ¬ ((1 : Int32) = (0 : Int32)))).1) ?_
                          show Steps p.tables e below (T121.setTop (mkF m 80 #[.val (.int p0), .val (.int ((p0 &&& (2147483647 : Int32)) % (12 : Int32))), .val (.ref w_CIRCLE), .val (.int (0 : Int32)), .val (.int (0 : Int32)), .val (.int (0 : Int32))] [])) _
                          refine XS.iload X121.here hx rfl (hb hby at_80) rfl ?_
                          show Steps p.tables e below (T121.setTop (mkF m 82 #[.val (.int p0), .val (.int ((p0 &&& (2147483647 : Int32)) % (12 : Int32))), .val (.ref w_CIRCLE), .val (.int (0 : Int32)), .val (.int (0 : Int32)), .val (.int (0 : Int32))] [(.int (0 : Int32))])) _
                          refine XS.iconst X121.here hx rfl (hb hby at_82) ?_
                          show Steps p.tables e below (T121.setTop (mkF m 83 #[.val (.int p0), .val (.int ((p0 &&& (2147483647 : Int32)) % (12 : Int32))), .val (.ref w_CIRCLE), .val (.int (0 : Int32)), .val (.int (0 : Int32)), .val (.int (0 : Int32))] [(.int (1 : Int32)), (.int (0 : Int32))])) _
                          refine XS.iadd X121.here hx rfl (hb hby at_83) rfl ?_
                          show Steps p.tables e below (T121.setTop (mkF m 84 #[.val (.int p0), .val (.int ((p0 &&& (2147483647 : Int32)) % (12 : Int32))), .val (.ref w_CIRCLE), .val (.int (0 : Int32)), .val (.int (0 : Int32)), .val (.int (0 : Int32))] [(.int ((0 : Int32) + (1 : Int32)))])) _
                          refine XS.istore X121.here hx rfl (hb hby at_84) rfl (l' := #[.val (.int p0), .val (.int ((p0 &&& (2147483647 : Int32)) % (12 : Int32))), .val (.ref w_CIRCLE), .val (.int (0 : Int32)), .val (.int (0 : Int32)), .val (.int ((0 : Int32) + (1 : Int32)))]) rfl ?_
                          show Steps p.tables e below (T121.setTop (mkF m 86 #[.val (.int p0), .val (.int ((p0 &&& (2147483647 : Int32)) % (12 : Int32))), .val (.ref w_CIRCLE), .val (.int (0 : Int32)), .val (.int (0 : Int32)), .val (.int ((0 : Int32) + (1 : Int32)))] [])) _
                          refine XS.iloadN X121.here hx rfl (hb hby at_86) rfl ?_
                          show Steps p.tables e below (T121.setTop (mkF m 87 #[.val (.int p0), .val (.int ((p0 &&& (2147483647 : Int32)) % (12 : Int32))), .val (.ref w_CIRCLE), .val (.int (0 : Int32)), .val (.int (0 : Int32)), .val (.int ((0 : Int32) + (1 : Int32)))] [(.int (0 : Int32))])) _
                          refine XS.iload X121.here hx rfl (hb hby at_87) rfl ?_
                          show Steps p.tables e below (T121.setTop (mkF m 89 #[.val (.int p0), .val (.int ((p0 &&& (2147483647 : Int32)) % (12 : Int32))), .val (.ref w_CIRCLE), .val (.int (0 : Int32)), .val (.int (0 : Int32)), .val (.int ((0 : Int32) + (1 : Int32)))] [(.int (0 : Int32)), (.int (0 : Int32))])) _
                          refine XS.icmpNo X121.here hx rfl (hb hby at_89) rfl (teq (by decide : (0 : Int32) = (0 : Int32))).2 ?_
                          show Steps p.tables e below (T121.setTop (mkF m 92 #[.val (.int p0), .val (.int ((p0 &&& (2147483647 : Int32)) % (12 : Int32))), .val (.ref w_CIRCLE), .val (.int (0 : Int32)), .val (.int (0 : Int32)), .val (.int ((0 : Int32) + (1 : Int32)))] [])) _
                          refine XS.iload X121.here hx rfl (hb hby at_92) rfl ?_
                          show Steps p.tables e below (T121.setTop (mkF m 94 #[.val (.int p0), .val (.int ((p0 &&& (2147483647 : Int32)) % (12 : Int32))), .val (.ref w_CIRCLE), .val (.int (0 : Int32)), .val (.int (0 : Int32)), .val (.int ((0 : Int32) + (1 : Int32)))] [(.int ((0 : Int32) + (1 : Int32)))])) _
                          refine XS.iconst X121.here hx rfl (hb hby at_94) ?_
                          show Steps p.tables e below (T121.setTop (mkF m 95 #[.val (.int p0), .val (.int ((p0 &&& (2147483647 : Int32)) % (12 : Int32))), .val (.ref w_CIRCLE), .val (.int (0 : Int32)), .val (.int (0 : Int32)), .val (.int ((0 : Int32) + (1 : Int32)))] [(.int (1 : Int32)), (.int ((0 : Int32) + (1 : Int32)))])) _
                          refine XS.icmpNo X121.here hx rfl (hb hby at_95) rfl (teq (by decide : ((0 : Int32) + (1 : Int32)) = (1 : Int32))).2 ?_
                          show Steps p.tables e below (T121.setTop (mkF m 98 #[.val (.int p0), .val (.int ((p0 &&& (2147483647 : Int32)) % (12 : Int32))), .val (.ref w_CIRCLE), .val (.int (0 : Int32)), .val (.int (0 : Int32)), .val (.int ((0 : Int32) + (1 : Int32)))] [])) _
                          refine XS.iconst X121.here hx rfl (hb hby at_98) ?_
                          show Steps p.tables e below (T121.setTop (mkF m 99 #[.val (.int p0), .val (.int ((p0 &&& (2147483647 : Int32)) % (12 : Int32))), .val (.ref w_CIRCLE), .val (.int (0 : Int32)), .val (.int (0 : Int32)), .val (.int ((0 : Int32) + (1 : Int32)))] [(.int (1 : Int32))])) _
                          refine XS.goto X121.here hx rfl (pc0 := 99) (pc' := 103) rfl (hb hby at_99) (by decide) (by decide) ?_
                          show Steps p.tables e below (T121.setTop (mkF m 103 #[.val (.int p0), .val (.int ((p0 &&& (2147483647 : Int32)) % (12 : Int32))), .val (.ref w_CIRCLE), .val (.int (0 : Int32)), .val (.int (0 : Int32)), .val (.int ((0 : Int32) + (1 : Int32)))] [(.int (1 : Int32))])) _
                          exact retN X121 hx (t := .boolean) Bd.returns (by simp) (hb hby at_103) hr
                        · show Q_law Z p0 w_BIT w_BOOLEAN w_UNSIGNED_BYTE w_SHORT w_INT w_LONG w_FLOAT w_DOUBLE w_CHAR w_UNICODE_CHAR w_POINT w_CIRCLE mr x_CIRCLE x_POINT h0 n0 _ T121.heap _
                          refine ⟨?_, N121, trivial⟩
                          rw [F_law, if_neg hs_63, if_neg hs_68, if_neg hs_73, if_neg hs_78, if_neg hs_83, if_neg hs_88, if_neg hs_93, if_neg hs_98, if_neg hs_103, if_neg hs_108, if_neg hs_113]
theorem own_law (p0 : Int32) : F_law p0 = 1 := by
  unfold F_law
  repeat' split
  all_goals rfl
set_option maxRecDepth 65536 in
set_option maxHeartbeats 40000000 in
theorem own_comes {Post : Tables → Env → Array Value → State → Outcome → State → Prop} (hpost : ∀ tb e args s v u, (limb_1_1.after args s (.returned v) u = true ∧ limb_1_2.after args s (.returned v) u = true ∧ True) → FrameEnd s (.returned v) u (Jvm.fieldLocs frame_1_writes args s ++ Jvm.arrayLocs frame_1_arrays args s ++ Jvm.staticLocs frame_1_statics s) 0 0 → Post tb e args s (.returned v) u) :
    ArmFor flags0 classFile x code maxLocals ret World_1 tables_1 room_1 Calls_1 rest_1 Pre_1 Post := by
  intro l hfl _ _ p e ha hc hk s m args below hf hA hF happ hP
  obtain ⟨hcalls, hrest, hpre⟩ := hP
  obtain ⟨-, -, -, hnamed, -, -, -, hat⟩ := (Spec.applies_iff hf).mp happ
  obtain ⟨hg, hn⟩ := and_e (Cond.before_iff.mp (show (Jvm.Cond.and given_1 narrow_1).before args s = true from hpre))
  obtain ⟨g1, g1'⟩ := and_e hg
  obtain ⟨g2, g2'⟩ := and_e hn
  obtain ⟨g3, g3'⟩ := and_e g2'
  obtain ⟨g4, g4'⟩ := and_e g3'
  obtain ⟨g5, g5'⟩ := and_e g4'
  obtain ⟨g6, g6'⟩ := and_e g5'
  obtain ⟨g7, g7'⟩ := and_e g6'
  obtain ⟨g8, g8'⟩ := and_e g7'
  obtain ⟨g9, g9'⟩ := and_e g8'
  obtain ⟨g10, g10'⟩ := and_e g9'
  obtain ⟨g11, g11'⟩ := and_e g10'
  obtain ⟨g12, g12'⟩ := and_e g11'
  obtain ⟨g13, g13'⟩ := and_e g12'
  obtain ⟨g14, g14'⟩ := and_e g13'
  obtain ⟨g15, g15'⟩ := and_e g14'
  obtain ⟨g16, g16'⟩ := and_e g15'
  obtain ⟨g17, g17'⟩ := and_e g16'
  obtain ⟨g18, g18'⟩ := and_e g17'
  obtain ⟨g19, g19'⟩ := and_e g18'
  obtain ⟨g20, g20'⟩ := and_e g19'
  obtain ⟨g21, g21'⟩ := and_e g20'
  obtain ⟨g22, g22'⟩ := and_e g21'
  obtain ⟨g23, g23'⟩ := and_e g22'
  obtain ⟨g24, g24'⟩ := and_e g23'
  obtain ⟨g25, g25'⟩ := and_e g24'
  obtain ⟨g26, g26'⟩ := and_e g25'
  obtain ⟨g27, g27'⟩ := and_e g26'
  obtain ⟨g28, g28'⟩ := and_e g27'
  obtain ⟨g29, g29'⟩ := and_e g28'
  obtain ⟨g30, g30'⟩ := and_e g29'
  obtain ⟨g31, g31'⟩ := and_e g30'
  obtain ⟨g32, g32'⟩ := and_e g31'
  obtain ⟨g33, g33'⟩ := and_e g32'
  obtain ⟨g34, g34'⟩ := and_e g33'
  obtain ⟨g35, g35'⟩ := and_e g34'
  obtain ⟨g36, g36'⟩ := and_e g35'
  obtain ⟨u0, rfl⟩ : ∃ u0 : Value, args = #[u0] := by
    have hs : args.size = 1 := by simpa [Cond.value, given_1] using g1
    obtain ⟨L⟩ := args
    match L, hs with
    | [u0], _ => exact ⟨u0, rfl⟩
  have hw := fun d (hd : d ∈ tables_1) => atoms_spec (ws := Jvm.Cond.code x code maxLocals ret :: tables_1) hat d (List.mem_cons_of_mem _ hd)
  obtain ⟨i0, ei0⟩ := is_v g1'
  obtain rfl : u0 = (.int i0) := Option.some.inj ei0
  obtain ⟨w_BIT, ev_BIT⟩ := exa_v g2
  have E_BIT := Exa.start ev_BIT g2
  have S_BIT := Sta.start ev_BIT (Or.inr ⟨(hw _ (List.mem_of_getElem? (i := 6) rfl)), (hw _ (List.mem_of_getElem? (i := 7) rfl))⟩)
  obtain ⟨w_UNSIGNED_BYTE, ev_UNSIGNED_BYTE⟩ := exa_v g3
  have E_UNSIGNED_BYTE := Exa.start ev_UNSIGNED_BYTE g3
  have S_UNSIGNED_BYTE := Sta.start ev_UNSIGNED_BYTE (Or.inr ⟨(hw _ (List.mem_of_getElem? (i := 6) rfl)), (hw _ (List.mem_of_getElem? (i := 20) rfl))⟩)
  obtain ⟨w_CHAR, ev_CHAR⟩ := exa_v g6
  have E_CHAR := Exa.start ev_CHAR g6
  have S_CHAR := Sta.start ev_CHAR (Or.inr ⟨(hw _ (List.mem_of_getElem? (i := 6) rfl)), (hw _ (List.mem_of_getElem? (i := 42) rfl))⟩)
  obtain ⟨w_UNICODE_CHAR, ev_UNICODE_CHAR⟩ := exa_v g8
  have E_UNICODE_CHAR := Exa.start ev_UNICODE_CHAR g8
  have S_UNICODE_CHAR := Sta.start ev_UNICODE_CHAR (Or.inr ⟨(hw _ (List.mem_of_getElem? (i := 6) rfl)), (hw _ (List.mem_of_getElem? (i := 44) rfl))⟩)
  obtain ⟨w_SHORT, ev_SHORT⟩ := exa_v g11
  have E_SHORT := Exa.start ev_SHORT g11
  have S_SHORT := Sta.start ev_SHORT (Or.inr ⟨(hw _ (List.mem_of_getElem? (i := 6) rfl)), (hw _ (List.mem_of_getElem? (i := 53) rfl))⟩)
  obtain ⟨w_BOOLEAN, ev_BOOLEAN⟩ := exa_v g13
  have E_BOOLEAN := Exa.start ev_BOOLEAN g13
  have S_BOOLEAN := Sta.start ev_BOOLEAN (Or.inr ⟨(hw _ (List.mem_of_getElem? (i := 6) rfl)), (hw _ (List.mem_of_getElem? (i := 55) rfl))⟩)
  obtain ⟨w_DOUBLE, ev_DOUBLE⟩ := exa_v g15
  have E_DOUBLE := Exa.start ev_DOUBLE g15
  have S_DOUBLE := Sta.start ev_DOUBLE (Or.inr ⟨(hw _ (List.mem_of_getElem? (i := 6) rfl)), (hw _ (List.mem_of_getElem? (i := 57) rfl))⟩)
  obtain ⟨w_CIRCLE, ev_CIRCLE⟩ := exa_v g20
  have E_CIRCLE := Exa.start ev_CIRCLE g20
  have S_CIRCLE := Sta.start ev_CIRCLE (Or.inr ⟨(hw _ (List.mem_of_getElem? (i := 6) rfl)), (hw _ (List.mem_of_getElem? (i := 61) rfl))⟩)
  obtain ⟨w_INT, ev_INT⟩ := exa_v g23
  have E_INT := Exa.start ev_INT g23
  have S_INT := Sta.start ev_INT (Or.inr ⟨(hw _ (List.mem_of_getElem? (i := 6) rfl)), (hw _ (List.mem_of_getElem? (i := 63) rfl))⟩)
  obtain ⟨w_POINT, ev_POINT⟩ := exa_v g28
  have E_POINT := Exa.start ev_POINT g28
  have S_POINT := Sta.start ev_POINT (Or.inr ⟨(hw _ (List.mem_of_getElem? (i := 6) rfl)), (hw _ (List.mem_of_getElem? (i := 67) rfl))⟩)
  obtain ⟨w_FLOAT, ev_FLOAT⟩ := exa_v g32
  have E_FLOAT := Exa.start ev_FLOAT g32
  have S_FLOAT := Sta.start ev_FLOAT (Or.inr ⟨(hw _ (List.mem_of_getElem? (i := 6) rfl)), (hw _ (List.mem_of_getElem? (i := 70) rfl))⟩)
  obtain ⟨w_LONG, ev_LONG⟩ := exa_v g35
  have E_LONG := Exa.start ev_LONG g35
  have S_LONG := Sta.start ev_LONG (Or.inr ⟨(hw _ (List.mem_of_getElem? (i := 6) rfl)), (hw _ (List.mem_of_getElem? (i := 72) rfl))⟩)
  obtain ⟨x_CIRCLE, evx_CIRCLE⟩ := exa_v g22
  have FX_CIRCLE := Fld.start ((fld_at ev_CIRCLE).symm.trans evx_CIRCLE)
  obtain ⟨x_POINT, evx_POINT⟩ := exa_v g30
  have FX_POINT := Fld.start ((fld_at ev_POINT).symm.trans evx_POINT)
  have FX_BIT := Fld.start ((fld_at ev_BIT).symm.trans (null_v g10))
  have FX_SHORT := Fld.start ((fld_at ev_SHORT).symm.trans (null_v g17))
  have FX_UNSIGNED_BYTE := Fld.start ((fld_at ev_UNSIGNED_BYTE).symm.trans (null_v g18))
  have FX_DOUBLE := Fld.start ((fld_at ev_DOUBLE).symm.trans (null_v g19))
  have FX_INT := Fld.start ((fld_at ev_INT).symm.trans (null_v g25))
  have FX_CHAR := Fld.start ((fld_at ev_CHAR).symm.trans (null_v g26))
  have FX_BOOLEAN := Fld.start ((fld_at ev_BOOLEAN).symm.trans (null_v g27))
  have FX_UNICODE_CHAR := Fld.start ((fld_at ev_UNICODE_CHAR).symm.trans (null_v g31))
  have FX_FLOAT := Fld.start ((fld_at ev_FLOAT).symm.trans (null_v g34))
  have FX_LONG := Fld.start ((fld_at ev_LONG).symm.trans (null_v g36'))
  have o_BIT := (fld_at ev_BIT).symm.trans (own_eqk g4)
  have o_UNSIGNED_BYTE := (fld_at ev_UNSIGNED_BYTE).symm.trans (own_eqk g5)
  have o_CHAR := (fld_at ev_CHAR).symm.trans (own_eqk g7)
  have o_UNICODE_CHAR := (fld_at ev_UNICODE_CHAR).symm.trans (own_eqk g9)
  have o_SHORT := (fld_at ev_SHORT).symm.trans (own_eqk g12)
  have o_BOOLEAN := (fld_at ev_BOOLEAN).symm.trans (own_eqk g14)
  have o_DOUBLE := (fld_at ev_DOUBLE).symm.trans (own_eqk g16)
  have o_CIRCLE := (fld_at ev_CIRCLE).symm.trans (own_eqk g21)
  have o_INT := (fld_at ev_INT).symm.trans (own_eqk g24)
  have o_POINT := (fld_at ev_POINT).symm.trans (own_eqk g29)
  have o_FLOAT := (fld_at ev_FLOAT).symm.trans (own_eqk g33)
  have o_LONG := (fld_at ev_LONG).symm.trans (own_eqk g36)
  have ne_BIT_CHAR : ¬ (w_BIT = w_CHAR) := fun q => by
    have q2 : s.fieldOf? w_BIT "java/lang/Enum" "ordinal" "I" = s.fieldOf? w_CHAR "java/lang/Enum" "ordinal" "I" := by rw [q]
    rw [o_BIT, o_CHAR] at q2
    simp at q2
  have ne_BIT_UNICODE_CHAR : ¬ (w_BIT = w_UNICODE_CHAR) := fun q => by
    have q2 : s.fieldOf? w_BIT "java/lang/Enum" "ordinal" "I" = s.fieldOf? w_UNICODE_CHAR "java/lang/Enum" "ordinal" "I" := by rw [q]
    rw [o_BIT, o_UNICODE_CHAR] at q2
    simp at q2
  have ne_BOOLEAN_BIT : ¬ (w_BOOLEAN = w_BIT) := fun q => by
    have q2 : s.fieldOf? w_BOOLEAN "java/lang/Enum" "ordinal" "I" = s.fieldOf? w_BIT "java/lang/Enum" "ordinal" "I" := by rw [q]
    rw [o_BOOLEAN, o_BIT] at q2
    simp at q2
  have ne_BOOLEAN_CHAR : ¬ (w_BOOLEAN = w_CHAR) := fun q => by
    have q2 : s.fieldOf? w_BOOLEAN "java/lang/Enum" "ordinal" "I" = s.fieldOf? w_CHAR "java/lang/Enum" "ordinal" "I" := by rw [q]
    rw [o_BOOLEAN, o_CHAR] at q2
    simp at q2
  have ne_BOOLEAN_UNICODE_CHAR : ¬ (w_BOOLEAN = w_UNICODE_CHAR) := fun q => by
    have q2 : s.fieldOf? w_BOOLEAN "java/lang/Enum" "ordinal" "I" = s.fieldOf? w_UNICODE_CHAR "java/lang/Enum" "ordinal" "I" := by rw [q]
    rw [o_BOOLEAN, o_UNICODE_CHAR] at q2
    simp at q2
  have ne_UNSIGNED_BYTE_BIT : ¬ (w_UNSIGNED_BYTE = w_BIT) := fun q => by
    have q2 : s.fieldOf? w_UNSIGNED_BYTE "java/lang/Enum" "ordinal" "I" = s.fieldOf? w_BIT "java/lang/Enum" "ordinal" "I" := by rw [q]
    rw [o_UNSIGNED_BYTE, o_BIT] at q2
    simp at q2
  have ne_UNSIGNED_BYTE_BOOLEAN : ¬ (w_UNSIGNED_BYTE = w_BOOLEAN) := fun q => by
    have q2 : s.fieldOf? w_UNSIGNED_BYTE "java/lang/Enum" "ordinal" "I" = s.fieldOf? w_BOOLEAN "java/lang/Enum" "ordinal" "I" := by rw [q]
    rw [o_UNSIGNED_BYTE, o_BOOLEAN] at q2
    simp at q2
  have ne_UNSIGNED_BYTE_CHAR : ¬ (w_UNSIGNED_BYTE = w_CHAR) := fun q => by
    have q2 : s.fieldOf? w_UNSIGNED_BYTE "java/lang/Enum" "ordinal" "I" = s.fieldOf? w_CHAR "java/lang/Enum" "ordinal" "I" := by rw [q]
    rw [o_UNSIGNED_BYTE, o_CHAR] at q2
    simp at q2
  have ne_UNSIGNED_BYTE_UNICODE_CHAR : ¬ (w_UNSIGNED_BYTE = w_UNICODE_CHAR) := fun q => by
    have q2 : s.fieldOf? w_UNSIGNED_BYTE "java/lang/Enum" "ordinal" "I" = s.fieldOf? w_UNICODE_CHAR "java/lang/Enum" "ordinal" "I" := by rw [q]
    rw [o_UNSIGNED_BYTE, o_UNICODE_CHAR] at q2
    simp at q2
  have ne_SHORT_BIT : ¬ (w_SHORT = w_BIT) := fun q => by
    have q2 : s.fieldOf? w_SHORT "java/lang/Enum" "ordinal" "I" = s.fieldOf? w_BIT "java/lang/Enum" "ordinal" "I" := by rw [q]
    rw [o_SHORT, o_BIT] at q2
    simp at q2
  have ne_SHORT_BOOLEAN : ¬ (w_SHORT = w_BOOLEAN) := fun q => by
    have q2 : s.fieldOf? w_SHORT "java/lang/Enum" "ordinal" "I" = s.fieldOf? w_BOOLEAN "java/lang/Enum" "ordinal" "I" := by rw [q]
    rw [o_SHORT, o_BOOLEAN] at q2
    simp at q2
  have ne_SHORT_CHAR : ¬ (w_SHORT = w_CHAR) := fun q => by
    have q2 : s.fieldOf? w_SHORT "java/lang/Enum" "ordinal" "I" = s.fieldOf? w_CHAR "java/lang/Enum" "ordinal" "I" := by rw [q]
    rw [o_SHORT, o_CHAR] at q2
    simp at q2
  have ne_SHORT_UNICODE_CHAR : ¬ (w_SHORT = w_UNICODE_CHAR) := fun q => by
    have q2 : s.fieldOf? w_SHORT "java/lang/Enum" "ordinal" "I" = s.fieldOf? w_UNICODE_CHAR "java/lang/Enum" "ordinal" "I" := by rw [q]
    rw [o_SHORT, o_UNICODE_CHAR] at q2
    simp at q2
  have ne_INT_BIT : ¬ (w_INT = w_BIT) := fun q => by
    have q2 : s.fieldOf? w_INT "java/lang/Enum" "ordinal" "I" = s.fieldOf? w_BIT "java/lang/Enum" "ordinal" "I" := by rw [q]
    rw [o_INT, o_BIT] at q2
    simp at q2
  have ne_INT_BOOLEAN : ¬ (w_INT = w_BOOLEAN) := fun q => by
    have q2 : s.fieldOf? w_INT "java/lang/Enum" "ordinal" "I" = s.fieldOf? w_BOOLEAN "java/lang/Enum" "ordinal" "I" := by rw [q]
    rw [o_INT, o_BOOLEAN] at q2
    simp at q2
  have ne_INT_CHAR : ¬ (w_INT = w_CHAR) := fun q => by
    have q2 : s.fieldOf? w_INT "java/lang/Enum" "ordinal" "I" = s.fieldOf? w_CHAR "java/lang/Enum" "ordinal" "I" := by rw [q]
    rw [o_INT, o_CHAR] at q2
    simp at q2
  have ne_INT_UNICODE_CHAR : ¬ (w_INT = w_UNICODE_CHAR) := fun q => by
    have q2 : s.fieldOf? w_INT "java/lang/Enum" "ordinal" "I" = s.fieldOf? w_UNICODE_CHAR "java/lang/Enum" "ordinal" "I" := by rw [q]
    rw [o_INT, o_UNICODE_CHAR] at q2
    simp at q2
  have ne_LONG_BIT : ¬ (w_LONG = w_BIT) := fun q => by
    have q2 : s.fieldOf? w_LONG "java/lang/Enum" "ordinal" "I" = s.fieldOf? w_BIT "java/lang/Enum" "ordinal" "I" := by rw [q]
    rw [o_LONG, o_BIT] at q2
    simp at q2
  have ne_LONG_BOOLEAN : ¬ (w_LONG = w_BOOLEAN) := fun q => by
    have q2 : s.fieldOf? w_LONG "java/lang/Enum" "ordinal" "I" = s.fieldOf? w_BOOLEAN "java/lang/Enum" "ordinal" "I" := by rw [q]
    rw [o_LONG, o_BOOLEAN] at q2
    simp at q2
  have ne_LONG_CHAR : ¬ (w_LONG = w_CHAR) := fun q => by
    have q2 : s.fieldOf? w_LONG "java/lang/Enum" "ordinal" "I" = s.fieldOf? w_CHAR "java/lang/Enum" "ordinal" "I" := by rw [q]
    rw [o_LONG, o_CHAR] at q2
    simp at q2
  have ne_LONG_UNICODE_CHAR : ¬ (w_LONG = w_UNICODE_CHAR) := fun q => by
    have q2 : s.fieldOf? w_LONG "java/lang/Enum" "ordinal" "I" = s.fieldOf? w_UNICODE_CHAR "java/lang/Enum" "ordinal" "I" := by rw [q]
    rw [o_LONG, o_UNICODE_CHAR] at q2
    simp at q2
  have ne_FLOAT_BIT : ¬ (w_FLOAT = w_BIT) := fun q => by
    have q2 : s.fieldOf? w_FLOAT "java/lang/Enum" "ordinal" "I" = s.fieldOf? w_BIT "java/lang/Enum" "ordinal" "I" := by rw [q]
    rw [o_FLOAT, o_BIT] at q2
    simp at q2
  have ne_FLOAT_BOOLEAN : ¬ (w_FLOAT = w_BOOLEAN) := fun q => by
    have q2 : s.fieldOf? w_FLOAT "java/lang/Enum" "ordinal" "I" = s.fieldOf? w_BOOLEAN "java/lang/Enum" "ordinal" "I" := by rw [q]
    rw [o_FLOAT, o_BOOLEAN] at q2
    simp at q2
  have ne_FLOAT_CHAR : ¬ (w_FLOAT = w_CHAR) := fun q => by
    have q2 : s.fieldOf? w_FLOAT "java/lang/Enum" "ordinal" "I" = s.fieldOf? w_CHAR "java/lang/Enum" "ordinal" "I" := by rw [q]
    rw [o_FLOAT, o_CHAR] at q2
    simp at q2
  have ne_FLOAT_UNICODE_CHAR : ¬ (w_FLOAT = w_UNICODE_CHAR) := fun q => by
    have q2 : s.fieldOf? w_FLOAT "java/lang/Enum" "ordinal" "I" = s.fieldOf? w_UNICODE_CHAR "java/lang/Enum" "ordinal" "I" := by rw [q]
    rw [o_FLOAT, o_UNICODE_CHAR] at q2
    simp at q2
  have ne_DOUBLE_BIT : ¬ (w_DOUBLE = w_BIT) := fun q => by
    have q2 : s.fieldOf? w_DOUBLE "java/lang/Enum" "ordinal" "I" = s.fieldOf? w_BIT "java/lang/Enum" "ordinal" "I" := by rw [q]
    rw [o_DOUBLE, o_BIT] at q2
    simp at q2
  have ne_DOUBLE_BOOLEAN : ¬ (w_DOUBLE = w_BOOLEAN) := fun q => by
    have q2 : s.fieldOf? w_DOUBLE "java/lang/Enum" "ordinal" "I" = s.fieldOf? w_BOOLEAN "java/lang/Enum" "ordinal" "I" := by rw [q]
    rw [o_DOUBLE, o_BOOLEAN] at q2
    simp at q2
  have ne_DOUBLE_CHAR : ¬ (w_DOUBLE = w_CHAR) := fun q => by
    have q2 : s.fieldOf? w_DOUBLE "java/lang/Enum" "ordinal" "I" = s.fieldOf? w_CHAR "java/lang/Enum" "ordinal" "I" := by rw [q]
    rw [o_DOUBLE, o_CHAR] at q2
    simp at q2
  have ne_DOUBLE_UNICODE_CHAR : ¬ (w_DOUBLE = w_UNICODE_CHAR) := fun q => by
    have q2 : s.fieldOf? w_DOUBLE "java/lang/Enum" "ordinal" "I" = s.fieldOf? w_UNICODE_CHAR "java/lang/Enum" "ordinal" "I" := by rw [q]
    rw [o_DOUBLE, o_UNICODE_CHAR] at q2
    simp at q2
  have ne_CHAR_BIT : ¬ (w_CHAR = w_BIT) := fun q => by
    have q2 : s.fieldOf? w_CHAR "java/lang/Enum" "ordinal" "I" = s.fieldOf? w_BIT "java/lang/Enum" "ordinal" "I" := by rw [q]
    rw [o_CHAR, o_BIT] at q2
    simp at q2
  have ne_CHAR_BOOLEAN : ¬ (w_CHAR = w_BOOLEAN) := fun q => by
    have q2 : s.fieldOf? w_CHAR "java/lang/Enum" "ordinal" "I" = s.fieldOf? w_BOOLEAN "java/lang/Enum" "ordinal" "I" := by rw [q]
    rw [o_CHAR, o_BOOLEAN] at q2
    simp at q2
  have ne_UNICODE_CHAR_BIT : ¬ (w_UNICODE_CHAR = w_BIT) := fun q => by
    have q2 : s.fieldOf? w_UNICODE_CHAR "java/lang/Enum" "ordinal" "I" = s.fieldOf? w_BIT "java/lang/Enum" "ordinal" "I" := by rw [q]
    rw [o_UNICODE_CHAR, o_BIT] at q2
    simp at q2
  have ne_UNICODE_CHAR_BOOLEAN : ¬ (w_UNICODE_CHAR = w_BOOLEAN) := fun q => by
    have q2 : s.fieldOf? w_UNICODE_CHAR "java/lang/Enum" "ordinal" "I" = s.fieldOf? w_BOOLEAN "java/lang/Enum" "ordinal" "I" := by rw [q]
    rw [o_UNICODE_CHAR, o_BOOLEAN] at q2
    simp at q2
  have ne_UNICODE_CHAR_CHAR : ¬ (w_UNICODE_CHAR = w_CHAR) := fun q => by
    have q2 : s.fieldOf? w_UNICODE_CHAR "java/lang/Enum" "ordinal" "I" = s.fieldOf? w_CHAR "java/lang/Enum" "ordinal" "I" := by rw [q]
    rw [o_UNICODE_CHAR, o_CHAR] at q2
    simp at q2
  have ne_POINT_BIT : ¬ (w_POINT = w_BIT) := fun q => by
    have q2 : s.fieldOf? w_POINT "java/lang/Enum" "ordinal" "I" = s.fieldOf? w_BIT "java/lang/Enum" "ordinal" "I" := by rw [q]
    rw [o_POINT, o_BIT] at q2
    simp at q2
  have ne_POINT_BOOLEAN : ¬ (w_POINT = w_BOOLEAN) := fun q => by
    have q2 : s.fieldOf? w_POINT "java/lang/Enum" "ordinal" "I" = s.fieldOf? w_BOOLEAN "java/lang/Enum" "ordinal" "I" := by rw [q]
    rw [o_POINT, o_BOOLEAN] at q2
    simp at q2
  have ne_POINT_CHAR : ¬ (w_POINT = w_CHAR) := fun q => by
    have q2 : s.fieldOf? w_POINT "java/lang/Enum" "ordinal" "I" = s.fieldOf? w_CHAR "java/lang/Enum" "ordinal" "I" := by rw [q]
    rw [o_POINT, o_CHAR] at q2
    simp at q2
  have ne_POINT_UNICODE_CHAR : ¬ (w_POINT = w_UNICODE_CHAR) := fun q => by
    have q2 : s.fieldOf? w_POINT "java/lang/Enum" "ordinal" "I" = s.fieldOf? w_UNICODE_CHAR "java/lang/Enum" "ordinal" "I" := by rw [q]
    rw [o_POINT, o_UNICODE_CHAR] at q2
    simp at q2
  have ne_CIRCLE_BIT : ¬ (w_CIRCLE = w_BIT) := fun q => by
    have q2 : s.fieldOf? w_CIRCLE "java/lang/Enum" "ordinal" "I" = s.fieldOf? w_BIT "java/lang/Enum" "ordinal" "I" := by rw [q]
    rw [o_CIRCLE, o_BIT] at q2
    simp at q2
  have ne_CIRCLE_BOOLEAN : ¬ (w_CIRCLE = w_BOOLEAN) := fun q => by
    have q2 : s.fieldOf? w_CIRCLE "java/lang/Enum" "ordinal" "I" = s.fieldOf? w_BOOLEAN "java/lang/Enum" "ordinal" "I" := by rw [q]
    rw [o_CIRCLE, o_BOOLEAN] at q2
    simp at q2
  have ne_CIRCLE_CHAR : ¬ (w_CIRCLE = w_CHAR) := fun q => by
    have q2 : s.fieldOf? w_CIRCLE "java/lang/Enum" "ordinal" "I" = s.fieldOf? w_CHAR "java/lang/Enum" "ordinal" "I" := by rw [q]
    rw [o_CIRCLE, o_CHAR] at q2
    simp at q2
  have ne_CIRCLE_UNICODE_CHAR : ¬ (w_CIRCLE = w_UNICODE_CHAR) := fun q => by
    have q2 : s.fieldOf? w_CIRCLE "java/lang/Enum" "ordinal" "I" = s.fieldOf? w_UNICODE_CHAR "java/lang/Enum" "ordinal" "I" := by rw [q]
    rw [o_CIRCLE, o_UNICODE_CHAR] at q2
    simp at q2
  have FO_BIT := Fld.start o_BIT
  have FO_BOOLEAN := Fld.start o_BOOLEAN
  have FO_UNSIGNED_BYTE := Fld.start o_UNSIGNED_BYTE
  have FO_SHORT := Fld.start o_SHORT
  have FO_INT := Fld.start o_INT
  have FO_LONG := Fld.start o_LONG
  have FO_FLOAT := Fld.start o_FLOAT
  have FO_DOUBLE := Fld.start o_DOUBLE
  have FO_CHAR := Fld.start o_CHAR
  have FO_UNICODE_CHAR := Fld.start o_UNICODE_CHAR
  have FO_POINT := Fld.start o_POINT
  have FO_CIRCLE := Fld.start o_CIRCLE
  obtain ⟨⟨cM, kM, mr, q1, q2, q3, q4⟩, -⟩ := hcalls
  have MM : Mir s "com/example/starquarry/starquarry/model/ColumnType" mr := ⟨cM, kM, q1, q2, q3, q4⟩
  have hlaw := own_law i0
  obtain ⟨n, o, h1, h2, h3, v, L, rfl, ⟨hv, N, -⟩, hq⟩ := rm_law l s _ hw tables_1 i0 w_BIT w_BOOLEAN w_UNSIGNED_BYTE w_SHORT w_INT w_LONG w_FLOAT w_DOUBLE w_CHAR w_UNICODE_CHAR w_POINT w_CIRCLE mr x_CIRCLE x_POINT s.heap s.heap.size (Nat.le_refl _) S_BIT E_BIT S_BOOLEAN E_BOOLEAN S_UNSIGNED_BYTE E_UNSIGNED_BYTE S_SHORT E_SHORT S_INT E_INT S_LONG E_LONG S_FLOAT E_FLOAT S_DOUBLE E_DOUBLE S_CHAR E_CHAR S_UNICODE_CHAR E_UNICODE_CHAR S_POINT E_POINT S_CIRCLE E_CIRCLE ne_BIT_CHAR ne_BIT_UNICODE_CHAR ne_BOOLEAN_BIT ne_BOOLEAN_CHAR ne_BOOLEAN_UNICODE_CHAR ne_UNSIGNED_BYTE_BIT ne_UNSIGNED_BYTE_BOOLEAN ne_UNSIGNED_BYTE_CHAR ne_UNSIGNED_BYTE_UNICODE_CHAR ne_SHORT_BIT ne_SHORT_BOOLEAN ne_SHORT_CHAR ne_SHORT_UNICODE_CHAR ne_INT_BIT ne_INT_BOOLEAN ne_INT_CHAR ne_INT_UNICODE_CHAR ne_LONG_BIT ne_LONG_BOOLEAN ne_LONG_CHAR ne_LONG_UNICODE_CHAR ne_FLOAT_BIT ne_FLOAT_BOOLEAN ne_FLOAT_CHAR ne_FLOAT_UNICODE_CHAR ne_DOUBLE_BIT ne_DOUBLE_BOOLEAN ne_DOUBLE_CHAR ne_DOUBLE_UNICODE_CHAR ne_CHAR_BIT ne_CHAR_BOOLEAN ne_UNICODE_CHAR_BIT ne_UNICODE_CHAR_BOOLEAN ne_UNICODE_CHAR_CHAR ne_POINT_BIT ne_POINT_BOOLEAN ne_POINT_CHAR ne_POINT_UNICODE_CHAR ne_CIRCLE_BIT ne_CIRCLE_BOOLEAN ne_CIRCLE_CHAR ne_CIRCLE_UNICODE_CHAR MM FO_BIT FO_BOOLEAN FO_UNSIGNED_BYTE FO_SHORT FO_INT FO_LONG FO_FLOAT FO_DOUBLE FO_CHAR FO_UNICODE_CHAR FO_POINT FO_CIRCLE FX_BIT FX_SHORT FX_UNSIGNED_BYTE FX_DOUBLE FX_INT FX_CHAR FX_BOOLEAN FX_UNICODE_CHAR FX_FLOAT FX_LONG FX_CIRCLE FX_POINT p e ha hc hk s m _ below hf ((Spec.applies_iff_loose hf).mp happ).1 ⟨rfl, State.Warmed39.refl s, rfl⟩ trivial
  rw [hlaw] at hv
  subst hv
  refine ⟨n, _, h1, h2, h3, hpost _ _ _ _ _ _ ⟨Cond.after_iff.mpr rfl, Cond.after_iff.mpr (eq_i res_at (Term.int_eval (1)) rfl), trivial⟩ ⟨hq.1, hq.2.1, (hq.2.2.sift fun y hy => Or.inr (N y hy)).mono (by decide) (by decide)⟩⟩
theorem main_1_1 : Claimed_1_1 := own_comes fun _ _ _ _ _ _ h hF => ⟨h.1, hF⟩
theorem main_1_2 : Claimed_1_2 := own_comes fun _ _ _ _ _ _ h hF => ⟨h.2.1, hF⟩
end Jvm.Pilot.@@N@@
namespace Jvm.Pilot.@@N@@
open Jvm Jvm.ClassFile Sem Op Lib Jvm.Free Jvm.Stand Jvm.Pilot.@@N@@.Jvm.D
/-! MADE BY PROGRAM (witnessworld.py) out of the Statement's table words and the real class files: 16 classes; the members and pool entries that the words name. The judged class is class 1, her method 2. -/
namespace start1
open Jvm.ClassFile
def u (s : String) : CpInfo := .utf8 (stringToUtf16 s)
/-- a pool by its gaps: so many unusable entries, then the entry; so many at the end -/
def gap : Nat → List CpInfo → List CpInfo
  | 0, r => r
  | n + 1, r => .unusable :: gap n r
def poolList (es : List (Nat × CpInfo)) (last : Nat) : List CpInfo := es.foldr (fun e r => gap e.1 (e.2 :: r)) (gap last [])
def pool (es : List (Nat × CpInfo)) (last : Nat) : Array CpInfo := ⟨poolList es last⟩
def fileOf (pool : Array CpInfo) (this : Nat) (attrs : Array Attribute := #[]) (ms : Array MethodInfo := #[]) (fl : Nat := 33) (sup : Nat := 0) (ifs : Array Nat := #[]) (fds : Array FieldInfo := #[]) : ClassFile where
  minorVersion := 0
  majorVersion := 65
  constantPool := pool
  accessFlags := fl
  thisClass := this
  superClass := sup
  interfaces := ifs
  fields := fds
  methods := ms
  attributes := attrs
def plain (name : String) (sup : Option ClassId) : Class where
  name := name
  kind := .ordinary
  loader := none
  accessFlags := 33
  super := sup
  interfaces := #[]
  cf := none
  fields := #[]
  methods := #[]
  instanceTypes := #[]
  staticTypes := #[]
  resolved := #[]
  callSites := []
  init := .initialized
  statics := none
  mirror := none

def pool0 : Array CpInfo := pool [(5, u "<init>"), (0, u "()V"), (1, .class_ 10), (1, u "java/lang/Object"), (0, u "getClass"), (0, u "()Ljava/lang/Class;")] 111

def k0m0 : Method := { name := "<init>", desc := "()V", sig := { parameters := [], returnType := none }, accessFlags := 1, code := none }
def k0m1 : Method := { name := "getClass", desc := "()Ljava/lang/Class;", sig := { parameters := [], returnType := some (.object "java/lang/Class") }, accessFlags := 273, code := none }
/-- java/lang/Object -/
def k0 : Class := { plain "java/lang/Object" none with
  accessFlags := 33
  interfaces := #[]
  cf := some (fileOf pool0 8 #[] #[{ accessFlags := 1, nameIndex := 5, descriptorIndex := 6, attributes := #[] }, { accessFlags := 273, nameIndex := 11, descriptorIndex := 12, attributes := #[] }] 33 0 #[] #[])
  fields := #[]
  methods := #[k0m0, k0m1]
  instanceTypes := #[]
  staticTypes := #[]
  resolved := Array.replicate 124 none
  statics := none }

def pool1 : Array CpInfo := pool [(2, .class_ 4), (1, u "java/lang/Object"), (0, u "<init>"), (0, u "()V"), (0, .fieldref 8 9), (0, .class_ 10), (0, .nameAndType 11 12), (0, u "com/example/starquarry/starquarry/model/ColumnType"), (0, u "BIT"), (0, u "Lcom/example/starquarry/starquarry/model/ColumnType;"), (0, .fieldref 8 14), (0, .nameAndType 15 12), (0, u "BOOLEAN"), (0, .fieldref 8 17), (0, .nameAndType 18 12), (0, u "UNSIGNED_BYTE"), (0, .fieldref 8 20), (0, .nameAndType 21 12), (0, u "SHORT"), (0, .fieldref 8 23), (0, .nameAndType 24 12), (0, u "INT"), (0, .fieldref 8 26), (0, .nameAndType 27 12), (0, u "LONG"), (0, .fieldref 8 29), (0, .nameAndType 30 12), (0, u "FLOAT"), (0, .fieldref 8 32), (0, .nameAndType 33 12), (0, u "DOUBLE"), (0, .fieldref 8 35), (0, .nameAndType 36 12), (0, u "CHAR"), (0, .fieldref 8 38), (0, .nameAndType 39 12), (0, u "UNICODE_CHAR"), (0, .fieldref 8 41), (0, .nameAndType 42 12), (0, u "POINT"), (0, .fieldref 8 44), (0, .nameAndType 45 12), (0, u "CIRCLE"), (0, .integer 2147483647), (0, .methodref 48 49), (0, .class_ 50), (0, .nameAndType 51 52), (0, u "com/example/starquarry/starquarry/model/ColumnTypeIsLogicalPinLaw"), (0, u "pick"), (0, u "(I)Lcom/example/starquarry/starquarry/model/ColumnType;"), (0, .methodref 8 54), (0, .nameAndType 55 56), (0, u "isLogical"), (0, u "()Z"), (0, .methodref 8 58), (0, .nameAndType 59 56), (0, u "isNumber"), (0, .methodref 8 61), (0, .nameAndType 62 56), (0, u "isText"), (0, .methodref 8 64), (0, .nameAndType 65 56), (0, u "isGeometry"), (3, u "law"), (0, u "(I)Z")] 2

def k1m0 : Method := { name := "<init>", desc := "()V", sig := { parameters := [], returnType := none }, accessFlags := 1, code := none }
def k1c1 : Code := { maxStack := 2, maxLocals := 1, code := method_2_code, exceptionTable := #[], attributes := #[] }
def k1m1 : Method := { name := "pick", desc := "(I)Lcom/example/starquarry/starquarry/model/ColumnType;", sig := { parameters := [.int], returnType := some (.object "com/example/starquarry/starquarry/model/ColumnType") }, accessFlags := 10, code := some k1c1 }
def k1c2 : Code := { maxStack := 2, maxLocals := 6, code := code, exceptionTable := #[], attributes := #[] }
def k1m2 : Method := { name := "law", desc := "(I)Z", sig := { parameters := [.int], returnType := some .boolean }, accessFlags := 9, code := some k1c2 }
/-- com/example/starquarry/starquarry/model/ColumnTypeIsLogicalPinLaw -/
def k1 : Class := { plain "com/example/starquarry/starquarry/model/ColumnTypeIsLogicalPinLaw" (some 0) with
  accessFlags := 49
  interfaces := #[]
  cf := some (fileOf pool1 48 #[] #[{ accessFlags := 1, nameIndex := 5, descriptorIndex := 6, attributes := #[] }, { accessFlags := 10, nameIndex := 51, descriptorIndex := 52, attributes := #[] }, { accessFlags := 9, nameIndex := 69, descriptorIndex := 70, attributes := #[] }] 49 2 #[] #[])
  fields := #[]
  methods := #[k1m0, k1m1, k1m2]
  instanceTypes := #[]
  staticTypes := #[]
  resolved := Array.replicate 73 none
  statics := none }

def pool2 : Array CpInfo := pool [(1, .class_ 2), (0, u "java/lang/constant/Constable"), (0, .class_ 4), (0, u "java/lang/Object")] 6

/-- java/lang/constant/Constable -/
def k2 : Class := { plain "java/lang/constant/Constable" (some 0) with
  accessFlags := 1537
  interfaces := #[]
  cf := some (fileOf pool2 1 #[] #[] 1537 3 #[] #[])
  fields := #[]
  methods := #[]
  instanceTypes := #[]
  staticTypes := #[]
  resolved := Array.replicate 11 none
  statics := none }

def pool3 : Array CpInfo := pool [(1, .class_ 2), (0, u "java/lang/Comparable"), (0, .class_ 4), (0, u "java/lang/Object")] 7

/-- java/lang/Comparable -/
def k3 : Class := { plain "java/lang/Comparable" (some 0) with
  accessFlags := 1537
  interfaces := #[]
  cf := some (fileOf pool3 1 #[] #[] 1537 3 #[] #[])
  fields := #[]
  methods := #[]
  instanceTypes := #[]
  staticTypes := #[]
  resolved := Array.replicate 12 none
  statics := none }

def pool4 : Array CpInfo := pool [(1, .class_ 2), (0, u "java/io/Serializable"), (0, .class_ 4), (0, u "java/lang/Object")] 2

/-- java/io/Serializable -/
def k4 : Class := { plain "java/io/Serializable" (some 0) with
  accessFlags := 1537
  interfaces := #[]
  cf := some (fileOf pool4 1 #[] #[] 1537 3 #[] #[])
  fields := #[]
  methods := #[]
  instanceTypes := #[]
  staticTypes := #[]
  resolved := Array.replicate 7 none
  statics := none }

def pool5 : Array CpInfo := pool [(2, .class_ 4), (1, u "java/lang/Enum"), (0, u "name"), (0, u "Ljava/lang/String;"), (0, .fieldref 2 8), (0, .nameAndType 9 10), (0, u "ordinal"), (0, u "I"), (1, .class_ 14), (1, u "java/lang/Object"), (4, u "hash"), (9, .methodref 12 30), (0, .nameAndType 31 32), (0, u "getClass"), (0, u "()Ljava/lang/Class;"), (70, u "compareTo"), (0, u "(Ljava/lang/Enum;)I"), (1, .class_ 108), (1, u "java/lang/Enum$EnumDesc"), (2, .class_ 112), (0, u "java/lang/constant/Constable"), (0, .class_ 114), (0, u "java/lang/Comparable"), (0, .class_ 116), (0, u "java/io/Serializable")] 87

def k5c0 : Code := { maxStack := 2, maxLocals := 4, code := jdk_37_method_8_code, exceptionTable := #[], attributes := #[] }
def k5m0 : Method := { name := "compareTo", desc := "(Ljava/lang/Enum;)I", sig := { parameters := [(.object "java/lang/Enum")], returnType := some .int }, accessFlags := 17, code := some k5c0 }
/-- java/lang/Enum -/
def k5 : Class := { plain "java/lang/Enum" (some 0) with
  accessFlags := 1057
  interfaces := #[2, 3, 4]
  cf := some (fileOf pool5 2 #[.nestMembers #[106]] #[{ accessFlags := 17, nameIndex := 103, descriptorIndex := 104, attributes := #[] }] 1057 12 #[111, 113, 115] #[{ accessFlags := 18, nameIndex := 5, descriptorIndex := 6, attributes := #[] }, { accessFlags := 18, nameIndex := 9, descriptorIndex := 10, attributes := #[] }, { accessFlags := 2, nameIndex := 19, descriptorIndex := 10, attributes := #[] }])
  fields := #[{ name := "name", type := (.object "java/lang/String"), accessFlags := 18, slot := 0, constantValue := 0 }, { name := "ordinal", type := .int, accessFlags := 18, slot := 1, constantValue := 0 }, { name := "hash", type := .int, accessFlags := 2, slot := 2, constantValue := 0 }]
  methods := #[k5m0]
  instanceTypes := #[(.object "java/lang/String"), .int, .int]
  staticTypes := #[]
  resolved := Array.replicate 204 none
  statics := none }

def pool6 : Array CpInfo := pool [(1, .class_ 2), (0, u "com/example/starquarry/starquarry/model/ColumnType"), (0, .fieldref 1 4), (0, .nameAndType 5 6), (0, u "BIT"), (0, u "Lcom/example/starquarry/starquarry/model/ColumnType;"), (0, .fieldref 1 8), (0, .nameAndType 9 6), (0, u "BOOLEAN"), (0, .fieldref 1 11), (0, .nameAndType 12 6), (0, u "UNSIGNED_BYTE"), (2, u "SHORT"), (2, u "INT"), (2, u "LONG"), (2, u "FLOAT"), (0, .fieldref 1 26), (0, .nameAndType 27 6), (0, u "DOUBLE"), (0, .fieldref 1 29), (0, .nameAndType 30 6), (0, u "CHAR"), (0, .fieldref 1 32), (0, .nameAndType 33 6), (0, u "UNICODE_CHAR"), (2, u "POINT"), (2, u "CIRCLE"), (2, u "$VALUES"), (0, u "[Lcom/example/starquarry/starquarry/model/ColumnType;"), (6, .class_ 52), (1, u "java/lang/Enum"), (11, u "datatype"), (0, u "Ljava/lang/String;"), (2, u "arraysize"), (2, u "valueClass"), (0, u "Ljava/lang/Class;"), (0, .fieldref 1 74), (0, .nameAndType 75 65), (0, u "xtype"), (26, u "isGeometry"), (0, u "()Z"), (0, .methodref 1 105), (0, .nameAndType 106 107), (0, u "compareTo"), (0, u "(Ljava/lang/Enum;)I"), (88, u "isNumber"), (1, u "isLogical"), (0, u "isText")] 28

def k6c0 : Code := { maxStack := 2, maxLocals := 1, code := prog_120_method_11_code, exceptionTable := #[], attributes := #[] }
def k6m0 : Method := { name := "isNumber", desc := "()Z", sig := { parameters := [], returnType := some .boolean }, accessFlags := 1, code := some k6c0 }
def k6c1 : Code := { maxStack := 2, maxLocals := 1, code := prog_120_method_13_code, exceptionTable := #[], attributes := #[] }
def k6m1 : Method := { name := "isLogical", desc := "()Z", sig := { parameters := [], returnType := some .boolean }, accessFlags := 1, code := some k6c1 }
def k6c2 : Code := { maxStack := 2, maxLocals := 1, code := prog_120_method_14_code, exceptionTable := #[], attributes := #[] }
def k6m2 : Method := { name := "isText", desc := "()Z", sig := { parameters := [], returnType := some .boolean }, accessFlags := 1, code := some k6c2 }
def k6c3 : Code := { maxStack := 1, maxLocals := 1, code := prog_120_method_15_code, exceptionTable := #[], attributes := #[] }
def k6m3 : Method := { name := "isGeometry", desc := "()Z", sig := { parameters := [], returnType := some .boolean }, accessFlags := 1, code := some k6c3 }
/-- com/example/starquarry/starquarry/model/ColumnType -/
def k6 : Class := { plain "com/example/starquarry/starquarry/model/ColumnType" (some 5) with
  accessFlags := 16433
  interfaces := #[]
  cf := some (fileOf pool6 1 #[] #[{ accessFlags := 1, nameIndex := 196, descriptorIndex := 103, attributes := #[] }, { accessFlags := 1, nameIndex := 198, descriptorIndex := 103, attributes := #[] }, { accessFlags := 1, nameIndex := 199, descriptorIndex := 103, attributes := #[] }, { accessFlags := 1, nameIndex := 102, descriptorIndex := 103, attributes := #[] }] 16433 50 #[] #[{ accessFlags := 16409, nameIndex := 5, descriptorIndex := 6, attributes := #[] }, { accessFlags := 16409, nameIndex := 9, descriptorIndex := 6, attributes := #[] }, { accessFlags := 16409, nameIndex := 12, descriptorIndex := 6, attributes := #[] }, { accessFlags := 16409, nameIndex := 15, descriptorIndex := 6, attributes := #[] }, { accessFlags := 16409, nameIndex := 18, descriptorIndex := 6, attributes := #[] }, { accessFlags := 16409, nameIndex := 21, descriptorIndex := 6, attributes := #[] }, { accessFlags := 16409, nameIndex := 24, descriptorIndex := 6, attributes := #[] }, { accessFlags := 16409, nameIndex := 27, descriptorIndex := 6, attributes := #[] }, { accessFlags := 16409, nameIndex := 30, descriptorIndex := 6, attributes := #[] }, { accessFlags := 16409, nameIndex := 33, descriptorIndex := 6, attributes := #[] }, { accessFlags := 16409, nameIndex := 36, descriptorIndex := 6, attributes := #[] }, { accessFlags := 16409, nameIndex := 39, descriptorIndex := 6, attributes := #[] }, { accessFlags := 18, nameIndex := 64, descriptorIndex := 65, attributes := #[] }, { accessFlags := 18, nameIndex := 68, descriptorIndex := 65, attributes := #[] }, { accessFlags := 18, nameIndex := 71, descriptorIndex := 72, attributes := #[] }, { accessFlags := 18, nameIndex := 75, descriptorIndex := 65, attributes := #[] }, { accessFlags := 4122, nameIndex := 42, descriptorIndex := 43, attributes := #[] }])
  fields := #[{ name := "BIT", type := (.object "com/example/starquarry/starquarry/model/ColumnType"), accessFlags := 16409, slot := 0, constantValue := 0 }, { name := "BOOLEAN", type := (.object "com/example/starquarry/starquarry/model/ColumnType"), accessFlags := 16409, slot := 1, constantValue := 0 }, { name := "UNSIGNED_BYTE", type := (.object "com/example/starquarry/starquarry/model/ColumnType"), accessFlags := 16409, slot := 2, constantValue := 0 }, { name := "SHORT", type := (.object "com/example/starquarry/starquarry/model/ColumnType"), accessFlags := 16409, slot := 3, constantValue := 0 }, { name := "INT", type := (.object "com/example/starquarry/starquarry/model/ColumnType"), accessFlags := 16409, slot := 4, constantValue := 0 }, { name := "LONG", type := (.object "com/example/starquarry/starquarry/model/ColumnType"), accessFlags := 16409, slot := 5, constantValue := 0 }, { name := "FLOAT", type := (.object "com/example/starquarry/starquarry/model/ColumnType"), accessFlags := 16409, slot := 6, constantValue := 0 }, { name := "DOUBLE", type := (.object "com/example/starquarry/starquarry/model/ColumnType"), accessFlags := 16409, slot := 7, constantValue := 0 }, { name := "CHAR", type := (.object "com/example/starquarry/starquarry/model/ColumnType"), accessFlags := 16409, slot := 8, constantValue := 0 }, { name := "UNICODE_CHAR", type := (.object "com/example/starquarry/starquarry/model/ColumnType"), accessFlags := 16409, slot := 9, constantValue := 0 }, { name := "POINT", type := (.object "com/example/starquarry/starquarry/model/ColumnType"), accessFlags := 16409, slot := 10, constantValue := 0 }, { name := "CIRCLE", type := (.object "com/example/starquarry/starquarry/model/ColumnType"), accessFlags := 16409, slot := 11, constantValue := 0 }, { name := "datatype", type := (.object "java/lang/String"), accessFlags := 18, slot := 3, constantValue := 0 }, { name := "arraysize", type := (.object "java/lang/String"), accessFlags := 18, slot := 4, constantValue := 0 }, { name := "valueClass", type := (.object "java/lang/Class"), accessFlags := 18, slot := 5, constantValue := 0 }, { name := "xtype", type := (.object "java/lang/String"), accessFlags := 18, slot := 6, constantValue := 0 }, { name := "$VALUES", type := (.array (.object "com/example/starquarry/starquarry/model/ColumnType")), accessFlags := 4122, slot := 12, constantValue := 0 }]
  methods := #[k6m0, k6m1, k6m2, k6m3]
  instanceTypes := #[(.object "java/lang/String"), .int, .int, (.object "java/lang/String"), (.object "java/lang/String"), (.object "java/lang/Class"), (.object "java/lang/String")]
  staticTypes := #[(.object "com/example/starquarry/starquarry/model/ColumnType"), (.object "com/example/starquarry/starquarry/model/ColumnType"), (.object "com/example/starquarry/starquarry/model/ColumnType"), (.object "com/example/starquarry/starquarry/model/ColumnType"), (.object "com/example/starquarry/starquarry/model/ColumnType"), (.object "com/example/starquarry/starquarry/model/ColumnType"), (.object "com/example/starquarry/starquarry/model/ColumnType"), (.object "com/example/starquarry/starquarry/model/ColumnType"), (.object "com/example/starquarry/starquarry/model/ColumnType"), (.object "com/example/starquarry/starquarry/model/ColumnType"), (.object "com/example/starquarry/starquarry/model/ColumnType"), (.object "com/example/starquarry/starquarry/model/ColumnType"), (.array (.object "com/example/starquarry/starquarry/model/ColumnType"))]
  resolved := Array.replicate 228 none
  mirror := some 1
  statics := some 0 }

def pool7 : Array CpInfo := pool [(2, .class_ 4), (1, u "java/lang/CharSequence"), (42, .class_ 48), (0, u "java/lang/CharSequence$1CodePointIterator"), (10, .class_ 60), (0, u "java/lang/CharSequence$1CharIterator"), (5, .class_ 67), (0, u "java/lang/Object")] 63

/-- java/lang/CharSequence -/
def k7 : Class := { plain "java/lang/CharSequence" (some 0) with
  accessFlags := 1537
  interfaces := #[]
  cf := some (fileOf pool7 2 #[.nestMembers #[47, 59]] #[] 1537 66 #[] #[])
  fields := #[]
  methods := #[]
  instanceTypes := #[]
  staticTypes := #[]
  resolved := Array.replicate 131 none
  statics := none }

def pool8 : Array CpInfo := pool [(1, .class_ 2), (0, u "java/lang/constant/ConstantDesc"), (0, .class_ 4), (0, u "java/lang/Object")] 32

/-- java/lang/constant/ConstantDesc -/
def k8 : Class := { plain "java/lang/constant/ConstantDesc" (some 0) with
  accessFlags := 1537
  interfaces := #[]
  cf := some (fileOf pool8 1 #[] #[] 1537 3 #[] #[])
  fields := #[]
  methods := #[]
  instanceTypes := #[]
  staticTypes := #[]
  resolved := Array.replicate 37 none
  statics := none }

def pool9 : Array CpInfo := pool [(2, .class_ 4), (1, u "java/lang/Object"), (0, u "<init>"), (0, u "()V"), (3, .class_ 12), (1, u "java/lang/String"), (0, u "value"), (0, u "[B"), (2, u "coder"), (0, u "B"), (2, u "hash"), (0, u "I"), (2, u "hashIsZero"), (0, u "Z"), (13, u "COMPACT_STRINGS"), (534, .class_ 576), (0, u "java/lang/CharSequence"), (22, u "CASE_INSENSITIVE_ORDER"), (0, u "Ljava/util/Comparator;"), (500, u "serialPersistentFields"), (0, u "[Ljava/io/ObjectStreamField;"), (0, .class_ 1104), (0, u "java/lang/String$CaseInsensitiveComparator"), (1, .class_ 1107), (0, u "java/io/Serializable"), (0, .class_ 1109), (0, u "java/lang/Comparable"), (0, .class_ 1111), (0, u "java/lang/constant/Constable"), (0, .class_ 1113), (0, u "java/lang/constant/ConstantDesc"), (2, u "serialVersionUID"), (0, u "J"), (3, u "REPL"), (0, u "C"), (2, u "LATIN1"), (1, u "UTF16")] 323

def k9m0 : Method := { name := "<init>", desc := "()V", sig := { parameters := [], returnType := none }, accessFlags := 1, code := none }
/-- java/lang/String -/
def k9 : Class := { plain "java/lang/String" (some 0) with
  accessFlags := 49
  interfaces := #[4, 3, 7, 2, 8]
  cf := some (fileOf pool9 10 #[.nestMembers #[1103]] #[{ accessFlags := 1, nameIndex := 5, descriptorIndex := 6, attributes := #[] }] 49 2 #[1106, 1108, 575, 1110, 1112] #[{ accessFlags := 18, nameIndex := 13, descriptorIndex := 14, attributes := #[] }, { accessFlags := 18, nameIndex := 17, descriptorIndex := 18, attributes := #[] }, { accessFlags := 2, nameIndex := 21, descriptorIndex := 22, attributes := #[] }, { accessFlags := 2, nameIndex := 25, descriptorIndex := 26, attributes := #[] }, { accessFlags := 26, nameIndex := 1116, descriptorIndex := 1117, attributes := #[] }, { accessFlags := 24, nameIndex := 40, descriptorIndex := 26, attributes := #[] }, { accessFlags := 26, nameIndex := 1101, descriptorIndex := 1102, attributes := #[] }, { accessFlags := 26, nameIndex := 1121, descriptorIndex := 1122, attributes := #[] }, { accessFlags := 25, nameIndex := 599, descriptorIndex := 600, attributes := #[] }, { accessFlags := 24, nameIndex := 1125, descriptorIndex := 18, attributes := #[] }, { accessFlags := 24, nameIndex := 1127, descriptorIndex := 18, attributes := #[] }])
  fields := #[{ name := "value", type := (.array .byte), accessFlags := 18, slot := 0, constantValue := 0 }, { name := "coder", type := .byte, accessFlags := 18, slot := 1, constantValue := 0 }, { name := "hash", type := .int, accessFlags := 2, slot := 2, constantValue := 0 }, { name := "hashIsZero", type := .boolean, accessFlags := 2, slot := 3, constantValue := 0 }, { name := "serialVersionUID", type := .long, accessFlags := 26, slot := 0, constantValue := 0 }, { name := "COMPACT_STRINGS", type := .boolean, accessFlags := 24, slot := 1, constantValue := 0 }, { name := "serialPersistentFields", type := (.array (.object "java/io/ObjectStreamField")), accessFlags := 26, slot := 2, constantValue := 0 }, { name := "REPL", type := .char, accessFlags := 26, slot := 3, constantValue := 0 }, { name := "CASE_INSENSITIVE_ORDER", type := (.object "java/util/Comparator"), accessFlags := 25, slot := 4, constantValue := 0 }, { name := "LATIN1", type := .byte, accessFlags := 24, slot := 5, constantValue := 0 }, { name := "UTF16", type := .byte, accessFlags := 24, slot := 6, constantValue := 0 }]
  methods := #[k9m0]
  instanceTypes := #[(.array .byte), .byte, .int, .boolean]
  staticTypes := #[.long, .boolean, (.array (.object "java/io/ObjectStreamField")), .char, (.object "java/util/Comparator"), .byte, .byte]
  resolved := Array.replicate 1451 none
  statics := none }

def pool10 : Array CpInfo := pool [(1, u "java/lang/Class"), (0, .class_ 1), (0, u "java/lang/Object"), (0, .class_ 3)] 3

/-- java/lang/Class -/
def k10 : Class := { plain "java/lang/Class" (some 0) with
  accessFlags := 49
  interfaces := #[]
  cf := some (fileOf pool10 2 #[] #[] 49 4 #[] #[])
  fields := #[]
  methods := #[]
  instanceTypes := #[]
  staticTypes := #[]
  resolved := Array.replicate 8 none
  statics := none }

def pool11 : Array CpInfo := pool [(1, u "java/lang/Cloneable"), (0, .class_ 1), (0, u "java/lang/Object"), (0, .class_ 3)] 3

/-- java/lang/Cloneable -/
def k11 : Class := { plain "java/lang/Cloneable" (some 0) with
  accessFlags := 1537
  interfaces := #[]
  cf := some (fileOf pool11 2 #[] #[] 1537 4 #[] #[])
  fields := #[]
  methods := #[]
  instanceTypes := #[]
  staticTypes := #[]
  resolved := Array.replicate 8 none
  statics := none }

/-- the primitive byte -/
def k12 : Class := { plain "byte" none with kind := .primitive 'B', accessFlags := 0x411 }
/-- [B -/
def k13 : Class := { plain "[B" (some 0) with kind := .array 12 .byte, interfaces := #[11, 4], accessFlags := 1041 }

/-- the primitive int -/
def k14 : Class := { plain "int" none with kind := .primitive 'I', accessFlags := 0x411 }
/-- [I -/
def k15 : Class := { plain "[I" (some 0) with kind := .array 14 .int, interfaces := #[11, 4], accessFlags := 1041 }

def heap : Heap := #[{ cls := 6, slots := #[.ref 2, .ref 7, .ref 3, .ref 6, .ref 11, .ref 15, .ref 14, .ref 8, .ref 4, .ref 5, .ref 12, .ref 9, .null], vm := .statics 6 },
  { cls := 10, slots := #[], vm := .mirror 6 },
  { cls := 6, slots := #[.null, .int 0, .int 0, .null, .null, .null, .null], vm := .none },
  { cls := 6, slots := #[.null, .int 2, .int 0, .null, .null, .null, .null], vm := .none },
  { cls := 6, slots := #[.null, .int 8, .int 0, .null, .null, .null, .null], vm := .none },
  { cls := 6, slots := #[.null, .int 9, .int 0, .null, .null, .null, .null], vm := .none },
  { cls := 6, slots := #[.null, .int 3, .int 0, .null, .null, .null, .null], vm := .none },
  { cls := 6, slots := #[.null, .int 1, .int 0, .null, .null, .null, .null], vm := .none },
  { cls := 6, slots := #[.null, .int 7, .int 0, .null, .null, .null, .null], vm := .none },
  { cls := 6, slots := #[.null, .int 11, .int 0, .null, .null, .null, .ref 10], vm := .none },
  { cls := 9, slots := #[.null, .int 0, .int 0, .int 0], vm := .none },
  { cls := 6, slots := #[.null, .int 4, .int 0, .null, .null, .null, .null], vm := .none },
  { cls := 6, slots := #[.null, .int 10, .int 0, .null, .null, .null, .ref 13], vm := .none },
  { cls := 9, slots := #[.null, .int 0, .int 0, .int 0], vm := .none },
  { cls := 6, slots := #[.null, .int 6, .int 0, .null, .null, .null, .null], vm := .none },
  { cls := 6, slots := #[.null, .int 5, .int 0, .null, .null, .null, .null], vm := .none }]
def classes : Array Class := #[k0, k1, k2, k3, k4, k5, k6, k7, k8, k9, k10, k11, k12, k13, k14, k15]
def interned : List (Array UInt16 × Addr) := []
def slotsUsed : Nat := 105
def theMethod : MethodId := ⟨1, 2⟩
def args0 : Array Value := #[.int 5]
def aboutOver (below : List Frame) : State where
  vm := { classes := classes, interned := interned.toArray }
  heap := heap
  slotsUsed := slotsUsed
  threads := #[{ frames := .invoking theMethod args0 :: below }]
def below0 : List Frame := [.native { method := ⟨0, 0⟩, args := #[] }]
def about1 : State := aboutOver below0
def p0 : Program := .bare "" "" ""
def e0 : Env := launch0.env 0 0 0
theorem w_frames : about1.frames = Frame.invoking theMethod args0 :: below0 := rfl
set_option maxRecDepth 65536 in
theorem w_args : argsFit about1.vm theMethod args0 = true := by decide +kernel
set_option maxRecDepth 65536 in
theorem w_heap : heapFits about1 = true := by decide +kernel
set_option maxRecDepth 65536 in
theorem w_runnable : about1.curStatus? = some .runnable := by decide +kernel
set_option maxRecDepth 65536 in
theorem w_alone : about1.alone = true := by decide +kernel
set_option maxRecDepth 65536 in
theorem w_named : about1.methodNamed? x = some theMethod := by decide +kernel
set_option maxRecDepth 65536 in
theorem w_hears : about1.hears theMethod below0 = true := by decide +kernel
set_option maxRecDepth 65536 in
theorem w_ripe : about1.ripe theMethod args0 below0 = true := by decide +kernel
theorem w_running : about1.status = .running := rfl
set_option maxRecDepth 65536 in
theorem w_room : about1.hasRoom e0.platform room_1 = true :=
  launch0.hasRoom_least _ room_1 (by decide +kernel) (by decide +kernel) (by decide +kernel) (by decide +kernel) (by decide +kernel) (by decide +kernel)
theorem allAtoms_all (ts : List Jvm.Cond) (a : Array Jvm.Value) (st : Jvm.State) : (allAtoms ts).before a st = ts.all (fun c => c.before a st) := by
  induction ts with
  | nil => rfl
  | cons c t ih =>
    show (Jvm.Cond.and c (allAtoms t)).before a st = _
    rw [Jvm.Cond.before_and, ih, List.all_cons]
def words1 : List Jvm.Cond := Jvm.Cond.code x code maxLocals ret :: tables_1
/-- a 'code' word, met by the world's own term for the bytes: nothing is compared byte by byte -/
theorem code_word {y : MethodName} {bytes : ByteArray} {mx : Nat} {rt : Option FieldType} {a : Array Value} {s : State} {m : MethodId} {meth : Method} {c : Code} (h1 : s.methodNamed? y = some m) (h2 : s.vm.method? m = some meth) (h3 : meth.code = some c) (h4 : c.code = bytes)
    (h5 : (c.maxLocals == mx && c.exceptionTable.isEmpty && decide (c.maxStack ≤ mostOperands) && decide (meth.sig.returnType = rt) && !meth.locks && decide (parseMethodDescriptor y.desc = some meth.sig)) = true) : (Jvm.Cond.code y bytes mx rt).before a s = true := by
  simp only [Bool.and_eq_true, beq_iff_eq, Bool.not_eq_true', decide_eq_true_eq] at h5
  obtain ⟨⟨⟨⟨⟨g1, g2⟩, g3⟩, g4⟩, g5⟩, g6⟩ := h5
  simp [Cond.before, Cond.holds, Cond.value, h1, h2, h3, h4, g1, g2, g3, g4, g5, g6]
def isCode : Jvm.Cond → Bool
  | .code _ _ _ _ => true
  | _ => false
theorem all_split {L : List Jvm.Cond} {P : Jvm.Cond → Bool} (h1 : L.all (fun c => isCode c || P c) = true) (h2 : ∀ c ∈ L.filter isCode, P c = true) : L.all P = true := by
  refine List.all_eq_true.mpr fun c hc => ?_
  have h := List.all_eq_true.mp h1 c hc
  rcases Bool.eq_false_or_eq_true (isCode c) with hi | hi
  · exact h2 c (List.mem_filter.mpr ⟨hc, hi⟩)
  · simpa [hi] using h
set_option maxRecDepth 65536 in
theorem w_c0 : (Jvm.Cond.code x code maxLocals ret).before args0 about1 = true := code_word (m := ⟨1, 2⟩) (meth := k1m2) (c := k1c2) (by decide +kernel) rfl rfl rfl (by decide +kernel)
set_option maxRecDepth 65536 in
theorem w_c1 : (Jvm.Cond.code ({ cls := "com/example/starquarry/starquarry/model/ColumnTypeIsLogicalPinLaw", name := "pick", desc := "(I)Lcom/example/starquarry/starquarry/model/ColumnType;" } : Jvm.MethodName) method_2_code (1 : Nat) (Option.some (Jvm.ClassFile.FieldType.object "com/example/starquarry/starquarry/model/ColumnType"))).before args0 about1 = true := code_word (m := ⟨1, 1⟩) (meth := k1m1) (c := k1c1) (by decide +kernel) rfl rfl rfl (by decide +kernel)
set_option maxRecDepth 65536 in
theorem w_c2 : (Jvm.Cond.code ({ cls := "com/example/starquarry/starquarry/model/ColumnType", name := "isLogical", desc := "()Z" } : Jvm.MethodName) prog_120_method_13_code (1 : Nat) (Option.some Jvm.ClassFile.FieldType.boolean)).before args0 about1 = true := code_word (m := ⟨6, 1⟩) (meth := k6m1) (c := k6c1) (by decide +kernel) rfl rfl rfl (by decide +kernel)
set_option maxRecDepth 65536 in
theorem w_c3 : (Jvm.Cond.code ({ cls := "com/example/starquarry/starquarry/model/ColumnType", name := "isNumber", desc := "()Z" } : Jvm.MethodName) prog_120_method_11_code (1 : Nat) (Option.some Jvm.ClassFile.FieldType.boolean)).before args0 about1 = true := code_word (m := ⟨6, 0⟩) (meth := k6m0) (c := k6c0) (by decide +kernel) rfl rfl rfl (by decide +kernel)
set_option maxRecDepth 65536 in
theorem w_c4 : (Jvm.Cond.code ({ cls := "java/lang/Enum", name := "compareTo", desc := "(Ljava/lang/Enum;)I" } : Jvm.MethodName) jdk_37_method_8_code (4 : Nat) (Option.some Jvm.ClassFile.FieldType.int)).before args0 about1 = true := code_word (m := ⟨5, 0⟩) (meth := k5m0) (c := k5c0) (by decide +kernel) rfl rfl rfl (by decide +kernel)
set_option maxRecDepth 65536 in
theorem w_c5 : (Jvm.Cond.code ({ cls := "com/example/starquarry/starquarry/model/ColumnType", name := "isText", desc := "()Z" } : Jvm.MethodName) prog_120_method_14_code (1 : Nat) (Option.some Jvm.ClassFile.FieldType.boolean)).before args0 about1 = true := code_word (m := ⟨6, 2⟩) (meth := k6m2) (c := k6c2) (by decide +kernel) rfl rfl rfl (by decide +kernel)
set_option maxRecDepth 65536 in
theorem w_c6 : (Jvm.Cond.code ({ cls := "com/example/starquarry/starquarry/model/ColumnType", name := "isGeometry", desc := "()Z" } : Jvm.MethodName) prog_120_method_15_code (1 : Nat) (Option.some Jvm.ClassFile.FieldType.boolean)).before args0 about1 = true := code_word (m := ⟨6, 3⟩) (meth := k6m3) (c := k6c3) (by decide +kernel) rfl rfl rfl (by decide +kernel)
def codes1 : List Jvm.Cond := [Jvm.Cond.code x code maxLocals ret, Jvm.Cond.code ({ cls := "com/example/starquarry/starquarry/model/ColumnTypeIsLogicalPinLaw", name := "pick", desc := "(I)Lcom/example/starquarry/starquarry/model/ColumnType;" } : Jvm.MethodName) method_2_code (1 : Nat) (Option.some (Jvm.ClassFile.FieldType.object "com/example/starquarry/starquarry/model/ColumnType")), Jvm.Cond.code ({ cls := "com/example/starquarry/starquarry/model/ColumnType", name := "isLogical", desc := "()Z" } : Jvm.MethodName) prog_120_method_13_code (1 : Nat) (Option.some Jvm.ClassFile.FieldType.boolean), Jvm.Cond.code ({ cls := "com/example/starquarry/starquarry/model/ColumnType", name := "isNumber", desc := "()Z" } : Jvm.MethodName) prog_120_method_11_code (1 : Nat) (Option.some Jvm.ClassFile.FieldType.boolean), Jvm.Cond.code ({ cls := "java/lang/Enum", name := "compareTo", desc := "(Ljava/lang/Enum;)I" } : Jvm.MethodName) jdk_37_method_8_code (4 : Nat) (Option.some Jvm.ClassFile.FieldType.int), Jvm.Cond.code ({ cls := "com/example/starquarry/starquarry/model/ColumnType", name := "isText", desc := "()Z" } : Jvm.MethodName) prog_120_method_14_code (1 : Nat) (Option.some Jvm.ClassFile.FieldType.boolean), Jvm.Cond.code ({ cls := "com/example/starquarry/starquarry/model/ColumnType", name := "isGeometry", desc := "()Z" } : Jvm.MethodName) prog_120_method_15_code (1 : Nat) (Option.some Jvm.ClassFile.FieldType.boolean)]
set_option maxRecDepth 65536 in
theorem codes_eq : words1.filter isCode = codes1 := rfl
theorem w_codes : ∀ c ∈ words1.filter isCode, c.before args0 about1 = true := by
  rw [codes_eq]
  intro c hc
  simp only [codes1, List.mem_cons, List.not_mem_nil, or_false] at hc
  rcases hc with rfl | rfl | rfl | rfl | rfl | rfl | rfl
  · exact w_c0
  · exact w_c1
  · exact w_c2
  · exact w_c3
  · exact w_c4
  · exact w_c5
  · exact w_c6
set_option maxRecDepth 65536 in
theorem w_t1 : (words1.take 24).all (fun c => isCode c || c.before args0 about1) = true := by decide +kernel
set_option maxRecDepth 65536 in
theorem w_t2 : ((words1.drop 24).take 24).all (fun c => isCode c || c.before args0 about1) = true := by decide +kernel
set_option maxRecDepth 65536 in
theorem w_t3 : (((words1.drop 24).drop 24).take 24).all (fun c => isCode c || c.before args0 about1) = true := by decide +kernel
set_option maxRecDepth 65536 in
theorem w_t4 : (((words1.drop 24).drop 24).drop 24).all (fun c => isCode c || c.before args0 about1) = true := by decide +kernel
theorem w_tables : (allAtoms (Jvm.Cond.code x code maxLocals ret :: tables_1)).before args0 about1 = true := by
  rw [allAtoms_all]
  show words1.all (fun c => c.before args0 about1) = true
  refine all_split ?_ w_codes
  rw [← List.take_append_drop 24 words1, List.all_append, w_t1, ← List.take_append_drop 24 (words1.drop 24), List.all_append, w_t2, ← List.take_append_drop 24 ((words1.drop 24).drop 24), List.all_append, w_t3, w_t4]
  rfl
set_option maxRecDepth 65536 in
theorem w_case : (Jvm.Cond.and given_1 narrow_1).before args0 about1 = true := by decide +kernel
theorem w_applies : (headSpec (Jvm.Cond.code x code maxLocals ret :: tables_1) room_1).applies x e0.platform about1 = true :=
  (Spec.applies_iff w_frames).mpr ⟨w_running, w_runnable, w_alone, w_named, w_hears, w_ripe, w_room, w_tables⟩
theorem atStart : AtStart classFile x code maxLocals ret World_1 tables_1 room_1 Calls_1 rest_1 Pre_1 launch0 p0 e0 about1 theMethod args0 below0 :=
  ⟨lists_1, trivial, launch0.admits_env _ _ _, launch0.least_env, fairChoices_fair.cas, fairChoices_fair.clock, w_frames, w_args, w_heap, w_applies, ⟨⟨6, k6, 1, by decide +kernel, rfl, rfl, _, rfl, rfl⟩, trivial⟩, trivial, w_case⟩
end start1
theorem witness_1 : WitnessClaimed_1 := ⟨start1.p0, start1.e0, start1.about1, start1.theMethod, start1.args0, start1.below0, start1.atStart⟩
end Jvm.Pilot.@@N@@
