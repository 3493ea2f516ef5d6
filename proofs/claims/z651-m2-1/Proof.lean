import JvmDerived
import JvmDerived.Pilot.@@N@@Statement
import JvmDerived.Pilot.@@N@@Code
set_option linter.unusedVariables false
set_option linter.unusedSimpArgs false
namespace Jvm.RoadKit
open Sem ClassFile Op Lib Jvm.Stand Jvm.Free Jvm.LawKit
section New
variable {p : Program} {l : Launch} {e : Env} {R : Room} {s : State} {m : MethodId} {args : Array Value} {below : List Frame} {meth : Method} {c : Code} {T : State} {locs : List Loc} {cells slots : Nat}
theorem retI (X : Stand p l e R s m args below meth c T locs cells slots) (hx : p.tables.exec = Jvm.exec) {pc : Nat} {Ls : Array Slot} {z : Int32} {rest : List Value} (hret : meth.sig.returnType = some .int) (hd : decode c.code pc = .ok (.ireturn, 1)) {fs : List Frame}
    (hl : ∀ (f : JFrame) (acts : List Action), f.method = m → f.locked = none → f.entered = [] → (doReturn e (T.setTop f) acts (some (.int z))).1 = T.setFrames fs) : Steps p.tables e below (T.setTop (mkF m pc Ls (.int z :: rest))) (T.setFrames fs) := by
  have hm' : T.vm.method? m = some meth := X.method'
  have hn : narrow .int (.int z) = .int z := rfl
  show Steps p.tables e below (T.setTop { method := m, pc := pc, locals := Ls, stack := _ :: rest, locked := none }) _
  jvm_step X.here [X.here.top, hx, hd, hm', hret, hn]
  first | (intro acts; rw [hl _ acts rfl rfl rfl]) | rw [hl _ _ rfl rfl rfl]
  exact Steps.refl _
theorem retA (X : Stand p l e R s m args below meth c T locs cells slots) (hx : p.tables.exec = Jvm.exec) {pc : Nat} {Ls : Array Slot} {w : Value} {t : FieldType} {rest : List Value} (hret : meth.sig.returnType = some t) (ht : t.isReference = true) (hw : w.isRef = true) (hn : narrow t w = w) (hd : decode c.code pc = .ok (.areturn, 1)) {fs : List Frame}
    (hl : ∀ (f : JFrame) (acts : List Action), f.method = m → f.locked = none → f.entered = [] → (doReturn e (T.setTop f) acts (some w)).1 = T.setFrames fs) : Steps p.tables e below (T.setTop (mkF m pc Ls (w :: rest))) (T.setFrames fs) :=
  retOut X hx hret hn (Or.inr (Or.inr (Or.inr (Or.inr ⟨rfl, ht, hw⟩)))) hd hl
end New
/-- all that was there is there still: a write to a cell above -/
theorem own_ext_wr {h0 h h' : Heap} {a : Addr} {sl : Nat} {v : Value} (E : Ext h0 h) (W : Wr h h' a sl v) (q : h0.size ≤ a) : Ext h0 h' := by
  refine ⟨Nat.le_trans E.1 (Keep.of_wr W).1, fun x c hc => (Keep.of_wr W).2.1 x c (E.2 x c hc) fun hm => ?_⟩
  cases List.mem_singleton.mp hm
  exact absurd (Array.getElem?_eq_some_iff.mp hc).1 (Nat.not_lt.mpr q)
theorem own_ext_keep {h0 h h' : Heap} {ws : List Addr} (E : Ext h0 h) (K : Keep h h' ws) (q : ∀ x ∈ ws, h0.size ≤ x) : Ext h0 h' :=
  ⟨Nat.le_trans E.1 K.1, fun x c hc => K.2.1 x c (E.2 x c hc) fun hm => absurd (Array.getElem?_eq_some_iff.mp hc).1 (Nat.not_lt.mpr (q x hm))⟩
theorem own_ext_trans {h0 h h' : Heap} (E : Ext h0 h) (E' : Ext h h') : Ext h0 h' := ⟨Nat.le_trans E.1 E'.1, fun x c hc => E'.2 x c (E.2 x c hc)⟩
theorem own_ext_refl (h : Heap) : Ext h h := ⟨Nat.le_refl _, fun _ _ q => q⟩
/-- a static that holds an object of this very class -/
theorem own_sta {Z : State} {a0 : Array Value} {C n d K : String} (wi : (Cond.initialized C).before a0 Z = true) (wl : (Cond.laysStatic C n d).before a0 Z = true) (hx : (Cond.exactly (.static C n d) K).value a0 Z none Z [] = some true) :
    ∃ w, (Term.static C n d).eval a0 Z none [] Z = some (.ref w) ∧ Sta Z Z.heap C n d (.ref w) ∧ Exa Z Z.heap w K := by
  obtain ⟨w, ev⟩ := exa_v hx
  exact ⟨w, ev, Sta.start ev (Or.inr ⟨wi, wl⟩), Exa.start ev hx⟩
/-- a field of an object that a term names, by an 'eq' of ints -/
theorem own_fld {Z : State} {a0 : Array Value} {t : Term} {w : Addr} {C n d : String} {k : Int32} (ev : t.eval a0 Z none [] Z = some (.ref w)) (h : (Cond.eq (.field t C n d) (.int k)).value a0 Z none Z [] = some true) : Fld Z Z.heap w C n d (.int k) :=
  Fld.start ((fld_at ev).symm.trans (eqv_i (F := .int k) rfl h))
end Jvm.RoadKit
namespace Jvm.RoadKit
open Sem ClassFile Op Lib Jvm.Stand Jvm.Free Jvm.LawKit
theorem own_fldR {Z : State} {a0 : Array Value} {t u : Term} {w w' : Addr} {C n d : String} (ev : t.eval a0 Z none [] Z = some (.ref w)) (eu : u.eval a0 Z none [] Z = some (.ref w')) (h : (Cond.eq (.field t C n d) u).value a0 Z none Z [] = some true) : Fld Z Z.heap w C n d (.ref w') := by
  refine Fld.start ((fld_at ev).symm.trans ?_)
  obtain ⟨x, y, hx, hy, -, -⟩ := cmp_v (Or.inl h)
  cases eu.symm.trans hy
  simp only [Cond.value, hx, hy] at h
  cases x <;> simp at h
  rw [hx, h]
theorem own_staA {Z : State} {a0 : Array Value} {C n d : String} {ty : FieldType} (wi : (Cond.initialized C).before a0 Z = true) (wl : (Cond.laysStatic C n d).before a0 Z = true) (hx : (Cond.arrayOf (.static C n d) ty).value a0 Z none Z [] = some true) :
    ∃ w, (Term.static C n d).eval a0 Z none [] Z = some (.ref w) ∧ Sta Z Z.heap C n d (.ref w) ∧ ∃ c, Arr Z Z.heap w c ty := by
  obtain ⟨w, ev⟩ := arr_v hx
  exact ⟨w, ev, Sta.start ev (Or.inr ⟨wi, wl⟩), Arr.start ev hx⟩
theorem own_len {Z : State} {a0 : Array Value} {t : Term} {w : Addr} {c : Cell} {ty : FieldType} {k : Int32} {n : Nat} (ev : t.eval a0 Z none [] Z = some (.ref w)) (A : Arr Z Z.heap w c ty) (h : (Cond.eq (.length t) (.int k)).value a0 Z none Z [] = some true) (hk : k.toInt = n) : c.slots.size = n := by
  have e := eqv_i (F := .int k) rfl h
  have ha : Z.arrayAt? w = some c := Arr.fin (Vm.Alike.refl _) A
  simp only [Term.eval, ev, ha, Option.bind_eq_bind, Option.bind_some] at e
  split at e
  · rename_i hl
    have q : c.slots.size.toInt32 = k := by simpa using e
    have q2 := len_toInt hl
    rw [q, hk] at q2
    omega
  · cases e
theorem own_elem {Z : State} {a0 : Array Value} {t : Term} {w : Addr} {c : Cell} {ty : FieldType} {k : Int32} {n : Nat} {v : Value} (ev : t.eval a0 Z none [] Z = some (.ref w)) (A : Arr Z Z.heap w c ty) (h : (Term.elem t (.int k)).eval a0 Z none [] Z = some v) (hk : k.toNatClampNeg = n) : c.slots[n]? = some v := by
  have q := (elem_in h ev (j := k) rfl A.1).2
  rw [hk] at q; exact q
theorem own_elN {Z : State} {a0 : Array Value} {t : Term} {w : Addr} {c : Cell} {ty : FieldType} {k : Int32} {n : Nat} (ev : t.eval a0 Z none [] Z = some (.ref w)) (A : Arr Z Z.heap w c ty) (h : (Cond.eq (.elem t (.int k)) .null).value a0 Z none Z [] = some true) (hk : k.toNatClampNeg = n) : c.slots[n]? = some .null := own_elem ev A (null_v h) hk
theorem own_elI {Z : State} {a0 : Array Value} {t : Term} {w : Addr} {c : Cell} {ty : FieldType} {k i : Int32} {n : Nat} (ev : t.eval a0 Z none [] Z = some (.ref w)) (A : Arr Z Z.heap w c ty) (h : (Cond.eq (.elem t (.int k)) (.int i)).value a0 Z none Z [] = some true) (hk : k.toNatClampNeg = n) : c.slots[n]? = some (.int i) := own_elem ev A (eqv_i (F := .int i) rfl h) hk
theorem own_elR {Z : State} {a0 : Array Value} {t u : Term} {w w' : Addr} {c : Cell} {ty : FieldType} {k : Int32} {n : Nat} (ev : t.eval a0 Z none [] Z = some (.ref w)) (A : Arr Z Z.heap w c ty) (eu : u.eval a0 Z none [] Z = some (.ref w')) (h : (Cond.eq (.elem t (.int k)) u).value a0 Z none Z [] = some true) (hk : k.toNatClampNeg = n) : c.slots[n]? = some (.ref w') := by
  refine own_elem ev A ?_ hk
  obtain ⟨x, y, hx, hy, -, -⟩ := cmp_v (Or.inl h)
  cases eu.symm.trans hy
  simp only [Cond.value, hx, hy] at h
  cases x <;> simp at h
  rw [hx, h]
end Jvm.RoadKit
namespace Jvm.Pilot.@@N@@
open Jvm Jvm.ClassFile Sem Op Lib Jvm.Free Jvm.Stand Jvm.LawKit Jvm.RoadKit Bundle Jvm.Pilot.@@N@@.Jvm.D
def own_of (k : Int64) (w_OBJECT w_INT w_BOOLEAN w_BYTE w_CHAR w_FLOAT w_DOUBLE w_LONG w_SHORT : Addr) : Value := if k = (0 : Int64) then .ref w_OBJECT else if k = (1 : Int64) then .ref w_INT else if k = (2 : Int64) then .ref w_BOOLEAN else if k = (3 : Int64) then .ref w_BYTE else if k = (4 : Int64) then .ref w_CHAR else if k = (5 : Int64) then .ref w_FLOAT else if k = (6 : Int64) then .ref w_DOUBLE else if k = (7 : Int64) then .ref w_LONG else if k = (8 : Int64) then .ref w_SHORT else .null
theorem own_of_ref (k : Int64) (w_OBJECT w_INT w_BOOLEAN w_BYTE w_CHAR w_FLOAT w_DOUBLE w_LONG w_SHORT : Addr) : (own_of k w_OBJECT w_INT w_BOOLEAN w_BYTE w_CHAR w_FLOAT w_DOUBLE w_LONG w_SHORT).isRef = true := by
  unfold own_of
  repeat' split
  all_goals rfl
theorem own_of_out (k : Int64) (w_OBJECT w_INT w_BOOLEAN w_BYTE w_CHAR w_FLOAT w_DOUBLE w_LONG w_SHORT : Addr) (h : k < (0 : Int64) ∨ ¬ k < ((9 : Int32).toInt64)) : own_of k w_OBJECT w_INT w_BOOLEAN w_BYTE w_CHAR w_FLOAT w_DOUBLE w_LONG w_SHORT = .null := by
  unfold own_of
  repeat' split
  all_goals first | rfl | (subst_vars; exact absurd h (by decide))
theorem own_in (k : Int64) (h0 : ¬ k < (0 : Int64)) (h1 : k < ((9 : Int32).toInt64)) : k = (0 : Int64) ∨ k = (1 : Int64) ∨ k = (2 : Int64) ∨ k = (3 : Int64) ∨ k = (4 : Int64) ∨ k = (5 : Int64) ∨ k = (6 : Int64) ∨ k = (7 : Int64) ∨ k = (8 : Int64) := by
  rw [Int64.lt_iff_toInt_lt] at h0 h1
  have e0 : (0 : Int64).toInt = 0 := by decide
  have e1 : ((9 : Int32).toInt64).toInt = 9 := by decide
  rw [e0] at h0; rw [e1] at h1
  rcases (by omega : k.toInt = 0 ∨ k.toInt = 1 ∨ k.toInt = 2 ∨ k.toInt = 3 ∨ k.toInt = 4 ∨ k.toInt = 5 ∨ k.toInt = 6 ∨ k.toInt = 7 ∨ k.toInt = 8) with h | h | h | h | h | h | h | h | h
  · exact Or.inl (Int64.toInt_inj.mp (h.trans (by decide)))
  · exact Or.inr (Or.inl (Int64.toInt_inj.mp (h.trans (by decide))))
  · exact Or.inr (Or.inr (Or.inl (Int64.toInt_inj.mp (h.trans (by decide)))))
  · exact Or.inr (Or.inr (Or.inr (Or.inl (Int64.toInt_inj.mp (h.trans (by decide))))))
  · exact Or.inr (Or.inr (Or.inr (Or.inr (Or.inl (Int64.toInt_inj.mp (h.trans (by decide)))))))
  · exact Or.inr (Or.inr (Or.inr (Or.inr (Or.inr (Or.inl (Int64.toInt_inj.mp (h.trans (by decide))))))))
  · exact Or.inr (Or.inr (Or.inr (Or.inr (Or.inr (Or.inr (Or.inl (Int64.toInt_inj.mp (h.trans (by decide)))))))))
  · exact Or.inr (Or.inr (Or.inr (Or.inr (Or.inr (Or.inr (Or.inr (Or.inl (Int64.toInt_inj.mp (h.trans (by decide))))))))))
  · exact Or.inr (Or.inr (Or.inr (Or.inr (Or.inr (Or.inr (Or.inr (Or.inr ((Int64.toInt_inj.mp (h.trans (by decide)))))))))))
theorem own_tab {cl : Cell} (w_OBJECT w_INT w_BOOLEAN w_BYTE w_CHAR w_FLOAT w_DOUBLE w_LONG w_SHORT : Addr) (e0 : cl.slots[0]? = some (.ref w_OBJECT)) (e1 : cl.slots[1]? = some (.ref w_INT)) (e2 : cl.slots[2]? = some (.ref w_BOOLEAN)) (e3 : cl.slots[3]? = some (.ref w_BYTE)) (e4 : cl.slots[4]? = some (.ref w_CHAR)) (e5 : cl.slots[5]? = some (.ref w_FLOAT)) (e6 : cl.slots[6]? = some (.ref w_DOUBLE)) (e7 : cl.slots[7]? = some (.ref w_LONG)) (e8 : cl.slots[8]? = some (.ref w_SHORT)) : ∀ k : Int64, ¬ k < (0 : Int64) → k < ((9 : Int32).toInt64) → cl.slots[(k.toInt32).toNatClampNeg]? = some (own_of k w_OBJECT w_INT w_BOOLEAN w_BYTE w_CHAR w_FLOAT w_DOUBLE w_LONG w_SHORT) := by
  intro k h0 h1
  rcases own_in k h0 h1 with rfl | rfl | rfl | rfl | rfl | rfl | rfl | rfl | rfl
  · exact e0
  · exact e1
  · exact e2
  · exact e3
  · exact e4
  · exact e5
  · exact e6
  · exact e7
  · exact e8
theorem own_ins (k : Int64) (h0 : ¬ k < (0 : Int64)) (h1 : k < ((9 : Int32).toInt64)) : ¬ (k.toInt32) < (0 : Int32) ∧ (k.toInt32) < (9 : Int32) := by
  rcases own_in k h0 h1 with rfl | rfl | rfl | rfl | rfl | rfl | rfl | rfl | rfl <;> decide
theorem ef_1 (m : MethodId) (k : Int64) : entryFrame m #[(.long k)] 2 = mkF m 0 #[.val (.long k), .second] [] := by first | (simp [entryFrame, mkF, argsToLocals, Value.category]; done) | rfl
def Q_1 (Z : State) (k : Int64) (w_OBJECT : Addr) (w_INT : Addr) (w_BOOLEAN : Addr) (w_BYTE : Addr) (w_CHAR : Addr) (w_FLOAT : Addr) (w_DOUBLE : Addr) (w_LONG : Addr) (w_SHORT : Addr) (w_BY_CODE : Addr) (cl_BY_CODE : Cell) (h0 : Heap) (n0 : Nat) (v : Option Value) (h : Heap) (L : List Loc) : Prop := v = some (own_of k w_OBJECT w_INT w_BOOLEAN w_BYTE w_CHAR w_FLOAT w_DOUBLE w_LONG w_SHORT) ∧ Fr n0 L ∧ h = h0
theorem pn_0 : plainName "com/example/heapscribe/heapscribe/Bmd" = true := by first | (simp [plainName, overriddenIn]; done) | decide +kernel
theorem d1_0 : decode prog_1_method_4_code 0 = .ok (.lload_n 0, 1) := by decide +kernel
theorem d1_1 : decode prog_1_method_4_code 1 = .ok (.lconst 0, 1) := by decide +kernel
theorem d1_2 : decode prog_1_method_4_code 2 = .ok (.lcmp, 1) := by decide +kernel
theorem d1_3 : decode prog_1_method_4_code 3 = .ok (.ifCond .lt 22, 3) := by decide +kernel
theorem d1_25 : decode prog_1_method_4_code 25 = .ok (.aconst_null, 1) := by decide +kernel
theorem d1_26 : decode prog_1_method_4_code 26 = .ok (.areturn, 1) := by decide +kernel
theorem d1_6 : decode prog_1_method_4_code 6 = .ok (.lload_n 0, 1) := by decide +kernel
theorem d1_7 : decode prog_1_method_4_code 7 = .ok (.getstatic 39, 3) := by decide +kernel
theorem d1_10 : decode prog_1_method_4_code 10 = .ok (.arraylength, 1) := by decide +kernel
theorem d1_11 : decode prog_1_method_4_code 11 = .ok (.i2l, 1) := by decide +kernel
theorem d1_12 : decode prog_1_method_4_code 12 = .ok (.lcmp, 1) := by decide +kernel
theorem d1_13 : decode prog_1_method_4_code 13 = .ok (.ifCond .ge 12, 3) := by decide +kernel
theorem d1_16 : decode prog_1_method_4_code 16 = .ok (.getstatic 39, 3) := by decide +kernel
theorem d1_19 : decode prog_1_method_4_code 19 = .ok (.lload_n 0, 1) := by decide +kernel
theorem d1_20 : decode prog_1_method_4_code 20 = .ok (.l2i, 1) := by decide +kernel
theorem d1_21 : decode prog_1_method_4_code 21 = .ok (.aaload, 1) := by decide +kernel
theorem d1_22 : decode prog_1_method_4_code 22 = .ok (.goto 4, 3) := by decide +kernel
set_option maxRecDepth 65536 in
set_option maxHeartbeats 40000000 in
theorem rm_1 (l : Launch) (Z : State) (a0 : Array Value) (hw : ∀ d ∈ tables_1, d.before a0 Z = true) (ws : List Jvm.Cond) (k : Int64) (w_OBJECT : Addr) (w_INT : Addr) (w_BOOLEAN : Addr) (w_BYTE : Addr) (w_CHAR : Addr) (w_FLOAT : Addr) (w_DOUBLE : Addr) (w_LONG : Addr) (w_SHORT : Addr) (w_BY_CODE : Addr) (cl_BY_CODE : Cell) (h0 : Heap) (n0 : Nat) (Z0 : n0 ≤ h0.size) (S_BY_CODE : Sta Z h0 "com/example/heapscribe/heapscribe/Bmd" "BY_CODE" "[Lcom/example/heapscribe/heapscribe/Hprof$BasicType;" (.ref w_BY_CODE)) (Ar_BY_CODE : Arr Z h0 w_BY_CODE cl_BY_CODE (.object "com/example/heapscribe/heapscribe/Hprof$BasicType")) (Z_BY_CODE : cl_BY_CODE.slots.size = 9) (hat : ∀ k : Int64, ¬ k < (0 : Int64) → k < ((9 : Int32).toInt64) → cl_BY_CODE.slots[(k.toInt32).toNatClampNeg]? = some (own_of k w_OBJECT w_INT w_BOOLEAN w_BYTE w_CHAR w_FLOAT w_DOUBLE w_LONG w_SHORT)) :
    MetFree l (⟨"com/example/heapscribe/heapscribe/Bmd", "type", "(J)Lcom/example/heapscribe/heapscribe/Hprof$BasicType;"⟩ : MethodName) (head1 (Jvm.Cond.code (⟨"com/example/heapscribe/heapscribe/Bmd", "type", "(J)Lcom/example/heapscribe/heapscribe/Hprof$BasicType;"⟩ : MethodName) prog_1_method_4_code 2 (some (.object "com/example/heapscribe/heapscribe/Hprof$BasicType")) :: ws) ({ frames := 0, cells := 0, slots := 0, locals := 0 } : Room)) (fun a_ U_ => a_ = #[(.long k)] ∧ Z.Warmed39 U_.vm ∧ U_.heap = h0) (fun _ _ _ _ _ => True) (fun _ U_ o_ V_ => ∃ v_ L_, o_ = .returned v_ ∧ Q_1 Z k w_OBJECT w_INT w_BOOLEAN w_BYTE w_CHAR w_FLOAT w_DOUBLE w_LONG w_SHORT w_BY_CODE cl_BY_CODE h0 n0 v_ V_.heap L_ ∧ FrameEnd U_ o_ V_ L_ ({ frames := 0, cells := 0, slots := 0, locals := 0 } : Room).cells ({ frames := 0, cells := 0, slots := 0, locals := 0 } : Room).slots) := by
  refine MetFree.of_bodySF (plainFor_of_name pn_0) hisR ?_
  intro p e s m args below meth c s₁ Bd hml0 hP hK
  obtain ⟨rfl, hZ, hh⟩ := hP
  have hx := Bd.exec
  have hby := Bd.bytes
  have hml : c.maxLocals = 2 := hml0
  have hown : s.vm.findClass "com/example/heapscribe/heapscribe/Bmd" = some m.cls := findClass_of_methodNamed Bd.named
  have hnm := (name_of_methodNamed Bd.named Bd.method).1
  have X0 : Stand p l e ({ frames := 0, cells := 0, slots := 0, locals := 0 } : Room) s m #[(.long k)] below meth c s₁ [] 0 0 := Stand.of_body Bd
  have e0 : s₁.heap = h0 := by rw [← hh, Bd.state]; rfl
  have N0 := Fr.nil n0
  have pre0 : ∀ t_, Steps p.tables e below (s₁.setTop (mkF m 0 #[.val (.long k), .second] [])) t_ → Steps p.tables e below (s₁.setTop (entryFrame m #[(.long k)] 2)) t_ := fun t_ k_ => castTop (ef_1 m k) k_
  have pre1 : ∀ t_, Steps p.tables e below (s₁.setTop (mkF m 3 #[.val (.long k), .second] [(.int (lcmpW k (0 : Int64)))])) t_ → Steps p.tables e below (s₁.setTop (entryFrame m #[(.long k)] 2)) t_ := fun t_ k_ => pre0 t_ (by
    show Steps p.tables e below (s₁.setTop (mkF m 0 #[.val (.long k), .second] [])) _
    refine XS.lloadN X0.here hx rfl (hb hby d1_0) rfl ?_
    show Steps p.tables e below (s₁.setTop (mkF m 1 #[.val (.long k), .second] [(.long k)])) _
    refine XS.lconst X0.here hx rfl (hb hby d1_1) ?_
    show Steps p.tables e below (s₁.setTop (mkF m 2 #[.val (.long k), .second] [(.long (0 : Int64)), (.long k)])) _
    refine XS.lcmp X0.here hx rfl (hb hby d1_2) rfl ?_
    show Steps p.tables e below (s₁.setTop (mkF m 3 #[.val (.long k), .second] [(.int (lcmpW k (0 : Int64)))])) _
    exact k_)
  by_cases hc3_2 : k < (0 : Int64)
  · have pre3 : ∀ t_, Steps p.tables e below (s₁.setTop (mkF m 26 #[.val (.long k), .second] [.null])) t_ → Steps p.tables e below (s₁.setTop (entryFrame m #[(.long k)] 2)) t_ := fun t_ k_ => pre1 t_ (by
      show Steps p.tables e below (s₁.setTop (mkF m 3 #[.val (.long k), .second] [(.int (lcmpW k (0 : Int64)))])) _
      refine XS.ifYes X0.here hx rfl (pc0 := 3) (pc' := 25) rfl (hb hby d1_3) rfl ((if0 _ _).trans (tlt ((lw_lt k (0 : Int64)).mpr hc3_2)).1) (by decide) (by decide) ?_
      show Steps p.tables e below (s₁.setTop (mkF m 25 #[.val (.long k), .second] [])) _
      refine XS.aconstNull X0.here hx rfl (hb hby d1_25) ?_
      show Steps p.tables e below (s₁.setTop (mkF m 26 #[.val (.long k), .second] [.null])) _
      exact k_)
    obtain ⟨fs, hr, hrun, hended, hW, hsame⟩ := X0.leave (v := some .null) (fun h => by rw [Bd.returns] at h; cases h)
    refine ⟨_, _, pre3 _ ?_, hrun, hended, _, _, rfl, ?_, ⟨_, rfl⟩, hW, hsame.mono (by decide) (by decide)⟩
    · show Steps p.tables e below (s₁.setTop (mkF m 26 #[.val (.long k), .second] [.null])) _
      exact retA X0 hx Bd.returns rfl rfl rfl (hb hby d1_26) hr
    · show Q_1 Z k w_OBJECT w_INT w_BOOLEAN w_BYTE w_CHAR w_FLOAT w_DOUBLE w_LONG w_SHORT w_BY_CODE cl_BY_CODE h0 n0 _ s₁.heap _
      rw [e0]
      exact ⟨congrArg some (own_of_out k w_OBJECT w_INT w_BOOLEAN w_BYTE w_CHAR w_FLOAT w_DOUBLE w_LONG w_SHORT (Or.inl hc3_2)).symm, N0, rfl⟩
  · obtain ⟨T4, X4, e4, st4⟩ := getS2 X0 hx hZ hown (host := "") (Or.inl (hw _ (List.mem_of_getElem? (i := 15) rfl))) Via.refl e0 S_BY_CODE (g := (mkF m 7 #[.val (.long k), .second] [(.long k)])) rfl (hb hby d1_7)
    have pre5 : ∀ t_, Steps p.tables e below (T4.setTop (mkF m 13 #[.val (.long k), .second] [(.int (lcmpW k ((9 : Int32).toInt64)))])) t_ → Steps p.tables e below (s₁.setTop (entryFrame m #[(.long k)] 2)) t_ := fun t_ k_ => pre1 t_ (by
      show Steps p.tables e below (s₁.setTop (mkF m 3 #[.val (.long k), .second] [(.int (lcmpW k (0 : Int64)))])) _
      refine XS.ifNo X0.here hx rfl (hb hby d1_3) rfl ((if0 _ _).trans (flt (fun q_ => hc3_2 ((lw_lt k (0 : Int64)).mp q_))).1) ?_
      show Steps p.tables e below (s₁.setTop (mkF m 6 #[.val (.long k), .second] [])) _
      refine XS.lloadN X0.here hx rfl (hb hby d1_6) rfl ?_
      show Steps p.tables e below (s₁.setTop (mkF m 7 #[.val (.long k), .second] [(.long k)])) _
      refine st4 _ ?_
      show Steps p.tables e below (T4.setTop (mkF m 10 #[.val (.long k), .second] [(.ref w_BY_CODE), (.long k)])) _
      refine X4.arraylength hx (by rw [e4]; exact Ar_BY_CODE.1) (State.isArrayOf_alike hZ.alike Ar_BY_CODE.2.1) (g := (mkF m 10 #[.val (.long k), .second] [(.ref w_BY_CODE), (.long k)])) rfl rfl (hb hby d1_10) _ ?_
      rw [len_of (show cl_BY_CODE.slots.size = (9 : Int32).toNatClampNeg from Z_BY_CODE) (by decide)]
      show Steps p.tables e below (T4.setTop (mkF m 11 #[.val (.long k), .second] [(.int (9 : Int32)), (.long k)])) _
      refine XS.i2l X4.here hx rfl (hb hby d1_11) rfl ?_
      show Steps p.tables e below (T4.setTop (mkF m 12 #[.val (.long k), .second] [(.long ((9 : Int32).toInt64)), (.long k)])) _
      refine XS.lcmp X4.here hx rfl (hb hby d1_12) rfl ?_
      show Steps p.tables e below (T4.setTop (mkF m 13 #[.val (.long k), .second] [(.int (lcmpW k ((9 : Int32).toInt64)))])) _
      exact k_)
    by_cases hc13_6 : k < ((9 : Int32).toInt64)
    · obtain ⟨T7, X7, e7, st7⟩ := getS2 X4 hx hZ hown (host := "") (Or.inl (hw _ (List.mem_of_getElem? (i := 15) rfl))) Via.refl e4 S_BY_CODE (g := (mkF m 16 #[.val (.long k), .second] [])) rfl (hb hby d1_16)
      have pre8 : ∀ t_, Steps p.tables e below (T7.setTop (mkF m 26 #[.val (.long k), .second] [(own_of k w_OBJECT w_INT w_BOOLEAN w_BYTE w_CHAR w_FLOAT w_DOUBLE w_LONG w_SHORT)])) t_ → Steps p.tables e below (s₁.setTop (entryFrame m #[(.long k)] 2)) t_ := fun t_ k_ => pre5 t_ (by
        show Steps p.tables e below (T4.setTop (mkF m 13 #[.val (.long k), .second] [(.int (lcmpW k ((9 : Int32).toInt64)))])) _
        refine XS.ifNo X4.here hx rfl (hb hby d1_13) rfl ((if0 _ _).trans (tlt ((lw_lt k ((9 : Int32).toInt64)).mpr hc13_6)).2.1) ?_
        show Steps p.tables e below (T4.setTop (mkF m 16 #[.val (.long k), .second] [])) _
        refine st7 _ ?_
        show Steps p.tables e below (T7.setTop (mkF m 19 #[.val (.long k), .second] [(.ref w_BY_CODE)])) _
        refine XS.lloadN X7.here hx rfl (hb hby d1_19) rfl ?_
        show Steps p.tables e below (T7.setTop (mkF m 20 #[.val (.long k), .second] [(.long k), (.ref w_BY_CODE)])) _
        refine XS.l2i X7.here hx rfl (hb hby d1_20) rfl ?_
        show Steps p.tables e below (T7.setTop (mkF m 21 #[.val (.long k), .second] [(.int (k.toInt32)), (.ref w_BY_CODE)])) _
        refine X7.aaload hx (j := (k.toInt32)) (v := (own_of k w_OBJECT w_INT w_BOOLEAN w_BYTE w_CHAR w_FLOAT w_DOUBLE w_LONG w_SHORT)) (by rw [e7]; exact Ar_BY_CODE.1) (State.isArrayOf_alike hZ.alike Ar_BY_CODE.2.1) rfl Ar_BY_CODE.2.2 (inb_of (show cl_BY_CODE.slots.size = (9 : Int32).toNatClampNeg from Z_BY_CODE) (own_ins k hc3_2 hc13_6)) (hat k hc3_2 hc13_6) (g := (mkF m 21 #[.val (.long k), .second] [(.int (k.toInt32)), (.ref w_BY_CODE)])) rfl rfl (hb hby d1_21) _ ?_
        show Steps p.tables e below (T7.setTop (mkF m 22 #[.val (.long k), .second] [(own_of k w_OBJECT w_INT w_BOOLEAN w_BYTE w_CHAR w_FLOAT w_DOUBLE w_LONG w_SHORT)])) _
        refine XS.goto X7.here hx rfl (pc0 := 22) (pc' := 26) rfl (hb hby d1_22) (by decide) (by decide) ?_
        show Steps p.tables e below (T7.setTop (mkF m 26 #[.val (.long k), .second] [(own_of k w_OBJECT w_INT w_BOOLEAN w_BYTE w_CHAR w_FLOAT w_DOUBLE w_LONG w_SHORT)])) _
        exact k_)
      obtain ⟨fs, hr, hrun, hended, hW, hsame⟩ := X7.leave (v := some (own_of k w_OBJECT w_INT w_BOOLEAN w_BYTE w_CHAR w_FLOAT w_DOUBLE w_LONG w_SHORT)) (fun h => by rw [Bd.returns] at h; cases h)
      refine ⟨_, _, pre8 _ ?_, hrun, hended, _, _, rfl, ?_, ⟨_, rfl⟩, hW, hsame.mono (by decide) (by decide)⟩
      · show Steps p.tables e below (T7.setTop (mkF m 26 #[.val (.long k), .second] [(own_of k w_OBJECT w_INT w_BOOLEAN w_BYTE w_CHAR w_FLOAT w_DOUBLE w_LONG w_SHORT)])) _
        exact retA X7 hx Bd.returns rfl (own_of_ref k w_OBJECT w_INT w_BOOLEAN w_BYTE w_CHAR w_FLOAT w_DOUBLE w_LONG w_SHORT) rfl (hb hby d1_26) hr
      · show Q_1 Z k w_OBJECT w_INT w_BOOLEAN w_BYTE w_CHAR w_FLOAT w_DOUBLE w_LONG w_SHORT w_BY_CODE cl_BY_CODE h0 n0 _ T7.heap _
        rw [e7]
        exact ⟨rfl, N0, rfl⟩
    · have pre9 : ∀ t_, Steps p.tables e below (T4.setTop (mkF m 26 #[.val (.long k), .second] [.null])) t_ → Steps p.tables e below (s₁.setTop (entryFrame m #[(.long k)] 2)) t_ := fun t_ k_ => pre5 t_ (by
        show Steps p.tables e below (T4.setTop (mkF m 13 #[.val (.long k), .second] [(.int (lcmpW k ((9 : Int32).toInt64)))])) _
        refine XS.ifYes X4.here hx rfl (pc0 := 13) (pc' := 25) rfl (hb hby d1_13) rfl ((if0 _ _).trans (flt (fun q_ => hc13_6 ((lw_lt k ((9 : Int32).toInt64)).mp q_))).2.1) (by decide) (by decide) ?_
        show Steps p.tables e below (T4.setTop (mkF m 25 #[.val (.long k), .second] [])) _
        refine XS.aconstNull X4.here hx rfl (hb hby d1_25) ?_
        show Steps p.tables e below (T4.setTop (mkF m 26 #[.val (.long k), .second] [.null])) _
        exact k_)
      obtain ⟨fs, hr, hrun, hended, hW, hsame⟩ := X4.leave (v := some .null) (fun h => by rw [Bd.returns] at h; cases h)
      refine ⟨_, _, pre9 _ ?_, hrun, hended, _, _, rfl, ?_, ⟨_, rfl⟩, hW, hsame.mono (by decide) (by decide)⟩
      · show Steps p.tables e below (T4.setTop (mkF m 26 #[.val (.long k), .second] [.null])) _
        exact retA X4 hx Bd.returns rfl rfl rfl (hb hby d1_26) hr
      · show Q_1 Z k w_OBJECT w_INT w_BOOLEAN w_BYTE w_CHAR w_FLOAT w_DOUBLE w_LONG w_SHORT w_BY_CODE cl_BY_CODE h0 n0 _ T4.heap _
        rw [e4]
        exact ⟨congrArg some (own_of_out k w_OBJECT w_INT w_BOOLEAN w_BYTE w_CHAR w_FLOAT w_DOUBLE w_LONG w_SHORT (Or.inr hc13_6)).symm, N0, rfl⟩
theorem ef_2 (m : MethodId) (k : Int64) : entryFrame m #[(.long k)] 2 = mkF m 0 #[.val (.long k), .second] [] := by first | (simp [entryFrame, mkF, argsToLocals, Value.category]; done) | rfl
def Q_2 (Z : State) (k : Int64) (w_OBJECT : Addr) (w_INT : Addr) (w_BOOLEAN : Addr) (w_BYTE : Addr) (w_CHAR : Addr) (w_FLOAT : Addr) (w_DOUBLE : Addr) (w_LONG : Addr) (w_SHORT : Addr) (h0 : Heap) (n0 : Nat) (v : Option Value) (h : Heap) (L : List Loc) : Prop := v = some (own_of k w_OBJECT w_INT w_BOOLEAN w_BYTE w_CHAR w_FLOAT w_DOUBLE w_LONG w_SHORT) ∧ Fr n0 L ∧ h = h0
theorem pn_1 : plainName "com/example/heapscribe/heapscribe/BmdTypePinLaw" = true := by first | (simp [plainName, overriddenIn]; done) | decide +kernel
theorem d2_0 : decode method_3_code 0 = .ok (.lload_n 0, 1) := by decide +kernel
theorem d2_1 : decode method_3_code 1 = .ok (.lconst 0, 1) := by decide +kernel
theorem d2_2 : decode method_3_code 2 = .ok (.lcmp, 1) := by decide +kernel
theorem d2_3 : decode method_3_code 3 = .ok (.ifCond .ne 7, 3) := by decide +kernel
theorem d2_6 : decode method_3_code 6 = .ok (.getstatic 22, 3) := by decide +kernel
theorem d2_9 : decode method_3_code 9 = .ok (.areturn, 1) := by decide +kernel
theorem d2_10 : decode method_3_code 10 = .ok (.lload_n 0, 1) := by decide +kernel
theorem d2_11 : decode method_3_code 11 = .ok (.lconst 1, 1) := by decide +kernel
theorem d2_12 : decode method_3_code 12 = .ok (.lcmp, 1) := by decide +kernel
theorem d2_13 : decode method_3_code 13 = .ok (.ifCond .ne 7, 3) := by decide +kernel
theorem d2_16 : decode method_3_code 16 = .ok (.getstatic 28, 3) := by decide +kernel
theorem d2_19 : decode method_3_code 19 = .ok (.areturn, 1) := by decide +kernel
theorem d2_20 : decode method_3_code 20 = .ok (.lload_n 0, 1) := by decide +kernel
theorem d2_21 : decode method_3_code 21 = .ok (.ldc2_w 31, 3) := by decide +kernel
theorem d2_24 : decode method_3_code 24 = .ok (.lcmp, 1) := by decide +kernel
theorem d2_25 : decode method_3_code 25 = .ok (.ifCond .ne 7, 3) := by decide +kernel
theorem d2_28 : decode method_3_code 28 = .ok (.getstatic 33, 3) := by decide +kernel
theorem d2_31 : decode method_3_code 31 = .ok (.areturn, 1) := by decide +kernel
theorem d2_32 : decode method_3_code 32 = .ok (.lload_n 0, 1) := by decide +kernel
theorem d2_33 : decode method_3_code 33 = .ok (.ldc2_w 36, 3) := by decide +kernel
theorem d2_36 : decode method_3_code 36 = .ok (.lcmp, 1) := by decide +kernel
theorem d2_37 : decode method_3_code 37 = .ok (.ifCond .ne 7, 3) := by decide +kernel
theorem d2_40 : decode method_3_code 40 = .ok (.getstatic 38, 3) := by decide +kernel
theorem d2_43 : decode method_3_code 43 = .ok (.areturn, 1) := by decide +kernel
theorem d2_44 : decode method_3_code 44 = .ok (.lload_n 0, 1) := by decide +kernel
theorem d2_45 : decode method_3_code 45 = .ok (.ldc2_w 41, 3) := by decide +kernel
theorem d2_48 : decode method_3_code 48 = .ok (.lcmp, 1) := by decide +kernel
theorem d2_49 : decode method_3_code 49 = .ok (.ifCond .ne 7, 3) := by decide +kernel
theorem d2_52 : decode method_3_code 52 = .ok (.getstatic 43, 3) := by decide +kernel
theorem d2_55 : decode method_3_code 55 = .ok (.areturn, 1) := by decide +kernel
theorem d2_56 : decode method_3_code 56 = .ok (.lload_n 0, 1) := by decide +kernel
theorem d2_57 : decode method_3_code 57 = .ok (.ldc2_w 46, 3) := by decide +kernel
theorem d2_60 : decode method_3_code 60 = .ok (.lcmp, 1) := by decide +kernel
theorem d2_61 : decode method_3_code 61 = .ok (.ifCond .ne 7, 3) := by decide +kernel
theorem d2_64 : decode method_3_code 64 = .ok (.getstatic 48, 3) := by decide +kernel
theorem d2_67 : decode method_3_code 67 = .ok (.areturn, 1) := by decide +kernel
theorem d2_68 : decode method_3_code 68 = .ok (.lload_n 0, 1) := by decide +kernel
theorem d2_69 : decode method_3_code 69 = .ok (.ldc2_w 51, 3) := by decide +kernel
theorem d2_72 : decode method_3_code 72 = .ok (.lcmp, 1) := by decide +kernel
theorem d2_73 : decode method_3_code 73 = .ok (.ifCond .ne 7, 3) := by decide +kernel
theorem d2_76 : decode method_3_code 76 = .ok (.getstatic 53, 3) := by decide +kernel
theorem d2_79 : decode method_3_code 79 = .ok (.areturn, 1) := by decide +kernel
theorem d2_80 : decode method_3_code 80 = .ok (.lload_n 0, 1) := by decide +kernel
theorem d2_81 : decode method_3_code 81 = .ok (.ldc2_w 56, 3) := by decide +kernel
theorem d2_84 : decode method_3_code 84 = .ok (.lcmp, 1) := by decide +kernel
theorem d2_85 : decode method_3_code 85 = .ok (.ifCond .ne 7, 3) := by decide +kernel
theorem d2_88 : decode method_3_code 88 = .ok (.getstatic 58, 3) := by decide +kernel
theorem d2_91 : decode method_3_code 91 = .ok (.areturn, 1) := by decide +kernel
theorem d2_92 : decode method_3_code 92 = .ok (.lload_n 0, 1) := by decide +kernel
theorem d2_93 : decode method_3_code 93 = .ok (.ldc2_w 61, 3) := by decide +kernel
theorem d2_96 : decode method_3_code 96 = .ok (.lcmp, 1) := by decide +kernel
theorem d2_97 : decode method_3_code 97 = .ok (.ifCond .ne 7, 3) := by decide +kernel
theorem d2_100 : decode method_3_code 100 = .ok (.getstatic 63, 3) := by decide +kernel
theorem d2_103 : decode method_3_code 103 = .ok (.areturn, 1) := by decide +kernel
theorem d2_104 : decode method_3_code 104 = .ok (.aconst_null, 1) := by decide +kernel
theorem d2_105 : decode method_3_code 105 = .ok (.areturn, 1) := by decide +kernel
set_option maxRecDepth 65536 in
set_option maxHeartbeats 40000000 in
theorem rm_2 (l : Launch) (Z : State) (a0 : Array Value) (hw : ∀ d ∈ tables_1, d.before a0 Z = true) (ws : List Jvm.Cond) (k : Int64) (w_OBJECT : Addr) (w_INT : Addr) (w_BOOLEAN : Addr) (w_BYTE : Addr) (w_CHAR : Addr) (w_FLOAT : Addr) (w_DOUBLE : Addr) (w_LONG : Addr) (w_SHORT : Addr) (h0 : Heap) (n0 : Nat) (Z0 : n0 ≤ h0.size) (S_OBJECT : Sta Z h0 "com/example/heapscribe/heapscribe/Hprof$BasicType" "OBJECT" "Lcom/example/heapscribe/heapscribe/Hprof$BasicType;" (.ref w_OBJECT)) (S_INT : Sta Z h0 "com/example/heapscribe/heapscribe/Hprof$BasicType" "INT" "Lcom/example/heapscribe/heapscribe/Hprof$BasicType;" (.ref w_INT)) (S_BOOLEAN : Sta Z h0 "com/example/heapscribe/heapscribe/Hprof$BasicType" "BOOLEAN" "Lcom/example/heapscribe/heapscribe/Hprof$BasicType;" (.ref w_BOOLEAN)) (S_BYTE : Sta Z h0 "com/example/heapscribe/heapscribe/Hprof$BasicType" "BYTE" "Lcom/example/heapscribe/heapscribe/Hprof$BasicType;" (.ref w_BYTE)) (S_CHAR : Sta Z h0 "com/example/heapscribe/heapscribe/Hprof$BasicType" "CHAR" "Lcom/example/heapscribe/heapscribe/Hprof$BasicType;" (.ref w_CHAR)) (S_FLOAT : Sta Z h0 "com/example/heapscribe/heapscribe/Hprof$BasicType" "FLOAT" "Lcom/example/heapscribe/heapscribe/Hprof$BasicType;" (.ref w_FLOAT)) (S_DOUBLE : Sta Z h0 "com/example/heapscribe/heapscribe/Hprof$BasicType" "DOUBLE" "Lcom/example/heapscribe/heapscribe/Hprof$BasicType;" (.ref w_DOUBLE)) (S_LONG : Sta Z h0 "com/example/heapscribe/heapscribe/Hprof$BasicType" "LONG" "Lcom/example/heapscribe/heapscribe/Hprof$BasicType;" (.ref w_LONG)) (S_SHORT : Sta Z h0 "com/example/heapscribe/heapscribe/Hprof$BasicType" "SHORT" "Lcom/example/heapscribe/heapscribe/Hprof$BasicType;" (.ref w_SHORT)) :
    MetFree l (⟨"com/example/heapscribe/heapscribe/BmdTypePinLaw", "expected", "(J)Lcom/example/heapscribe/heapscribe/Hprof$BasicType;"⟩ : MethodName) (head1 (Jvm.Cond.code (⟨"com/example/heapscribe/heapscribe/BmdTypePinLaw", "expected", "(J)Lcom/example/heapscribe/heapscribe/Hprof$BasicType;"⟩ : MethodName) method_3_code 2 (some (.object "com/example/heapscribe/heapscribe/Hprof$BasicType")) :: ws) ({ frames := 0, cells := 0, slots := 0, locals := 0 } : Room)) (fun a_ U_ => a_ = #[(.long k)] ∧ Z.Warmed39 U_.vm ∧ U_.heap = h0) (fun _ _ _ _ _ => True) (fun _ U_ o_ V_ => ∃ v_ L_, o_ = .returned v_ ∧ Q_2 Z k w_OBJECT w_INT w_BOOLEAN w_BYTE w_CHAR w_FLOAT w_DOUBLE w_LONG w_SHORT h0 n0 v_ V_.heap L_ ∧ FrameEnd U_ o_ V_ L_ ({ frames := 0, cells := 0, slots := 0, locals := 0 } : Room).cells ({ frames := 0, cells := 0, slots := 0, locals := 0 } : Room).slots) := by
  refine MetFree.of_bodySF (plainFor_of_name pn_1) hisR ?_
  intro p e s m args below meth c s₁ Bd hml0 hP hK
  obtain ⟨rfl, hZ, hh⟩ := hP
  have hx := Bd.exec
  have hby := Bd.bytes
  have hml : c.maxLocals = 2 := hml0
  have hown : s.vm.findClass "com/example/heapscribe/heapscribe/BmdTypePinLaw" = some m.cls := findClass_of_methodNamed Bd.named
  have hnm := (name_of_methodNamed Bd.named Bd.method).1
  have X0 : Stand p l e ({ frames := 0, cells := 0, slots := 0, locals := 0 } : Room) s m #[(.long k)] below meth c s₁ [] 0 0 := Stand.of_body Bd
  have e0 : s₁.heap = h0 := by rw [← hh, Bd.state]; rfl
  have N0 := Fr.nil n0
  have pre0 : ∀ t_, Steps p.tables e below (s₁.setTop (mkF m 0 #[.val (.long k), .second] [])) t_ → Steps p.tables e below (s₁.setTop (entryFrame m #[(.long k)] 2)) t_ := fun t_ k_ => castTop (ef_2 m k) k_
  have pre10 : ∀ t_, Steps p.tables e below (s₁.setTop (mkF m 3 #[.val (.long k), .second] [(.int (lcmpW k (0 : Int64)))])) t_ → Steps p.tables e below (s₁.setTop (entryFrame m #[(.long k)] 2)) t_ := fun t_ k_ => pre0 t_ (by
    show Steps p.tables e below (s₁.setTop (mkF m 0 #[.val (.long k), .second] [])) _
    refine XS.lloadN X0.here hx rfl (hb hby d2_0) rfl ?_
    show Steps p.tables e below (s₁.setTop (mkF m 1 #[.val (.long k), .second] [(.long k)])) _
    refine XS.lconst X0.here hx rfl (hb hby d2_1) ?_
    show Steps p.tables e below (s₁.setTop (mkF m 2 #[.val (.long k), .second] [(.long (0 : Int64)), (.long k)])) _
    refine XS.lcmp X0.here hx rfl (hb hby d2_2) rfl ?_
    show Steps p.tables e below (s₁.setTop (mkF m 3 #[.val (.long k), .second] [(.int (lcmpW k (0 : Int64)))])) _
    exact k_)
  by_cases hc3_11 : k = (0 : Int64)
  · obtain ⟨T12, X12, e12, st12⟩ := getS2 X0 hx hZ hown (host := "") (Or.inl (hw _ (List.mem_of_getElem? (i := 35) rfl))) Via.refl e0 S_OBJECT (g := (mkF m 6 #[.val (.long k), .second] [])) rfl (hb hby d2_6)
    have pre13 : ∀ t_, Steps p.tables e below (T12.setTop (mkF m 9 #[.val (.long k), .second] [(.ref w_OBJECT)])) t_ → Steps p.tables e below (s₁.setTop (entryFrame m #[(.long k)] 2)) t_ := fun t_ k_ => pre10 t_ (by
      show Steps p.tables e below (s₁.setTop (mkF m 3 #[.val (.long k), .second] [(.int (lcmpW k (0 : Int64)))])) _
      refine XS.ifNo X0.here hx rfl (hb hby d2_3) rfl ((if0 _ _).trans (teq ((lw_eq k (0 : Int64)).mpr hc3_11)).2) ?_
      show Steps p.tables e below (s₁.setTop (mkF m 6 #[.val (.long k), .second] [])) _
      refine st12 _ ?_
      show Steps p.tables e below (T12.setTop (mkF m 9 #[.val (.long k), .second] [(.ref w_OBJECT)])) _
      exact k_)
    obtain ⟨fs, hr, hrun, hended, hW, hsame⟩ := X12.leave (v := some (.ref w_OBJECT)) (fun h => by rw [Bd.returns] at h; cases h)
    refine ⟨_, _, pre13 _ ?_, hrun, hended, _, _, rfl, ?_, ⟨_, rfl⟩, hW, hsame.mono (by decide) (by decide)⟩
    · show Steps p.tables e below (T12.setTop (mkF m 9 #[.val (.long k), .second] [(.ref w_OBJECT)])) _
      exact retA X12 hx Bd.returns rfl rfl rfl (hb hby d2_9) hr
    · show Q_2 Z k w_OBJECT w_INT w_BOOLEAN w_BYTE w_CHAR w_FLOAT w_DOUBLE w_LONG w_SHORT h0 n0 _ T12.heap _
      rw [e12]
      exact ⟨by rw [own_of, if_pos hc3_11], N0, rfl⟩
  · have pre14 : ∀ t_, Steps p.tables e below (s₁.setTop (mkF m 13 #[.val (.long k), .second] [(.int (lcmpW k (1 : Int64)))])) t_ → Steps p.tables e below (s₁.setTop (entryFrame m #[(.long k)] 2)) t_ := fun t_ k_ => pre10 t_ (by
      show Steps p.tables e below (s₁.setTop (mkF m 3 #[.val (.long k), .second] [(.int (lcmpW k (0 : Int64)))])) _
      refine XS.ifYes X0.here hx rfl (pc0 := 3) (pc' := 10) rfl (hb hby d2_3) rfl ((if0 _ _).trans (feq (fun q_ => hc3_11 ((lw_eq k (0 : Int64)).mp q_))).2) (by decide) (by decide) ?_
      show Steps p.tables e below (s₁.setTop (mkF m 10 #[.val (.long k), .second] [])) _
      refine XS.lloadN X0.here hx rfl (hb hby d2_10) rfl ?_
      show Steps p.tables e below (s₁.setTop (mkF m 11 #[.val (.long k), .second] [(.long k)])) _
      refine XS.lconst X0.here hx rfl (hb hby d2_11) ?_
      show Steps p.tables e below (s₁.setTop (mkF m 12 #[.val (.long k), .second] [(.long (1 : Int64)), (.long k)])) _
      refine XS.lcmp X0.here hx rfl (hb hby d2_12) rfl ?_
      show Steps p.tables e below (s₁.setTop (mkF m 13 #[.val (.long k), .second] [(.int (lcmpW k (1 : Int64)))])) _
      exact k_)
    by_cases hc13_15 : k = (1 : Int64)
    · obtain ⟨T16, X16, e16, st16⟩ := getS2 X0 hx hZ hown (host := "") (Or.inl (hw _ (List.mem_of_getElem? (i := 41) rfl))) Via.refl e0 S_INT (g := (mkF m 16 #[.val (.long k), .second] [])) rfl (hb hby d2_16)
      have pre17 : ∀ t_, Steps p.tables e below (T16.setTop (mkF m 19 #[.val (.long k), .second] [(.ref w_INT)])) t_ → Steps p.tables e below (s₁.setTop (entryFrame m #[(.long k)] 2)) t_ := fun t_ k_ => pre14 t_ (by
        show Steps p.tables e below (s₁.setTop (mkF m 13 #[.val (.long k), .second] [(.int (lcmpW k (1 : Int64)))])) _
        refine XS.ifNo X0.here hx rfl (hb hby d2_13) rfl ((if0 _ _).trans (teq ((lw_eq k (1 : Int64)).mpr hc13_15)).2) ?_
        show Steps p.tables e below (s₁.setTop (mkF m 16 #[.val (.long k), .second] [])) _
        refine st16 _ ?_
        show Steps p.tables e below (T16.setTop (mkF m 19 #[.val (.long k), .second] [(.ref w_INT)])) _
        exact k_)
      obtain ⟨fs, hr, hrun, hended, hW, hsame⟩ := X16.leave (v := some (.ref w_INT)) (fun h => by rw [Bd.returns] at h; cases h)
      refine ⟨_, _, pre17 _ ?_, hrun, hended, _, _, rfl, ?_, ⟨_, rfl⟩, hW, hsame.mono (by decide) (by decide)⟩
      · show Steps p.tables e below (T16.setTop (mkF m 19 #[.val (.long k), .second] [(.ref w_INT)])) _
        exact retA X16 hx Bd.returns rfl rfl rfl (hb hby d2_19) hr
      · show Q_2 Z k w_OBJECT w_INT w_BOOLEAN w_BYTE w_CHAR w_FLOAT w_DOUBLE w_LONG w_SHORT h0 n0 _ T16.heap _
        rw [e16]
        exact ⟨by rw [own_of, if_neg hc3_11, if_pos hc13_15], N0, rfl⟩
    · have pre18 : ∀ t_, Steps p.tables e below (s₁.setTop (mkF m 25 #[.val (.long k), .second] [(.int (lcmpW k (2 : Int64)))])) t_ → Steps p.tables e below (s₁.setTop (entryFrame m #[(.long k)] 2)) t_ := fun t_ k_ => pre14 t_ (by
        show Steps p.tables e below (s₁.setTop (mkF m 13 #[.val (.long k), .second] [(.int (lcmpW k (1 : Int64)))])) _
        refine XS.ifYes X0.here hx rfl (pc0 := 13) (pc' := 20) rfl (hb hby d2_13) rfl ((if0 _ _).trans (feq (fun q_ => hc13_15 ((lw_eq k (1 : Int64)).mp q_))).2) (by decide) (by decide) ?_
        show Steps p.tables e below (s₁.setTop (mkF m 20 #[.val (.long k), .second] [])) _
        refine XS.lloadN X0.here hx rfl (hb hby d2_20) rfl ?_
        show Steps p.tables e below (s₁.setTop (mkF m 21 #[.val (.long k), .second] [(.long k)])) _
        refine X0.ldc2Long hx hown (mvT hZ (hw _ (List.mem_of_getElem? (i := 8) rfl))) (g := (mkF m 21 #[.val (.long k), .second] [(.long k)])) rfl (hb hby d2_21) _ ?_
        show Steps p.tables e below (s₁.setTop (mkF m 24 #[.val (.long k), .second] [(.long (2 : Int64)), (.long k)])) _
        refine XS.lcmp X0.here hx rfl (hb hby d2_24) rfl ?_
        show Steps p.tables e below (s₁.setTop (mkF m 25 #[.val (.long k), .second] [(.int (lcmpW k (2 : Int64)))])) _
        exact k_)
      by_cases hc25_19 : k = (2 : Int64)
      · obtain ⟨T20, X20, e20, st20⟩ := getS2 X0 hx hZ hown (host := "") (Or.inl (hw _ (List.mem_of_getElem? (i := 37) rfl))) Via.refl e0 S_BOOLEAN (g := (mkF m 28 #[.val (.long k), .second] [])) rfl (hb hby d2_28)
        have pre21 : ∀ t_, Steps p.tables e below (T20.setTop (mkF m 31 #[.val (.long k), .second] [(.ref w_BOOLEAN)])) t_ → Steps p.tables e below (s₁.setTop (entryFrame m #[(.long k)] 2)) t_ := fun t_ k_ => pre18 t_ (by
          show Steps p.tables e below (s₁.setTop (mkF m 25 #[.val (.long k), .second] [(.int (lcmpW k (2 : Int64)))])) _
          refine XS.ifNo X0.here hx rfl (hb hby d2_25) rfl ((if0 _ _).trans (teq ((lw_eq k (2 : Int64)).mpr hc25_19)).2) ?_
          show Steps p.tables e below (s₁.setTop (mkF m 28 #[.val (.long k), .second] [])) _
          refine st20 _ ?_
          show Steps p.tables e below (T20.setTop (mkF m 31 #[.val (.long k), .second] [(.ref w_BOOLEAN)])) _
          exact k_)
        obtain ⟨fs, hr, hrun, hended, hW, hsame⟩ := X20.leave (v := some (.ref w_BOOLEAN)) (fun h => by rw [Bd.returns] at h; cases h)
        refine ⟨_, _, pre21 _ ?_, hrun, hended, _, _, rfl, ?_, ⟨_, rfl⟩, hW, hsame.mono (by decide) (by decide)⟩
        · show Steps p.tables e below (T20.setTop (mkF m 31 #[.val (.long k), .second] [(.ref w_BOOLEAN)])) _
          exact retA X20 hx Bd.returns rfl rfl rfl (hb hby d2_31) hr
        · show Q_2 Z k w_OBJECT w_INT w_BOOLEAN w_BYTE w_CHAR w_FLOAT w_DOUBLE w_LONG w_SHORT h0 n0 _ T20.heap _
          rw [e20]
          exact ⟨by rw [own_of, if_neg hc3_11, if_neg hc13_15, if_pos hc25_19], N0, rfl⟩
      · have pre22 : ∀ t_, Steps p.tables e below (s₁.setTop (mkF m 37 #[.val (.long k), .second] [(.int (lcmpW k (3 : Int64)))])) t_ → Steps p.tables e below (s₁.setTop (entryFrame m #[(.long k)] 2)) t_ := fun t_ k_ => pre18 t_ (by
          show Steps p.tables e below (s₁.setTop (mkF m 25 #[.val (.long k), .second] [(.int (lcmpW k (2 : Int64)))])) _
          refine XS.ifYes X0.here hx rfl (pc0 := 25) (pc' := 32) rfl (hb hby d2_25) rfl ((if0 _ _).trans (feq (fun q_ => hc25_19 ((lw_eq k (2 : Int64)).mp q_))).2) (by decide) (by decide) ?_
          show Steps p.tables e below (s₁.setTop (mkF m 32 #[.val (.long k), .second] [])) _
          refine XS.lloadN X0.here hx rfl (hb hby d2_32) rfl ?_
          show Steps p.tables e below (s₁.setTop (mkF m 33 #[.val (.long k), .second] [(.long k)])) _
          refine X0.ldc2Long hx hown (mvT hZ (hw _ (List.mem_of_getElem? (i := 9) rfl))) (g := (mkF m 33 #[.val (.long k), .second] [(.long k)])) rfl (hb hby d2_33) _ ?_
          show Steps p.tables e below (s₁.setTop (mkF m 36 #[.val (.long k), .second] [(.long (3 : Int64)), (.long k)])) _
          refine XS.lcmp X0.here hx rfl (hb hby d2_36) rfl ?_
          show Steps p.tables e below (s₁.setTop (mkF m 37 #[.val (.long k), .second] [(.int (lcmpW k (3 : Int64)))])) _
          exact k_)
        by_cases hc37_23 : k = (3 : Int64)
        · obtain ⟨T24, X24, e24, st24⟩ := getS2 X0 hx hZ hown (host := "") (Or.inl (hw _ (List.mem_of_getElem? (i := 43) rfl))) Via.refl e0 S_BYTE (g := (mkF m 40 #[.val (.long k), .second] [])) rfl (hb hby d2_40)
          have pre25 : ∀ t_, Steps p.tables e below (T24.setTop (mkF m 43 #[.val (.long k), .second] [(.ref w_BYTE)])) t_ → Steps p.tables e below (s₁.setTop (entryFrame m #[(.long k)] 2)) t_ := fun t_ k_ => pre22 t_ (by
            show Steps p.tables e below (s₁.setTop (mkF m 37 #[.val (.long k), .second] [(.int (lcmpW k (3 : Int64)))])) _
            refine XS.ifNo X0.here hx rfl (hb hby d2_37) rfl ((if0 _ _).trans (teq ((lw_eq k (3 : Int64)).mpr hc37_23)).2) ?_
            show Steps p.tables e below (s₁.setTop (mkF m 40 #[.val (.long k), .second] [])) _
            refine st24 _ ?_
            show Steps p.tables e below (T24.setTop (mkF m 43 #[.val (.long k), .second] [(.ref w_BYTE)])) _
            exact k_)
          obtain ⟨fs, hr, hrun, hended, hW, hsame⟩ := X24.leave (v := some (.ref w_BYTE)) (fun h => by rw [Bd.returns] at h; cases h)
          refine ⟨_, _, pre25 _ ?_, hrun, hended, _, _, rfl, ?_, ⟨_, rfl⟩, hW, hsame.mono (by decide) (by decide)⟩
          · show Steps p.tables e below (T24.setTop (mkF m 43 #[.val (.long k), .second] [(.ref w_BYTE)])) _
            exact retA X24 hx Bd.returns rfl rfl rfl (hb hby d2_43) hr
          · show Q_2 Z k w_OBJECT w_INT w_BOOLEAN w_BYTE w_CHAR w_FLOAT w_DOUBLE w_LONG w_SHORT h0 n0 _ T24.heap _
            rw [e24]
            exact ⟨by rw [own_of, if_neg hc3_11, if_neg hc13_15, if_neg hc25_19, if_pos hc37_23], N0, rfl⟩
        · have pre26 : ∀ t_, Steps p.tables e below (s₁.setTop (mkF m 49 #[.val (.long k), .second] [(.int (lcmpW k (4 : Int64)))])) t_ → Steps p.tables e below (s₁.setTop (entryFrame m #[(.long k)] 2)) t_ := fun t_ k_ => pre22 t_ (by
            show Steps p.tables e below (s₁.setTop (mkF m 37 #[.val (.long k), .second] [(.int (lcmpW k (3 : Int64)))])) _
            refine XS.ifYes X0.here hx rfl (pc0 := 37) (pc' := 44) rfl (hb hby d2_37) rfl ((if0 _ _).trans (feq (fun q_ => hc37_23 ((lw_eq k (3 : Int64)).mp q_))).2) (by decide) (by decide) ?_
            show Steps p.tables e below (s₁.setTop (mkF m 44 #[.val (.long k), .second] [])) _
            refine XS.lloadN X0.here hx rfl (hb hby d2_44) rfl ?_
            show Steps p.tables e below (s₁.setTop (mkF m 45 #[.val (.long k), .second] [(.long k)])) _
            refine X0.ldc2Long hx hown (mvT hZ (hw _ (List.mem_of_getElem? (i := 10) rfl))) (g := (mkF m 45 #[.val (.long k), .second] [(.long k)])) rfl (hb hby d2_45) _ ?_
            show Steps p.tables e below (s₁.setTop (mkF m 48 #[.val (.long k), .second] [(.long (4 : Int64)), (.long k)])) _
            refine XS.lcmp X0.here hx rfl (hb hby d2_48) rfl ?_
            show Steps p.tables e below (s₁.setTop (mkF m 49 #[.val (.long k), .second] [(.int (lcmpW k (4 : Int64)))])) _
            exact k_)
          by_cases hc49_27 : k = (4 : Int64)
          · obtain ⟨T28, X28, e28, st28⟩ := getS2 X0 hx hZ hown (host := "") (Or.inl (hw _ (List.mem_of_getElem? (i := 45) rfl))) Via.refl e0 S_CHAR (g := (mkF m 52 #[.val (.long k), .second] [])) rfl (hb hby d2_52)
            have pre29 : ∀ t_, Steps p.tables e below (T28.setTop (mkF m 55 #[.val (.long k), .second] [(.ref w_CHAR)])) t_ → Steps p.tables e below (s₁.setTop (entryFrame m #[(.long k)] 2)) t_ := fun t_ k_ => pre26 t_ (by
              show Steps p.tables e below (s₁.setTop (mkF m 49 #[.val (.long k), .second] [(.int (lcmpW k (4 : Int64)))])) _
              refine XS.ifNo X0.here hx rfl (hb hby d2_49) rfl ((if0 _ _).trans (teq ((lw_eq k (4 : Int64)).mpr hc49_27)).2) ?_
              show Steps p.tables e below (s₁.setTop (mkF m 52 #[.val (.long k), .second] [])) _
              refine st28 _ ?_
              show Steps p.tables e below (T28.setTop (mkF m 55 #[.val (.long k), .second] [(.ref w_CHAR)])) _
              exact k_)
            obtain ⟨fs, hr, hrun, hended, hW, hsame⟩ := X28.leave (v := some (.ref w_CHAR)) (fun h => by rw [Bd.returns] at h; cases h)
            refine ⟨_, _, pre29 _ ?_, hrun, hended, _, _, rfl, ?_, ⟨_, rfl⟩, hW, hsame.mono (by decide) (by decide)⟩
            · show Steps p.tables e below (T28.setTop (mkF m 55 #[.val (.long k), .second] [(.ref w_CHAR)])) _
              exact retA X28 hx Bd.returns rfl rfl rfl (hb hby d2_55) hr
            · show Q_2 Z k w_OBJECT w_INT w_BOOLEAN w_BYTE w_CHAR w_FLOAT w_DOUBLE w_LONG w_SHORT h0 n0 _ T28.heap _
              rw [e28]
              exact ⟨by rw [own_of, if_neg hc3_11, if_neg hc13_15, if_neg hc25_19, if_neg hc37_23, if_pos hc49_27], N0, rfl⟩
          · have pre30 : ∀ t_, Steps p.tables e below (s₁.setTop (mkF m 61 #[.val (.long k), .second] [(.int (lcmpW k (5 : Int64)))])) t_ → Steps p.tables e below (s₁.setTop (entryFrame m #[(.long k)] 2)) t_ := fun t_ k_ => pre26 t_ (by
              show Steps p.tables e below (s₁.setTop (mkF m 49 #[.val (.long k), .second] [(.int (lcmpW k (4 : Int64)))])) _
              refine XS.ifYes X0.here hx rfl (pc0 := 49) (pc' := 56) rfl (hb hby d2_49) rfl ((if0 _ _).trans (feq (fun q_ => hc49_27 ((lw_eq k (4 : Int64)).mp q_))).2) (by decide) (by decide) ?_
              show Steps p.tables e below (s₁.setTop (mkF m 56 #[.val (.long k), .second] [])) _
              refine XS.lloadN X0.here hx rfl (hb hby d2_56) rfl ?_
              show Steps p.tables e below (s₁.setTop (mkF m 57 #[.val (.long k), .second] [(.long k)])) _
              refine X0.ldc2Long hx hown (mvT hZ (hw _ (List.mem_of_getElem? (i := 11) rfl))) (g := (mkF m 57 #[.val (.long k), .second] [(.long k)])) rfl (hb hby d2_57) _ ?_
              show Steps p.tables e below (s₁.setTop (mkF m 60 #[.val (.long k), .second] [(.long (5 : Int64)), (.long k)])) _
              refine XS.lcmp X0.here hx rfl (hb hby d2_60) rfl ?_
              show Steps p.tables e below (s₁.setTop (mkF m 61 #[.val (.long k), .second] [(.int (lcmpW k (5 : Int64)))])) _
              exact k_)
            by_cases hc61_31 : k = (5 : Int64)
            · obtain ⟨T32, X32, e32, st32⟩ := getS2 X0 hx hZ hown (host := "") (Or.inl (hw _ (List.mem_of_getElem? (i := 39) rfl))) Via.refl e0 S_FLOAT (g := (mkF m 64 #[.val (.long k), .second] [])) rfl (hb hby d2_64)
              have pre33 : ∀ t_, Steps p.tables e below (T32.setTop (mkF m 67 #[.val (.long k), .second] [(.ref w_FLOAT)])) t_ → Steps p.tables e below (s₁.setTop (entryFrame m #[(.long k)] 2)) t_ := fun t_ k_ => pre30 t_ (by
                show Steps p.tables e below (s₁.setTop (mkF m 61 #[.val (.long k), .second] [(.int (lcmpW k (5 : Int64)))])) _
                refine XS.ifNo X0.here hx rfl (hb hby d2_61) rfl ((if0 _ _).trans (teq ((lw_eq k (5 : Int64)).mpr hc61_31)).2) ?_
                show Steps p.tables e below (s₁.setTop (mkF m 64 #[.val (.long k), .second] [])) _
                refine st32 _ ?_
                show Steps p.tables e below (T32.setTop (mkF m 67 #[.val (.long k), .second] [(.ref w_FLOAT)])) _
                exact k_)
              obtain ⟨fs, hr, hrun, hended, hW, hsame⟩ := X32.leave (v := some (.ref w_FLOAT)) (fun h => by rw [Bd.returns] at h; cases h)
              refine ⟨_, _, pre33 _ ?_, hrun, hended, _, _, rfl, ?_, ⟨_, rfl⟩, hW, hsame.mono (by decide) (by decide)⟩
              · show Steps p.tables e below (T32.setTop (mkF m 67 #[.val (.long k), .second] [(.ref w_FLOAT)])) _
                exact retA X32 hx Bd.returns rfl rfl rfl (hb hby d2_67) hr
              · show Q_2 Z k w_OBJECT w_INT w_BOOLEAN w_BYTE w_CHAR w_FLOAT w_DOUBLE w_LONG w_SHORT h0 n0 _ T32.heap _
                rw [e32]
                exact ⟨by rw [own_of, if_neg hc3_11, if_neg hc13_15, if_neg hc25_19, if_neg hc37_23, if_neg hc49_27, if_pos hc61_31], N0, rfl⟩
            · have pre34 : ∀ t_, Steps p.tables e below (s₁.setTop (mkF m 73 #[.val (.long k), .second] [(.int (lcmpW k (6 : Int64)))])) t_ → Steps p.tables e below (s₁.setTop (entryFrame m #[(.long k)] 2)) t_ := fun t_ k_ => pre30 t_ (by
                show Steps p.tables e below (s₁.setTop (mkF m 61 #[.val (.long k), .second] [(.int (lcmpW k (5 : Int64)))])) _
                refine XS.ifYes X0.here hx rfl (pc0 := 61) (pc' := 68) rfl (hb hby d2_61) rfl ((if0 _ _).trans (feq (fun q_ => hc61_31 ((lw_eq k (5 : Int64)).mp q_))).2) (by decide) (by decide) ?_
                show Steps p.tables e below (s₁.setTop (mkF m 68 #[.val (.long k), .second] [])) _
                refine XS.lloadN X0.here hx rfl (hb hby d2_68) rfl ?_
                show Steps p.tables e below (s₁.setTop (mkF m 69 #[.val (.long k), .second] [(.long k)])) _
                refine X0.ldc2Long hx hown (mvT hZ (hw _ (List.mem_of_getElem? (i := 12) rfl))) (g := (mkF m 69 #[.val (.long k), .second] [(.long k)])) rfl (hb hby d2_69) _ ?_
                show Steps p.tables e below (s₁.setTop (mkF m 72 #[.val (.long k), .second] [(.long (6 : Int64)), (.long k)])) _
                refine XS.lcmp X0.here hx rfl (hb hby d2_72) rfl ?_
                show Steps p.tables e below (s₁.setTop (mkF m 73 #[.val (.long k), .second] [(.int (lcmpW k (6 : Int64)))])) _
                exact k_)
              by_cases hc73_35 : k = (6 : Int64)
              · obtain ⟨T36, X36, e36, st36⟩ := getS2 X0 hx hZ hown (host := "") (Or.inl (hw _ (List.mem_of_getElem? (i := 47) rfl))) Via.refl e0 S_DOUBLE (g := (mkF m 76 #[.val (.long k), .second] [])) rfl (hb hby d2_76)
                have pre37 : ∀ t_, Steps p.tables e below (T36.setTop (mkF m 79 #[.val (.long k), .second] [(.ref w_DOUBLE)])) t_ → Steps p.tables e below (s₁.setTop (entryFrame m #[(.long k)] 2)) t_ := fun t_ k_ => pre34 t_ (by
                  show Steps p.tables e below (s₁.setTop (mkF m 73 #[.val (.long k), .second] [(.int (lcmpW k (6 : Int64)))])) _
                  refine XS.ifNo X0.here hx rfl (hb hby d2_73) rfl ((if0 _ _).trans (teq ((lw_eq k (6 : Int64)).mpr hc73_35)).2) ?_
                  show Steps p.tables e below (s₁.setTop (mkF m 76 #[.val (.long k), .second] [])) _
                  refine st36 _ ?_
                  show Steps p.tables e below (T36.setTop (mkF m 79 #[.val (.long k), .second] [(.ref w_DOUBLE)])) _
                  exact k_)
                obtain ⟨fs, hr, hrun, hended, hW, hsame⟩ := X36.leave (v := some (.ref w_DOUBLE)) (fun h => by rw [Bd.returns] at h; cases h)
                refine ⟨_, _, pre37 _ ?_, hrun, hended, _, _, rfl, ?_, ⟨_, rfl⟩, hW, hsame.mono (by decide) (by decide)⟩
                · show Steps p.tables e below (T36.setTop (mkF m 79 #[.val (.long k), .second] [(.ref w_DOUBLE)])) _
                  exact retA X36 hx Bd.returns rfl rfl rfl (hb hby d2_79) hr
                · show Q_2 Z k w_OBJECT w_INT w_BOOLEAN w_BYTE w_CHAR w_FLOAT w_DOUBLE w_LONG w_SHORT h0 n0 _ T36.heap _
                  rw [e36]
                  exact ⟨by rw [own_of, if_neg hc3_11, if_neg hc13_15, if_neg hc25_19, if_neg hc37_23, if_neg hc49_27, if_neg hc61_31, if_pos hc73_35], N0, rfl⟩
              · have pre38 : ∀ t_, Steps p.tables e below (s₁.setTop (mkF m 85 #[.val (.long k), .second] [(.int (lcmpW k (7 : Int64)))])) t_ → Steps p.tables e below (s₁.setTop (entryFrame m #[(.long k)] 2)) t_ := fun t_ k_ => pre34 t_ (by
                  show Steps p.tables e below (s₁.setTop (mkF m 73 #[.val (.long k), .second] [(.int (lcmpW k (6 : Int64)))])) _
                  refine XS.ifYes X0.here hx rfl (pc0 := 73) (pc' := 80) rfl (hb hby d2_73) rfl ((if0 _ _).trans (feq (fun q_ => hc73_35 ((lw_eq k (6 : Int64)).mp q_))).2) (by decide) (by decide) ?_
                  show Steps p.tables e below (s₁.setTop (mkF m 80 #[.val (.long k), .second] [])) _
                  refine XS.lloadN X0.here hx rfl (hb hby d2_80) rfl ?_
                  show Steps p.tables e below (s₁.setTop (mkF m 81 #[.val (.long k), .second] [(.long k)])) _
                  refine X0.ldc2Long hx hown (mvT hZ (hw _ (List.mem_of_getElem? (i := 13) rfl))) (g := (mkF m 81 #[.val (.long k), .second] [(.long k)])) rfl (hb hby d2_81) _ ?_
                  show Steps p.tables e below (s₁.setTop (mkF m 84 #[.val (.long k), .second] [(.long (7 : Int64)), (.long k)])) _
                  refine XS.lcmp X0.here hx rfl (hb hby d2_84) rfl ?_
                  show Steps p.tables e below (s₁.setTop (mkF m 85 #[.val (.long k), .second] [(.int (lcmpW k (7 : Int64)))])) _
                  exact k_)
                by_cases hc85_39 : k = (7 : Int64)
                · obtain ⟨T40, X40, e40, st40⟩ := getS2 X0 hx hZ hown (host := "") (Or.inl (hw _ (List.mem_of_getElem? (i := 19) rfl))) Via.refl e0 S_LONG (g := (mkF m 88 #[.val (.long k), .second] [])) rfl (hb hby d2_88)
                  have pre41 : ∀ t_, Steps p.tables e below (T40.setTop (mkF m 91 #[.val (.long k), .second] [(.ref w_LONG)])) t_ → Steps p.tables e below (s₁.setTop (entryFrame m #[(.long k)] 2)) t_ := fun t_ k_ => pre38 t_ (by
                    show Steps p.tables e below (s₁.setTop (mkF m 85 #[.val (.long k), .second] [(.int (lcmpW k (7 : Int64)))])) _
                    refine XS.ifNo X0.here hx rfl (hb hby d2_85) rfl ((if0 _ _).trans (teq ((lw_eq k (7 : Int64)).mpr hc85_39)).2) ?_
                    show Steps p.tables e below (s₁.setTop (mkF m 88 #[.val (.long k), .second] [])) _
                    refine st40 _ ?_
                    show Steps p.tables e below (T40.setTop (mkF m 91 #[.val (.long k), .second] [(.ref w_LONG)])) _
                    exact k_)
                  obtain ⟨fs, hr, hrun, hended, hW, hsame⟩ := X40.leave (v := some (.ref w_LONG)) (fun h => by rw [Bd.returns] at h; cases h)
                  refine ⟨_, _, pre41 _ ?_, hrun, hended, _, _, rfl, ?_, ⟨_, rfl⟩, hW, hsame.mono (by decide) (by decide)⟩
                  · show Steps p.tables e below (T40.setTop (mkF m 91 #[.val (.long k), .second] [(.ref w_LONG)])) _
                    exact retA X40 hx Bd.returns rfl rfl rfl (hb hby d2_91) hr
                  · show Q_2 Z k w_OBJECT w_INT w_BOOLEAN w_BYTE w_CHAR w_FLOAT w_DOUBLE w_LONG w_SHORT h0 n0 _ T40.heap _
                    rw [e40]
                    exact ⟨by rw [own_of, if_neg hc3_11, if_neg hc13_15, if_neg hc25_19, if_neg hc37_23, if_neg hc49_27, if_neg hc61_31, if_neg hc73_35, if_pos hc85_39], N0, rfl⟩
                · have pre42 : ∀ t_, Steps p.tables e below (s₁.setTop (mkF m 97 #[.val (.long k), .second] [(.int (lcmpW k (8 : Int64)))])) t_ → Steps p.tables e below (s₁.setTop (entryFrame m #[(.long k)] 2)) t_ := fun t_ k_ => pre38 t_ (by
                    show Steps p.tables e below (s₁.setTop (mkF m 85 #[.val (.long k), .second] [(.int (lcmpW k (7 : Int64)))])) _
                    refine XS.ifYes X0.here hx rfl (pc0 := 85) (pc' := 92) rfl (hb hby d2_85) rfl ((if0 _ _).trans (feq (fun q_ => hc85_39 ((lw_eq k (7 : Int64)).mp q_))).2) (by decide) (by decide) ?_
                    show Steps p.tables e below (s₁.setTop (mkF m 92 #[.val (.long k), .second] [])) _
                    refine XS.lloadN X0.here hx rfl (hb hby d2_92) rfl ?_
                    show Steps p.tables e below (s₁.setTop (mkF m 93 #[.val (.long k), .second] [(.long k)])) _
                    refine X0.ldc2Long hx hown (mvT hZ (hw _ (List.mem_of_getElem? (i := 14) rfl))) (g := (mkF m 93 #[.val (.long k), .second] [(.long k)])) rfl (hb hby d2_93) _ ?_
                    show Steps p.tables e below (s₁.setTop (mkF m 96 #[.val (.long k), .second] [(.long (8 : Int64)), (.long k)])) _
                    refine XS.lcmp X0.here hx rfl (hb hby d2_96) rfl ?_
                    show Steps p.tables e below (s₁.setTop (mkF m 97 #[.val (.long k), .second] [(.int (lcmpW k (8 : Int64)))])) _
                    exact k_)
                  by_cases hc97_43 : k = (8 : Int64)
                  · obtain ⟨T44, X44, e44, st44⟩ := getS2 X0 hx hZ hown (host := "") (Or.inl (hw _ (List.mem_of_getElem? (i := 49) rfl))) Via.refl e0 S_SHORT (g := (mkF m 100 #[.val (.long k), .second] [])) rfl (hb hby d2_100)
                    have pre45 : ∀ t_, Steps p.tables e below (T44.setTop (mkF m 103 #[.val (.long k), .second] [(.ref w_SHORT)])) t_ → Steps p.tables e below (s₁.setTop (entryFrame m #[(.long k)] 2)) t_ := fun t_ k_ => pre42 t_ (by
                      show Steps p.tables e below (s₁.setTop (mkF m 97 #[.val (.long k), .second] [(.int (lcmpW k (8 : Int64)))])) _
                      refine XS.ifNo X0.here hx rfl (hb hby d2_97) rfl ((if0 _ _).trans (teq ((lw_eq k (8 : Int64)).mpr hc97_43)).2) ?_
                      show Steps p.tables e below (s₁.setTop (mkF m 100 #[.val (.long k), .second] [])) _
                      refine st44 _ ?_
                      show Steps p.tables e below (T44.setTop (mkF m 103 #[.val (.long k), .second] [(.ref w_SHORT)])) _
                      exact k_)
                    obtain ⟨fs, hr, hrun, hended, hW, hsame⟩ := X44.leave (v := some (.ref w_SHORT)) (fun h => by rw [Bd.returns] at h; cases h)
                    refine ⟨_, _, pre45 _ ?_, hrun, hended, _, _, rfl, ?_, ⟨_, rfl⟩, hW, hsame.mono (by decide) (by decide)⟩
                    · show Steps p.tables e below (T44.setTop (mkF m 103 #[.val (.long k), .second] [(.ref w_SHORT)])) _
                      exact retA X44 hx Bd.returns rfl rfl rfl (hb hby d2_103) hr
                    · show Q_2 Z k w_OBJECT w_INT w_BOOLEAN w_BYTE w_CHAR w_FLOAT w_DOUBLE w_LONG w_SHORT h0 n0 _ T44.heap _
                      rw [e44]
                      exact ⟨by rw [own_of, if_neg hc3_11, if_neg hc13_15, if_neg hc25_19, if_neg hc37_23, if_neg hc49_27, if_neg hc61_31, if_neg hc73_35, if_neg hc85_39, if_pos hc97_43], N0, rfl⟩
                  · have pre46 : ∀ t_, Steps p.tables e below (s₁.setTop (mkF m 105 #[.val (.long k), .second] [.null])) t_ → Steps p.tables e below (s₁.setTop (entryFrame m #[(.long k)] 2)) t_ := fun t_ k_ => pre42 t_ (by
                      show Steps p.tables e below (s₁.setTop (mkF m 97 #[.val (.long k), .second] [(.int (lcmpW k (8 : Int64)))])) _
                      refine XS.ifYes X0.here hx rfl (pc0 := 97) (pc' := 104) rfl (hb hby d2_97) rfl ((if0 _ _).trans (feq (fun q_ => hc97_43 ((lw_eq k (8 : Int64)).mp q_))).2) (by decide) (by decide) ?_
                      show Steps p.tables e below (s₁.setTop (mkF m 104 #[.val (.long k), .second] [])) _
                      refine XS.aconstNull X0.here hx rfl (hb hby d2_104) ?_
                      show Steps p.tables e below (s₁.setTop (mkF m 105 #[.val (.long k), .second] [.null])) _
                      exact k_)
                    obtain ⟨fs, hr, hrun, hended, hW, hsame⟩ := X0.leave (v := some .null) (fun h => by rw [Bd.returns] at h; cases h)
                    refine ⟨_, _, pre46 _ ?_, hrun, hended, _, _, rfl, ?_, ⟨_, rfl⟩, hW, hsame.mono (by decide) (by decide)⟩
                    · show Steps p.tables e below (s₁.setTop (mkF m 105 #[.val (.long k), .second] [.null])) _
                      exact retA X0 hx Bd.returns rfl rfl rfl (hb hby d2_105) hr
                    · show Q_2 Z k w_OBJECT w_INT w_BOOLEAN w_BYTE w_CHAR w_FLOAT w_DOUBLE w_LONG w_SHORT h0 n0 _ s₁.heap _
                      rw [e0]
                      exact ⟨by rw [own_of, if_neg hc3_11, if_neg hc13_15, if_neg hc25_19, if_neg hc37_23, if_neg hc49_27, if_neg hc61_31, if_neg hc73_35, if_neg hc85_39, if_neg hc97_43], N0, rfl⟩
theorem ef_4 (m : MethodId) (a : Addr) : entryFrame m #[(.ref a)] 1 = mkF m 0 #[.val (.ref a)] [] := by first | (simp [entryFrame, mkF, argsToLocals, Value.category]; done) | rfl
def Q_4 (Z : State) (a : Addr) (t : Int32) (h0 : Heap) (n0 : Nat) (v : Option Value) (h : Heap) (L : List Loc) : Prop := v = some (.int t) ∧ Fr n0 L ∧ h = h0
theorem pn_2 : plainName "java/lang/Enum" = true := by first | (simp [plainName, overriddenIn]; done) | decide +kernel
theorem d4_0 : decode jdk_37_method_2_code 0 = .ok (.aload_n 0, 1) := by decide +kernel
theorem d4_1 : decode jdk_37_method_2_code 1 = .ok (.getfield 7, 3) := by decide +kernel
theorem d4_4 : decode jdk_37_method_2_code 4 = .ok (.ireturn, 1) := by decide +kernel
set_option maxRecDepth 65536 in
set_option maxHeartbeats 40000000 in
theorem rm_4 (l : Launch) (Z : State) (a0 : Array Value) (hw : ∀ d ∈ tables_1, d.before a0 Z = true) (ws : List Jvm.Cond) (a : Addr) (t : Int32) (h0 : Heap) (n0 : Nat) (Z0 : n0 ≤ h0.size) (Ft : Fld Z h0 a "java/lang/Enum" "ordinal" "I" (.int t)) :
    MetFree l (⟨"java/lang/Enum", "ordinal", "()I"⟩ : MethodName) (head1 (Jvm.Cond.code (⟨"java/lang/Enum", "ordinal", "()I"⟩ : MethodName) jdk_37_method_2_code 1 (some .int) :: ws) ({ frames := 0, cells := 0, slots := 0, locals := 0 } : Room)) (fun a_ U_ => a_ = #[(.ref a)] ∧ Z.Warmed39 U_.vm ∧ U_.heap = h0) (fun _ _ _ _ _ => True) (fun _ U_ o_ V_ => ∃ v_ L_, o_ = .returned v_ ∧ Q_4 Z a t h0 n0 v_ V_.heap L_ ∧ FrameEnd U_ o_ V_ L_ ({ frames := 0, cells := 0, slots := 0, locals := 0 } : Room).cells ({ frames := 0, cells := 0, slots := 0, locals := 0 } : Room).slots) := by
  refine MetFree.of_bodySF (plainFor_of_name pn_2) hisR ?_
  intro p e s m args below meth c s₁ Bd hml0 hP hK
  obtain ⟨rfl, hZ, hh⟩ := hP
  have hx := Bd.exec
  have hby := Bd.bytes
  have hml : c.maxLocals = 1 := hml0
  have hown : s.vm.findClass "java/lang/Enum" = some m.cls := findClass_of_methodNamed Bd.named
  have hnm := (name_of_methodNamed Bd.named Bd.method).1
  have X0 : Stand p l e ({ frames := 0, cells := 0, slots := 0, locals := 0 } : Room) s m #[(.ref a)] below meth c s₁ [] 0 0 := Stand.of_body Bd
  have e0 : s₁.heap = h0 := by rw [← hh, Bd.state]; rfl
  have N0 := Fr.nil n0
  have pre0 : ∀ t_, Steps p.tables e below (s₁.setTop (mkF m 0 #[.val (.ref a)] [])) t_ → Steps p.tables e below (s₁.setTop (entryFrame m #[(.ref a)] 1)) t_ := fun t_ k_ => castTop (ef_4 m a) k_
  obtain ⟨T47, X47, e47, st47⟩ := getF X0 hx hZ hown (host := "") (Or.inl (hw _ (List.mem_of_getElem? (i := 32) rfl))) Via.refl e0 Ft (g := (mkF m 1 #[.val (.ref a)] [(.ref a)])) rfl rfl (hb hby d4_1)
  have pre48 : ∀ t_, Steps p.tables e below (T47.setTop (mkF m 4 #[.val (.ref a)] [(.int t)])) t_ → Steps p.tables e below (s₁.setTop (entryFrame m #[(.ref a)] 1)) t_ := fun t_ k_ => pre0 t_ (by
    show Steps p.tables e below (s₁.setTop (mkF m 0 #[.val (.ref a)] [])) _
    refine XS.aloadN X0.here hx rfl (hb hby d4_0) rfl rfl ?_
    show Steps p.tables e below (s₁.setTop (mkF m 1 #[.val (.ref a)] [(.ref a)])) _
    refine st47 _ ?_
    show Steps p.tables e below (T47.setTop (mkF m 4 #[.val (.ref a)] [(.int t)])) _
    exact k_)
  obtain ⟨fs, hr, hrun, hended, hW, hsame⟩ := X47.leave (v := some (.int t)) (fun h => by rw [Bd.returns] at h; cases h)
  refine ⟨_, _, pre48 _ ?_, hrun, hended, _, _, rfl, ?_, ⟨_, rfl⟩, hW, hsame.mono (by decide) (by decide)⟩
  · show Steps p.tables e below (T47.setTop (mkF m 4 #[.val (.ref a)] [(.int t)])) _
    exact retI X47 hx Bd.returns (hb hby d4_4) hr
  · show Q_4 Z a t h0 n0 _ T47.heap _
    rw [e47]
    exact ⟨rfl, N0, rfl⟩
theorem ef_3 (m : MethodId) (a : Addr) : entryFrame m #[(.ref a)] 1 = mkF m 0 #[.val (.ref a)] [] := by first | (simp [entryFrame, mkF, argsToLocals, Value.category]; done) | rfl
def Q_3 (Z : State) (a : Addr) (t : Int32) (r : Int32) (w_CODES : Addr) (cl_CODES : Cell) (h0 : Heap) (n0 : Nat) (v : Option Value) (h : Heap) (L : List Loc) : Prop := v = some (.int r) ∧ Fr n0 L ∧ h = h0
theorem d3_0 : decode prog_1_method_3_code 0 = .ok (.getstatic 27, 3) := by decide +kernel
theorem d3_3 : decode prog_1_method_3_code 3 = .ok (.aload_n 0, 1) := by decide +kernel
theorem d3_4 : decode prog_1_method_3_code 4 = .ok (.invokevirtual 33, 3) := by decide +kernel
theorem pd_0 : parseMethodDescriptor "()I" = some ⟨[], some .int⟩ := by decide +kernel
theorem d3_7 : decode prog_1_method_3_code 7 = .ok (.iaload, 1) := by decide +kernel
theorem d3_8 : decode prog_1_method_3_code 8 = .ok (.ireturn, 1) := by decide +kernel
set_option maxRecDepth 65536 in
set_option maxHeartbeats 40000000 in
theorem rm_3 (l : Launch) (Z : State) (a0 : Array Value) (hw : ∀ d ∈ tables_1, d.before a0 Z = true) (ws : List Jvm.Cond) (a : Addr) (t : Int32) (r : Int32) (w_CODES : Addr) (cl_CODES : Cell) (h0 : Heap) (n0 : Nat) (Z0 : n0 ≤ h0.size) (Ft : Fld Z h0 a "java/lang/Enum" "ordinal" "I" (.int t)) (Ea : Exa Z h0 a "com/example/heapscribe/heapscribe/Hprof$BasicType") (S_CODES : Sta Z h0 "com/example/heapscribe/heapscribe/Bmd" "CODES" "[I" (.ref w_CODES)) (Ar_CODES : Arr Z h0 w_CODES cl_CODES .int) (hin : ¬ (t < 0 ∨ cl_CODES.slots.size ≤ t.toNatClampNeg)) (hatC : cl_CODES.slots[t.toNatClampNeg]? = some (.int r)) :
    MetFree l (⟨"com/example/heapscribe/heapscribe/Bmd", "typeCode", "(Lcom/example/heapscribe/heapscribe/Hprof$BasicType;)I"⟩ : MethodName) (head1 (Jvm.Cond.code (⟨"com/example/heapscribe/heapscribe/Bmd", "typeCode", "(Lcom/example/heapscribe/heapscribe/Hprof$BasicType;)I"⟩ : MethodName) prog_1_method_3_code 1 (some .int) :: ws) ({ frames := 1, cells := 0, slots := 0, locals := 13 } : Room)) (fun a_ U_ => a_ = #[(.ref a)] ∧ Z.Warmed39 U_.vm ∧ U_.heap = h0) (fun _ _ _ _ _ => True) (fun _ U_ o_ V_ => ∃ v_ L_, o_ = .returned v_ ∧ Q_3 Z a t r w_CODES cl_CODES h0 n0 v_ V_.heap L_ ∧ FrameEnd U_ o_ V_ L_ ({ frames := 1, cells := 0, slots := 0, locals := 13 } : Room).cells ({ frames := 1, cells := 0, slots := 0, locals := 13 } : Room).slots) := by
  refine MetFree.of_bodySF (plainFor_of_name pn_0) hisR ?_
  intro p e s m args below meth c s₁ Bd hml0 hP hK
  obtain ⟨rfl, hZ, hh⟩ := hP
  have hx := Bd.exec
  have hby := Bd.bytes
  have hml : c.maxLocals = 1 := hml0
  have hown : s.vm.findClass "com/example/heapscribe/heapscribe/Bmd" = some m.cls := findClass_of_methodNamed Bd.named
  have hnm := (name_of_methodNamed Bd.named Bd.method).1
  have X0 : Stand p l e ({ frames := 1, cells := 0, slots := 0, locals := 13 } : Room) s m #[(.ref a)] below meth c s₁ [] 0 0 := Stand.of_body Bd
  have e0 : s₁.heap = h0 := by rw [← hh, Bd.state]; rfl
  have N0 := Fr.nil n0
  have pre0 : ∀ t_, Steps p.tables e below (s₁.setTop (mkF m 0 #[.val (.ref a)] [])) t_ → Steps p.tables e below (s₁.setTop (entryFrame m #[(.ref a)] 1)) t_ := fun t_ k_ => castTop (ef_3 m a) k_
  obtain ⟨T49, X49, e49, st49⟩ := getS2 X0 hx hZ hown (host := "") (Or.inl (hw _ (List.mem_of_getElem? (i := 23) rfl))) Via.refl e0 S_CODES (g := (mkF m 0 #[.val (.ref a)] [])) rfl (hb hby d3_0)
  obtain ⟨cq50, kq50, q50a, q50b, q50c⟩ := isOf hZ e49 Ea
  obtain ⟨v50, _, ⟨T50, L50, k50, n50⟩, -, X50, ⟨Lc50, hQ50, l50, y50, z50⟩, st50⟩ := X49.virtualBackUp hx (x := (⟨"com/example/heapscribe/heapscribe/Hprof$BasicType", "ordinal", "()I"⟩ : MethodName)) (y := (⟨"java/lang/Enum", "ordinal", "()I"⟩ : MethodName)) (owner := "java/lang/Enum") hown (mvT hZ (hw _ (List.mem_of_getElem? (i := 25) rfl))) (mvT hZ (hw _ (List.mem_of_getElem? (i := 26) rfl))) (mvT hZ (hw _ (List.mem_of_getElem? (i := 27) rfl))) (by decide) (mvT hZ (hw _ (List.mem_of_getElem? (i := 29) rfl))) (mvT hZ (hw _ (List.mem_of_getElem? (i := 28) rfl))) (backOf (W := 1) (rm_4 l Z a0 hw [] a t h0 n0 Z0 Ft) hZ (hw _ (List.mem_of_getElem? (i := 31) rfl)) (hw _ (List.mem_of_getElem? (i := 30) rfl)) (by decide) (by decide)) q50a q50c (g := (mkF m 4 #[.val (.ref a)] [(.ref a), (.ref w_CODES)])) rfl (by rw [hml]; rfl) (Steps.refl _) (argsL := []) (rest := [(.ref w_CODES)]) (lenOf pd_0 rfl) rfl (by show 2 * 0 + _ ≤ _; exact Nat.le_of_eq rfl) (hb hby d3_4) (fun _ _ => ⟨rfl, e49, (by decide : 0 + 0 ≤ _), (by decide : 0 + 0 ≤ _)⟩)
  dsimp only [Pt.U, Pt.locs, Pt.cells, Pt.slots] at X50 l50 y50 z50 st50 hQ50
  subst l50 y50 z50
  obtain ⟨hv50, N50q, e50⟩ := hQ50
  have N50 := Fr.app N0 N50q
  subst hv50
  have pre51 : ∀ t_, Steps p.tables e below (T50.setTop (mkF m 8 #[.val (.ref a)] [(.int r)])) t_ → Steps p.tables e below (s₁.setTop (entryFrame m #[(.ref a)] 1)) t_ := fun t_ k_ => pre0 t_ (by
    show Steps p.tables e below (s₁.setTop (mkF m 0 #[.val (.ref a)] [])) _
    refine st49 _ ?_
    show Steps p.tables e below (T49.setTop (mkF m 3 #[.val (.ref a)] [(.ref w_CODES)])) _
    refine XS.aloadN X49.here hx rfl (hb hby d3_3) rfl rfl ?_
    show Steps p.tables e below (T49.setTop (mkF m 4 #[.val (.ref a)] [(.ref a), (.ref w_CODES)])) _
    refine st50.trans ?_
    show Steps p.tables e below (T50.setTop (mkF m 7 #[.val (.ref a)] [(.int t), (.ref w_CODES)])) _
    refine X50.iaload hx (j := t) (v := (.int r)) (by rw [e50]; exact Ar_CODES.1) (State.isArrayOf_alike hZ.alike Ar_CODES.2.1) Ar_CODES.2.2 hin hatC (g := (mkF m 7 #[.val (.ref a)] [(.int t), (.ref w_CODES)])) rfl rfl (hb hby d3_7) _ ?_
    show Steps p.tables e below (T50.setTop (mkF m 8 #[.val (.ref a)] [(.int r)])) _
    exact k_)
  obtain ⟨fs, hr, hrun, hended, hW, hsame⟩ := X50.leave (v := some (.int r)) (fun h => by rw [Bd.returns] at h; cases h)
  refine ⟨_, _, pre51 _ ?_, hrun, hended, _, _, rfl, ?_, ⟨_, rfl⟩, hW, hsame.mono (by decide) (by decide)⟩
  · show Steps p.tables e below (T50.setTop (mkF m 8 #[.val (.ref a)] [(.int r)])) _
    exact retI X50 hx Bd.returns (hb hby d3_8) hr
  · show Q_3 Z a t r w_CODES cl_CODES h0 n0 _ T50.heap _
    rw [e50]
    exact ⟨rfl, N50, rfl⟩
theorem ef_0 (m : MethodId) (j0 : Int64) (k0 : Int32) : entryFrame m #[(.long j0), (.int k0)] maxLocals = mkF m 0 #[.val (.long j0), .second, .val (.int k0), .unset, .unset, .unset, .unset] [] := by first | (simp [entryFrame, mkF, argsToLocals, Value.category, maxLocals]; done) | rfl
def Q_0 (Z : State) (j0 : Int64) (k0 : Int32) (w_OBJECT : Addr) (w_INT : Addr) (w_BOOLEAN : Addr) (w_BYTE : Addr) (w_CHAR : Addr) (w_FLOAT : Addr) (w_DOUBLE : Addr) (w_LONG : Addr) (w_SHORT : Addr) (w_BY_CODE : Addr) (cl_BY_CODE : Cell) (w_CODES : Addr) (cl_CODES : Cell) (h0 : Heap) (n0 : Nat) (v : Option Value) (h : Heap) (L : List Loc) : Prop := v = some (.int (1 : Int32)) ∧ Fr n0 L
theorem pd_1 : parseMethodDescriptor "(J)Lcom/example/heapscribe/heapscribe/Hprof$BasicType;" = some ⟨[.long], some (.object "com/example/heapscribe/heapscribe/Hprof$BasicType")⟩ := by decide +kernel
theorem pd_2 : parseMethodDescriptor "(Lcom/example/heapscribe/heapscribe/Hprof$BasicType;)I" = some ⟨[(.object "com/example/heapscribe/heapscribe/Hprof$BasicType")], some .int⟩ := by decide +kernel
set_option maxRecDepth 65536 in
set_option maxHeartbeats 40000000 in
theorem rm_0 (l : Launch) (Z : State) (a0 : Array Value) (hw : ∀ d ∈ tables_1, d.before a0 Z = true) (ws : List Jvm.Cond) (j0 : Int64) (k0 : Int32) (w_OBJECT : Addr) (w_INT : Addr) (w_BOOLEAN : Addr) (w_BYTE : Addr) (w_CHAR : Addr) (w_FLOAT : Addr) (w_DOUBLE : Addr) (w_LONG : Addr) (w_SHORT : Addr) (w_BY_CODE : Addr) (cl_BY_CODE : Cell) (w_CODES : Addr) (cl_CODES : Cell) (h0 : Heap) (n0 : Nat) (Z0 : n0 ≤ h0.size) (S_OBJECT : Sta Z h0 "com/example/heapscribe/heapscribe/Hprof$BasicType" "OBJECT" "Lcom/example/heapscribe/heapscribe/Hprof$BasicType;" (.ref w_OBJECT)) (S_INT : Sta Z h0 "com/example/heapscribe/heapscribe/Hprof$BasicType" "INT" "Lcom/example/heapscribe/heapscribe/Hprof$BasicType;" (.ref w_INT)) (S_BOOLEAN : Sta Z h0 "com/example/heapscribe/heapscribe/Hprof$BasicType" "BOOLEAN" "Lcom/example/heapscribe/heapscribe/Hprof$BasicType;" (.ref w_BOOLEAN)) (S_BYTE : Sta Z h0 "com/example/heapscribe/heapscribe/Hprof$BasicType" "BYTE" "Lcom/example/heapscribe/heapscribe/Hprof$BasicType;" (.ref w_BYTE)) (S_CHAR : Sta Z h0 "com/example/heapscribe/heapscribe/Hprof$BasicType" "CHAR" "Lcom/example/heapscribe/heapscribe/Hprof$BasicType;" (.ref w_CHAR)) (S_FLOAT : Sta Z h0 "com/example/heapscribe/heapscribe/Hprof$BasicType" "FLOAT" "Lcom/example/heapscribe/heapscribe/Hprof$BasicType;" (.ref w_FLOAT)) (S_DOUBLE : Sta Z h0 "com/example/heapscribe/heapscribe/Hprof$BasicType" "DOUBLE" "Lcom/example/heapscribe/heapscribe/Hprof$BasicType;" (.ref w_DOUBLE)) (S_LONG : Sta Z h0 "com/example/heapscribe/heapscribe/Hprof$BasicType" "LONG" "Lcom/example/heapscribe/heapscribe/Hprof$BasicType;" (.ref w_LONG)) (S_SHORT : Sta Z h0 "com/example/heapscribe/heapscribe/Hprof$BasicType" "SHORT" "Lcom/example/heapscribe/heapscribe/Hprof$BasicType;" (.ref w_SHORT)) (S_BY_CODE : Sta Z h0 "com/example/heapscribe/heapscribe/Bmd" "BY_CODE" "[Lcom/example/heapscribe/heapscribe/Hprof$BasicType;" (.ref w_BY_CODE)) (Ar_BY_CODE : Arr Z h0 w_BY_CODE cl_BY_CODE (.object "com/example/heapscribe/heapscribe/Hprof$BasicType")) (Z_BY_CODE : cl_BY_CODE.slots.size = 9) (hat : ∀ k : Int64, ¬ k < (0 : Int64) → k < ((9 : Int32).toInt64) → cl_BY_CODE.slots[(k.toInt32).toNatClampNeg]? = some (own_of k w_OBJECT w_INT w_BOOLEAN w_BYTE w_CHAR w_FLOAT w_DOUBLE w_LONG w_SHORT)) (E_OBJECT : Exa Z h0 w_OBJECT "com/example/heapscribe/heapscribe/Hprof$BasicType") (E_INT : Exa Z h0 w_INT "com/example/heapscribe/heapscribe/Hprof$BasicType") (E_BOOLEAN : Exa Z h0 w_BOOLEAN "com/example/heapscribe/heapscribe/Hprof$BasicType") (E_BYTE : Exa Z h0 w_BYTE "com/example/heapscribe/heapscribe/Hprof$BasicType") (E_CHAR : Exa Z h0 w_CHAR "com/example/heapscribe/heapscribe/Hprof$BasicType") (E_FLOAT : Exa Z h0 w_FLOAT "com/example/heapscribe/heapscribe/Hprof$BasicType") (E_DOUBLE : Exa Z h0 w_DOUBLE "com/example/heapscribe/heapscribe/Hprof$BasicType") (E_LONG : Exa Z h0 w_LONG "com/example/heapscribe/heapscribe/Hprof$BasicType") (E_SHORT : Exa Z h0 w_SHORT "com/example/heapscribe/heapscribe/Hprof$BasicType") (F_OBJECT_ordinal : Fld Z h0 w_OBJECT "java/lang/Enum" "ordinal" "I" (.int (0 : Int32))) (F_INT_ordinal : Fld Z h0 w_INT "java/lang/Enum" "ordinal" "I" (.int (7 : Int32))) (F_BOOLEAN_ordinal : Fld Z h0 w_BOOLEAN "java/lang/Enum" "ordinal" "I" (.int (1 : Int32))) (F_BYTE_ordinal : Fld Z h0 w_BYTE "java/lang/Enum" "ordinal" "I" (.int (5 : Int32))) (F_CHAR_ordinal : Fld Z h0 w_CHAR "java/lang/Enum" "ordinal" "I" (.int (2 : Int32))) (F_FLOAT_ordinal : Fld Z h0 w_FLOAT "java/lang/Enum" "ordinal" "I" (.int (3 : Int32))) (F_DOUBLE_ordinal : Fld Z h0 w_DOUBLE "java/lang/Enum" "ordinal" "I" (.int (4 : Int32))) (F_LONG_ordinal : Fld Z h0 w_LONG "java/lang/Enum" "ordinal" "I" (.int (8 : Int32))) (F_SHORT_ordinal : Fld Z h0 w_SHORT "java/lang/Enum" "ordinal" "I" (.int (6 : Int32))) (S_CODES : Sta Z h0 "com/example/heapscribe/heapscribe/Bmd" "CODES" "[I" (.ref w_CODES)) (Ar_CODES : Arr Z h0 w_CODES cl_CODES .int) (Z_CODES : cl_CODES.slots.size = 9) (el_CODES_0 : cl_CODES.slots[0]? = some (.int (0 : Int32))) (el_CODES_1 : cl_CODES.slots[1]? = some (.int (2 : Int32))) (el_CODES_2 : cl_CODES.slots[2]? = some (.int (4 : Int32))) (el_CODES_3 : cl_CODES.slots[3]? = some (.int (5 : Int32))) (el_CODES_4 : cl_CODES.slots[4]? = some (.int (6 : Int32))) (el_CODES_5 : cl_CODES.slots[5]? = some (.int (3 : Int32))) (el_CODES_6 : cl_CODES.slots[6]? = some (.int (8 : Int32))) (el_CODES_7 : cl_CODES.slots[7]? = some (.int (1 : Int32))) (el_CODES_8 : cl_CODES.slots[8]? = some (.int (7 : Int32))) :
    MetFree l x (head1 (Jvm.Cond.code x code maxLocals ret :: ws) room_1) (fun a_ U_ => a_ = #[(.long j0), (.int k0)] ∧ Z.Warmed39 U_.vm ∧ U_.heap = h0) (fun _ _ _ _ _ => True) (fun _ U_ o_ V_ => ∃ v_ L_, o_ = .returned v_ ∧ Q_0 Z j0 k0 w_OBJECT w_INT w_BOOLEAN w_BYTE w_CHAR w_FLOAT w_DOUBLE w_LONG w_SHORT w_BY_CODE cl_BY_CODE w_CODES cl_CODES h0 n0 v_ V_.heap L_ ∧ FrameEnd U_ o_ V_ L_ room_1.cells room_1.slots) := by
  refine MetFree.of_bodySF (plainFor_of_name pn_1) hisR ?_
  intro p e s m args below meth c s₁ Bd hml0 hP hK
  obtain ⟨rfl, hZ, hh⟩ := hP
  have hx := Bd.exec
  have hby := Bd.bytes
  have hml : c.maxLocals = 7 := hml0
  have hown : s.vm.findClass "com/example/heapscribe/heapscribe/BmdTypePinLaw" = some m.cls := findClass_of_methodNamed Bd.named
  have hnm := (name_of_methodNamed Bd.named Bd.method).1
  have X0 : Stand p l e room_1 s m #[(.long j0), (.int k0)] below meth c s₁ [] 0 0 := Stand.of_body Bd
  have e0 : s₁.heap = h0 := by rw [← hh, Bd.state]; rfl
  have N0 := Fr.nil n0
  have pre0 : ∀ t_, Steps p.tables e below (s₁.setTop (mkF m 0 #[.val (.long j0), .second, .val (.int k0), .unset, .unset, .unset, .unset] [])) t_ → Steps p.tables e below (s₁.setTop (entryFrame m #[(.long j0), (.int k0)] maxLocals)) t_ := fun t_ k_ => castTop (ef_0 m j0 k0) k_
  have pre52 : ∀ t_, Steps p.tables e below (s₁.setTop (mkF m 3 #[.val (.long j0), .second, .val (.int k0), .unset, .unset, .unset, .unset] [(.int (k0 &&& (1 : Int32)))])) t_ → Steps p.tables e below (s₁.setTop (entryFrame m #[(.long j0), (.int k0)] maxLocals)) t_ := fun t_ k_ => pre0 t_ (by
    show Steps p.tables e below (s₁.setTop (mkF m 0 #[.val (.long j0), .second, .val (.int k0), .unset, .unset, .unset, .unset] [])) _
    refine XS.iloadN X0.here hx rfl (hb hby at_0) rfl ?_
    show Steps p.tables e below (s₁.setTop (mkF m 1 #[.val (.long j0), .second, .val (.int k0), .unset, .unset, .unset, .unset] [(.int k0)])) _
    refine XS.iconst X0.here hx rfl (hb hby at_1) ?_
    show Steps p.tables e below (s₁.setTop (mkF m 2 #[.val (.long j0), .second, .val (.int k0), .unset, .unset, .unset, .unset] [(.int (1 : Int32)), (.int k0)])) _
    refine XS.iand X0.here hx rfl (hb hby at_2) rfl ?_
    show Steps p.tables e below (s₁.setTop (mkF m 3 #[.val (.long j0), .second, .val (.int k0), .unset, .unset, .unset, .unset] [(.int (k0 &&& (1 : Int32)))])) _
    exact k_)
  by_cases hc3_53 : (k0 &&& (1 : Int32)) = (0 : Int32)
  · obtain ⟨v54, _, ⟨T54, L54, k54, n54⟩, -, X54, ⟨Lc54, hQ54, l54, y54, z54⟩, st54⟩ := Jvm.LawKit.callS X0 hx (y := (⟨"com/example/heapscribe/heapscribe/Bmd", "type", "(J)Lcom/example/heapscribe/heapscribe/Hprof$BasicType;"⟩ : MethodName)) hown (mvT hZ (hw _ (List.mem_of_getElem? (i := 0) rfl))) (mvT hZ (hw _ (List.mem_of_getElem? (i := 1) rfl))) (mvT hZ (hw _ (List.mem_of_getElem? (i := 2) rfl))) (mvT hZ (hw _ (List.mem_of_getElem? (i := 3) rfl))) (by decide) (backOf (W := 0) (rm_1 l Z a0 hw [] ((((k0 >>> ((1 : Int32) &&& 31)) &&& (15 : Int32)) - (4 : Int32)).toInt64) w_OBJECT w_INT w_BOOLEAN w_BYTE w_CHAR w_FLOAT w_DOUBLE w_LONG w_SHORT w_BY_CODE cl_BY_CODE h0 n0 Z0 S_BY_CODE Ar_BY_CODE Z_BY_CODE hat) hZ (hw _ (List.mem_of_getElem? (i := 3) rfl)) (hw _ (List.mem_of_getElem? (i := 2) rfl)) (by decide) (by decide)) (g := (mkF m 21 #[.val (.long j0), .second, .val (.int k0), .val (.long ((((k0 >>> ((1 : Int32) &&& 31)) &&& (15 : Int32)) - (4 : Int32)).toInt64)), .second, .unset, .unset] [(.long ((((k0 >>> ((1 : Int32) &&& 31)) &&& (15 : Int32)) - (4 : Int32)).toInt64))])) rfl (by rw [hml]; rfl) (argsL := [(.long ((((k0 >>> ((1 : Int32) &&& 31)) &&& (15 : Int32)) - (4 : Int32)).toInt64))]) (rest := []) (lenOf pd_1 rfl) rfl (by show 2 * 0 + _ ≤ _; exact Nat.le_of_eq rfl) (hb hby at_21) (fun _ _ => ⟨rfl, e0, (by decide : 0 + 0 ≤ _), (by decide : 0 + 0 ≤ _)⟩)
    dsimp only [Pt.U, Pt.locs, Pt.cells, Pt.slots] at X54 l54 y54 z54 st54 hQ54
    subst l54 y54 z54
    obtain ⟨hv54, N54q, e54⟩ := hQ54
    have N54 := Fr.app N0 N54q
    subst hv54
    obtain ⟨v55, _, ⟨T55, L55, k55, n55⟩, -, X55, ⟨Lc55, hQ55, l55, y55, z55⟩, st55⟩ := Jvm.LawKit.callS X54 hx (y := (⟨"com/example/heapscribe/heapscribe/BmdTypePinLaw", "expected", "(J)Lcom/example/heapscribe/heapscribe/Hprof$BasicType;"⟩ : MethodName)) hown (mvT hZ (hw _ (List.mem_of_getElem? (i := 4) rfl))) (mvT hZ (hw _ (List.mem_of_getElem? (i := 5) rfl))) (mvT hZ (hw _ (List.mem_of_getElem? (i := 6) rfl))) (mvT hZ (hw _ (List.mem_of_getElem? (i := 7) rfl))) (by decide) (backOf (W := 0) (rm_2 l Z a0 hw [] ((((k0 >>> ((1 : Int32) &&& 31)) &&& (15 : Int32)) - (4 : Int32)).toInt64) w_OBJECT w_INT w_BOOLEAN w_BYTE w_CHAR w_FLOAT w_DOUBLE w_LONG w_SHORT h0 n0 Z0 S_OBJECT S_INT S_BOOLEAN S_BYTE S_CHAR S_FLOAT S_DOUBLE S_LONG S_SHORT) hZ (hw _ (List.mem_of_getElem? (i := 7) rfl)) (hw _ (List.mem_of_getElem? (i := 6) rfl)) (by decide) (by decide)) (g := (mkF m 27 #[.val (.long j0), .second, .val (.int k0), .val (.long ((((k0 >>> ((1 : Int32) &&& 31)) &&& (15 : Int32)) - (4 : Int32)).toInt64)), .second, .val (own_of ((((k0 >>> ((1 : Int32) &&& 31)) &&& (15 : Int32)) - (4 : Int32)).toInt64) w_OBJECT w_INT w_BOOLEAN w_BYTE w_CHAR w_FLOAT w_DOUBLE w_LONG w_SHORT), .unset] [(.long ((((k0 >>> ((1 : Int32) &&& 31)) &&& (15 : Int32)) - (4 : Int32)).toInt64))])) rfl (by rw [hml]; rfl) (argsL := [(.long ((((k0 >>> ((1 : Int32) &&& 31)) &&& (15 : Int32)) - (4 : Int32)).toInt64))]) (rest := []) (lenOf pd_1 rfl) rfl (by show 2 * 0 + _ ≤ _; exact Nat.le_of_eq rfl) (hb hby at_27) (fun _ _ => ⟨rfl, e54, (by decide : 0 + 0 ≤ _), (by decide : 0 + 0 ≤ _)⟩)
    dsimp only [Pt.U, Pt.locs, Pt.cells, Pt.slots] at X55 l55 y55 z55 st55 hQ55
    subst l55 y55 z55
    obtain ⟨hv55, N55q, e55⟩ := hQ55
    have N55 := Fr.app N54 N55q
    subst hv55
    have pre56 : ∀ t_, Steps p.tables e below (T55.setTop (mkF m 41 #[.val (.long j0), .second, .val (.int k0), .val (.long ((((k0 >>> ((1 : Int32) &&& 31)) &&& (15 : Int32)) - (4 : Int32)).toInt64)), .second, .val (own_of ((((k0 >>> ((1 : Int32) &&& 31)) &&& (15 : Int32)) - (4 : Int32)).toInt64) w_OBJECT w_INT w_BOOLEAN w_BYTE w_CHAR w_FLOAT w_DOUBLE w_LONG w_SHORT), .val (own_of ((((k0 >>> ((1 : Int32) &&& 31)) &&& (15 : Int32)) - (4 : Int32)).toInt64) w_OBJECT w_INT w_BOOLEAN w_BYTE w_CHAR w_FLOAT w_DOUBLE w_LONG w_SHORT)] [])) t_ → Steps p.tables e below (s₁.setTop (entryFrame m #[(.long j0), (.int k0)] maxLocals)) t_ := fun t_ k_ => pre52 t_ (by
      show Steps p.tables e below (s₁.setTop (mkF m 3 #[.val (.long j0), .second, .val (.int k0), .unset, .unset, .unset, .unset] [(.int (k0 &&& (1 : Int32)))])) _
      refine XS.ifYes X0.here hx rfl (pc0 := 3) (pc' := 10) rfl (hb hby at_3) rfl ((if0 _ _).trans (teq hc3_53).1) (by decide) (by decide) ?_
      show Steps p.tables e below (s₁.setTop (mkF m 10 #[.val (.long j0), .second, .val (.int k0), .unset, .unset, .unset, .unset] [])) _
      refine XS.iloadN X0.here hx rfl (hb hby at_10) rfl ?_
      show Steps p.tables e below (s₁.setTop (mkF m 11 #[.val (.long j0), .second, .val (.int k0), .unset, .unset, .unset, .unset] [(.int k0)])) _
      refine XS.iconst X0.here hx rfl (hb hby at_11) ?_
      show Steps p.tables e below (s₁.setTop (mkF m 12 #[.val (.long j0), .second, .val (.int k0), .unset, .unset, .unset, .unset] [(.int (1 : Int32)), (.int k0)])) _
      refine XS.ishr X0.here hx rfl (hb hby at_12) rfl ?_
      show Steps p.tables e below (s₁.setTop (mkF m 13 #[.val (.long j0), .second, .val (.int k0), .unset, .unset, .unset, .unset] [(.int (k0 >>> ((1 : Int32) &&& 31)))])) _
      refine XS.bipush X0.here hx rfl (hb hby at_13) ?_
      show Steps p.tables e below (s₁.setTop (mkF m 15 #[.val (.long j0), .second, .val (.int k0), .unset, .unset, .unset, .unset] [(.int (15 : Int32)), (.int (k0 >>> ((1 : Int32) &&& 31)))])) _
      refine XS.iand X0.here hx rfl (hb hby at_15) rfl ?_
      show Steps p.tables e below (s₁.setTop (mkF m 16 #[.val (.long j0), .second, .val (.int k0), .unset, .unset, .unset, .unset] [(.int ((k0 >>> ((1 : Int32) &&& 31)) &&& (15 : Int32)))])) _
      refine XS.iconst X0.here hx rfl (hb hby at_16) ?_
      show Steps p.tables e below (s₁.setTop (mkF m 17 #[.val (.long j0), .second, .val (.int k0), .unset, .unset, .unset, .unset] [(.int (4 : Int32)), (.int ((k0 >>> ((1 : Int32) &&& 31)) &&& (15 : Int32)))])) _
      refine XS.isub X0.here hx rfl (hb hby at_17) rfl ?_
      show Steps p.tables e below (s₁.setTop (mkF m 18 #[.val (.long j0), .second, .val (.int k0), .unset, .unset, .unset, .unset] [(.int (((k0 >>> ((1 : Int32) &&& 31)) &&& (15 : Int32)) - (4 : Int32)))])) _
      refine XS.i2l X0.here hx rfl (hb hby at_18) rfl ?_
      show Steps p.tables e below (s₁.setTop (mkF m 19 #[.val (.long j0), .second, .val (.int k0), .unset, .unset, .unset, .unset] [(.long ((((k0 >>> ((1 : Int32) &&& 31)) &&& (15 : Int32)) - (4 : Int32)).toInt64))])) _
      refine XS.lstoreN X0.here hx rfl (hb hby at_19) rfl (l' := #[.val (.long j0), .second, .val (.int k0), .val (.long ((((k0 >>> ((1 : Int32) &&& 31)) &&& (15 : Int32)) - (4 : Int32)).toInt64)), .second, .unset, .unset]) rfl ?_
      show Steps p.tables e below (s₁.setTop (mkF m 20 #[.val (.long j0), .second, .val (.int k0), .val (.long ((((k0 >>> ((1 : Int32) &&& 31)) &&& (15 : Int32)) - (4 : Int32)).toInt64)), .second, .unset, .unset] [])) _
      refine XS.lloadN X0.here hx rfl (hb hby at_20) rfl ?_
      show Steps p.tables e below (s₁.setTop (mkF m 21 #[.val (.long j0), .second, .val (.int k0), .val (.long ((((k0 >>> ((1 : Int32) &&& 31)) &&& (15 : Int32)) - (4 : Int32)).toInt64)), .second, .unset, .unset] [(.long ((((k0 >>> ((1 : Int32) &&& 31)) &&& (15 : Int32)) - (4 : Int32)).toInt64))])) _
      refine st54 _ ?_
      show Steps p.tables e below (T54.setTop (mkF m 24 #[.val (.long j0), .second, .val (.int k0), .val (.long ((((k0 >>> ((1 : Int32) &&& 31)) &&& (15 : Int32)) - (4 : Int32)).toInt64)), .second, .unset, .unset] [(own_of ((((k0 >>> ((1 : Int32) &&& 31)) &&& (15 : Int32)) - (4 : Int32)).toInt64) w_OBJECT w_INT w_BOOLEAN w_BYTE w_CHAR w_FLOAT w_DOUBLE w_LONG w_SHORT)])) _
      refine XS.astoreS X54.here hx rfl (hb hby at_24) rfl (own_of_ref ((((k0 >>> ((1 : Int32) &&& 31)) &&& (15 : Int32)) - (4 : Int32)).toInt64) w_OBJECT w_INT w_BOOLEAN w_BYTE w_CHAR w_FLOAT w_DOUBLE w_LONG w_SHORT) (Jvm.Free.XT.cat1 (own_of_ref ((((k0 >>> ((1 : Int32) &&& 31)) &&& (15 : Int32)) - (4 : Int32)).toInt64) w_OBJECT w_INT w_BOOLEAN w_BYTE w_CHAR w_FLOAT w_DOUBLE w_LONG w_SHORT)) rfl (Or.inl rfl) ?_
      show Steps p.tables e below (T54.setTop (mkF m 26 #[.val (.long j0), .second, .val (.int k0), .val (.long ((((k0 >>> ((1 : Int32) &&& 31)) &&& (15 : Int32)) - (4 : Int32)).toInt64)), .second, .val (own_of ((((k0 >>> ((1 : Int32) &&& 31)) &&& (15 : Int32)) - (4 : Int32)).toInt64) w_OBJECT w_INT w_BOOLEAN w_BYTE w_CHAR w_FLOAT w_DOUBLE w_LONG w_SHORT), .unset] [])) _
      refine XS.lloadN X54.here hx rfl (hb hby at_26) rfl ?_
      show Steps p.tables e below (T54.setTop (mkF m 27 #[.val (.long j0), .second, .val (.int k0), .val (.long ((((k0 >>> ((1 : Int32) &&& 31)) &&& (15 : Int32)) - (4 : Int32)).toInt64)), .second, .val (own_of ((((k0 >>> ((1 : Int32) &&& 31)) &&& (15 : Int32)) - (4 : Int32)).toInt64) w_OBJECT w_INT w_BOOLEAN w_BYTE w_CHAR w_FLOAT w_DOUBLE w_LONG w_SHORT), .unset] [(.long ((((k0 >>> ((1 : Int32) &&& 31)) &&& (15 : Int32)) - (4 : Int32)).toInt64))])) _
      refine st55 _ ?_
      show Steps p.tables e below (T55.setTop (mkF m 30 #[.val (.long j0), .second, .val (.int k0), .val (.long ((((k0 >>> ((1 : Int32) &&& 31)) &&& (15 : Int32)) - (4 : Int32)).toInt64)), .second, .val (own_of ((((k0 >>> ((1 : Int32) &&& 31)) &&& (15 : Int32)) - (4 : Int32)).toInt64) w_OBJECT w_INT w_BOOLEAN w_BYTE w_CHAR w_FLOAT w_DOUBLE w_LONG w_SHORT), .unset] [(own_of ((((k0 >>> ((1 : Int32) &&& 31)) &&& (15 : Int32)) - (4 : Int32)).toInt64) w_OBJECT w_INT w_BOOLEAN w_BYTE w_CHAR w_FLOAT w_DOUBLE w_LONG w_SHORT)])) _
      refine XS.astoreS X55.here hx rfl (hb hby at_30) rfl (own_of_ref ((((k0 >>> ((1 : Int32) &&& 31)) &&& (15 : Int32)) - (4 : Int32)).toInt64) w_OBJECT w_INT w_BOOLEAN w_BYTE w_CHAR w_FLOAT w_DOUBLE w_LONG w_SHORT) (Jvm.Free.XT.cat1 (own_of_ref ((((k0 >>> ((1 : Int32) &&& 31)) &&& (15 : Int32)) - (4 : Int32)).toInt64) w_OBJECT w_INT w_BOOLEAN w_BYTE w_CHAR w_FLOAT w_DOUBLE w_LONG w_SHORT)) rfl (Or.inl rfl) ?_
      show Steps p.tables e below (T55.setTop (mkF m 32 #[.val (.long j0), .second, .val (.int k0), .val (.long ((((k0 >>> ((1 : Int32) &&& 31)) &&& (15 : Int32)) - (4 : Int32)).toInt64)), .second, .val (own_of ((((k0 >>> ((1 : Int32) &&& 31)) &&& (15 : Int32)) - (4 : Int32)).toInt64) w_OBJECT w_INT w_BOOLEAN w_BYTE w_CHAR w_FLOAT w_DOUBLE w_LONG w_SHORT), .val (own_of ((((k0 >>> ((1 : Int32) &&& 31)) &&& (15 : Int32)) - (4 : Int32)).toInt64) w_OBJECT w_INT w_BOOLEAN w_BYTE w_CHAR w_FLOAT w_DOUBLE w_LONG w_SHORT)] [])) _
      refine XS.aload X55.here hx rfl (hb hby at_32) rfl (own_of_ref ((((k0 >>> ((1 : Int32) &&& 31)) &&& (15 : Int32)) - (4 : Int32)).toInt64) w_OBJECT w_INT w_BOOLEAN w_BYTE w_CHAR w_FLOAT w_DOUBLE w_LONG w_SHORT) ?_
      show Steps p.tables e below (T55.setTop (mkF m 34 #[.val (.long j0), .second, .val (.int k0), .val (.long ((((k0 >>> ((1 : Int32) &&& 31)) &&& (15 : Int32)) - (4 : Int32)).toInt64)), .second, .val (own_of ((((k0 >>> ((1 : Int32) &&& 31)) &&& (15 : Int32)) - (4 : Int32)).toInt64) w_OBJECT w_INT w_BOOLEAN w_BYTE w_CHAR w_FLOAT w_DOUBLE w_LONG w_SHORT), .val (own_of ((((k0 >>> ((1 : Int32) &&& 31)) &&& (15 : Int32)) - (4 : Int32)).toInt64) w_OBJECT w_INT w_BOOLEAN w_BYTE w_CHAR w_FLOAT w_DOUBLE w_LONG w_SHORT)] [(own_of ((((k0 >>> ((1 : Int32) &&& 31)) &&& (15 : Int32)) - (4 : Int32)).toInt64) w_OBJECT w_INT w_BOOLEAN w_BYTE w_CHAR w_FLOAT w_DOUBLE w_LONG w_SHORT)])) _
      refine XS.aload X55.here hx rfl (hb hby at_34) rfl (own_of_ref ((((k0 >>> ((1 : Int32) &&& 31)) &&& (15 : Int32)) - (4 : Int32)).toInt64) w_OBJECT w_INT w_BOOLEAN w_BYTE w_CHAR w_FLOAT w_DOUBLE w_LONG w_SHORT) ?_
      show Steps p.tables e below (T55.setTop (mkF m 36 #[.val (.long j0), .second, .val (.int k0), .val (.long ((((k0 >>> ((1 : Int32) &&& 31)) &&& (15 : Int32)) - (4 : Int32)).toInt64)), .second, .val (own_of ((((k0 >>> ((1 : Int32) &&& 31)) &&& (15 : Int32)) - (4 : Int32)).toInt64) w_OBJECT w_INT w_BOOLEAN w_BYTE w_CHAR w_FLOAT w_DOUBLE w_LONG w_SHORT), .val (own_of ((((k0 >>> ((1 : Int32) &&& 31)) &&& (15 : Int32)) - (4 : Int32)).toInt64) w_OBJECT w_INT w_BOOLEAN w_BYTE w_CHAR w_FLOAT w_DOUBLE w_LONG w_SHORT)] [(own_of ((((k0 >>> ((1 : Int32) &&& 31)) &&& (15 : Int32)) - (4 : Int32)).toInt64) w_OBJECT w_INT w_BOOLEAN w_BYTE w_CHAR w_FLOAT w_DOUBLE w_LONG w_SHORT), (own_of ((((k0 >>> ((1 : Int32) &&& 31)) &&& (15 : Int32)) - (4 : Int32)).toInt64) w_OBJECT w_INT w_BOOLEAN w_BYTE w_CHAR w_FLOAT w_DOUBLE w_LONG w_SHORT)])) _
      refine Jvm.RoadKit.acmp (g := (mkF m 36 #[.val (.long j0), .second, .val (.int k0), .val (.long ((((k0 >>> ((1 : Int32) &&& 31)) &&& (15 : Int32)) - (4 : Int32)).toInt64)), .second, .val (own_of ((((k0 >>> ((1 : Int32) &&& 31)) &&& (15 : Int32)) - (4 : Int32)).toInt64) w_OBJECT w_INT w_BOOLEAN w_BYTE w_CHAR w_FLOAT w_DOUBLE w_LONG w_SHORT), .val (own_of ((((k0 >>> ((1 : Int32) &&& 31)) &&& (15 : Int32)) - (4 : Int32)).toInt64) w_OBJECT w_INT w_BOOLEAN w_BYTE w_CHAR w_FLOAT w_DOUBLE w_LONG w_SHORT)] [(own_of ((((k0 >>> ((1 : Int32) &&& 31)) &&& (15 : Int32)) - (4 : Int32)).toInt64) w_OBJECT w_INT w_BOOLEAN w_BYTE w_CHAR w_FLOAT w_DOUBLE w_LONG w_SHORT), (own_of ((((k0 >>> ((1 : Int32) &&& 31)) &&& (15 : Int32)) - (4 : Int32)).toInt64) w_OBJECT w_INT w_BOOLEAN w_BYTE w_CHAR w_FLOAT w_DOUBLE w_LONG w_SHORT)])) X55 hx rfl (own_of_ref ((((k0 >>> ((1 : Int32) &&& 31)) &&& (15 : Int32)) - (4 : Int32)).toInt64) w_OBJECT w_INT w_BOOLEAN w_BYTE w_CHAR w_FLOAT w_DOUBLE w_LONG w_SHORT) (own_of_ref ((((k0 >>> ((1 : Int32) &&& 31)) &&& (15 : Int32)) - (4 : Int32)).toInt64) w_OBJECT w_INT w_BOOLEAN w_BYTE w_CHAR w_FLOAT w_DOUBLE w_LONG w_SHORT) (pc0 := 36) (pc' := 41) (same := true) rfl (hb hby at_36) rfl (decide_eq_true rfl) (by decide) (by decide) ?_
      show Steps p.tables e below (T55.setTop (mkF m 41 #[.val (.long j0), .second, .val (.int k0), .val (.long ((((k0 >>> ((1 : Int32) &&& 31)) &&& (15 : Int32)) - (4 : Int32)).toInt64)), .second, .val (own_of ((((k0 >>> ((1 : Int32) &&& 31)) &&& (15 : Int32)) - (4 : Int32)).toInt64) w_OBJECT w_INT w_BOOLEAN w_BYTE w_CHAR w_FLOAT w_DOUBLE w_LONG w_SHORT), .val (own_of ((((k0 >>> ((1 : Int32) &&& 31)) &&& (15 : Int32)) - (4 : Int32)).toInt64) w_OBJECT w_INT w_BOOLEAN w_BYTE w_CHAR w_FLOAT w_DOUBLE w_LONG w_SHORT)] [])) _
      exact k_)
    by_cases ht0 : ((((k0 >>> ((1 : Int32) &&& 31)) &&& (15 : Int32)) - (4 : Int32)).toInt64) = (0 : Int64)
    · have hq : (own_of ((((k0 >>> ((1 : Int32) &&& 31)) &&& (15 : Int32)) - (4 : Int32)).toInt64) w_OBJECT w_INT w_BOOLEAN w_BYTE w_CHAR w_FLOAT w_DOUBLE w_LONG w_SHORT) = .ref w_OBJECT := by rw [own_of, if_pos ht0]
      rw [hq] at pre56
      obtain ⟨v57, _, ⟨T57, L57, k57, n57⟩, -, X57, ⟨Lc57, hQ57, l57, y57, z57⟩, st57⟩ := Jvm.LawKit.callS X55 hx (y := (⟨"com/example/heapscribe/heapscribe/Bmd", "typeCode", "(Lcom/example/heapscribe/heapscribe/Hprof$BasicType;)I"⟩ : MethodName)) hown (mvT hZ (hw _ (List.mem_of_getElem? (i := 20) rfl))) (mvT hZ (hw _ (List.mem_of_getElem? (i := 21) rfl))) (mvT hZ (hw _ (List.mem_of_getElem? (i := 2) rfl))) (mvT hZ (hw _ (List.mem_of_getElem? (i := 22) rfl))) (by decide) (backOf (W := 0) (rm_3 l Z a0 hw [] w_OBJECT (0 : Int32) (0 : Int32) w_CODES cl_CODES h0 n0 Z0 F_OBJECT_ordinal E_OBJECT S_CODES Ar_CODES (inb_of (show cl_CODES.slots.size = (9 : Int32).toNatClampNeg from Z_CODES) ⟨by decide, by decide⟩) el_CODES_0) hZ (hw _ (List.mem_of_getElem? (i := 22) rfl)) (hw _ (List.mem_of_getElem? (i := 2) rfl)) (by decide) (by decide)) (g := (mkF m 48 #[.val (.long j0), .second, .val (.int k0), .val (.long ((((k0 >>> ((1 : Int32) &&& 31)) &&& (15 : Int32)) - (4 : Int32)).toInt64)), .second, .val (.ref w_OBJECT), .val (.ref w_OBJECT)] [(.ref w_OBJECT)])) rfl (by rw [hml]; rfl) (argsL := [(.ref w_OBJECT)]) (rest := []) (lenOf pd_2 rfl) rfl (by show 2 * 0 + _ ≤ _; exact Nat.le_of_eq rfl) (hb hby at_48) (fun _ _ => ⟨rfl, e55, (by decide : 0 + 0 ≤ _), (by decide : 0 + 0 ≤ _)⟩)
      dsimp only [Pt.U, Pt.locs, Pt.cells, Pt.slots] at X57 l57 y57 z57 st57 hQ57
      subst l57 y57 z57
      obtain ⟨hv57, N57q, e57⟩ := hQ57
      have N57 := Fr.app N55 N57q
      subst hv57
      have pre58 : ∀ t_, Steps p.tables e below (T57.setTop (mkF m 60 #[.val (.long j0), .second, .val (.int k0), .val (.long ((((k0 >>> ((1 : Int32) &&& 31)) &&& (15 : Int32)) - (4 : Int32)).toInt64)), .second, .val (.ref w_OBJECT), .val (.ref w_OBJECT)] [(.int (1 : Int32))])) t_ → Steps p.tables e below (s₁.setTop (entryFrame m #[(.long j0), (.int k0)] maxLocals)) t_ := fun t_ k_ => pre56 t_ (by
        show Steps p.tables e below (T55.setTop (mkF m 41 #[.val (.long j0), .second, .val (.int k0), .val (.long ((((k0 >>> ((1 : Int32) &&& 31)) &&& (15 : Int32)) - (4 : Int32)).toInt64)), .second, .val (.ref w_OBJECT), .val (.ref w_OBJECT)] [])) _
        refine XS.aload X55.here hx rfl (hb hby at_41) rfl rfl ?_
        show Steps p.tables e below (T55.setTop (mkF m 43 #[.val (.long j0), .second, .val (.int k0), .val (.long ((((k0 >>> ((1 : Int32) &&& 31)) &&& (15 : Int32)) - (4 : Int32)).toInt64)), .second, .val (.ref w_OBJECT), .val (.ref w_OBJECT)] [(.ref w_OBJECT)])) _
        refine XS.ifnullNo X55.here hx rfl (hb hby at_43) rfl ?_
        show Steps p.tables e below (T55.setTop (mkF m 46 #[.val (.long j0), .second, .val (.int k0), .val (.long ((((k0 >>> ((1 : Int32) &&& 31)) &&& (15 : Int32)) - (4 : Int32)).toInt64)), .second, .val (.ref w_OBJECT), .val (.ref w_OBJECT)] [])) _
        refine XS.aload X55.here hx rfl (hb hby at_46) rfl rfl ?_
        show Steps p.tables e below (T55.setTop (mkF m 48 #[.val (.long j0), .second, .val (.int k0), .val (.long ((((k0 >>> ((1 : Int32) &&& 31)) &&& (15 : Int32)) - (4 : Int32)).toInt64)), .second, .val (.ref w_OBJECT), .val (.ref w_OBJECT)] [(.ref w_OBJECT)])) _
        refine st57 _ ?_
        show Steps p.tables e below (T57.setTop (mkF m 51 #[.val (.long j0), .second, .val (.int k0), .val (.long ((((k0 >>> ((1 : Int32) &&& 31)) &&& (15 : Int32)) - (4 : Int32)).toInt64)), .second, .val (.ref w_OBJECT), .val (.ref w_OBJECT)] [(.int (0 : Int32))])) _
        refine XS.i2l X57.here hx rfl (hb hby at_51) rfl ?_
        show Steps p.tables e below (T57.setTop (mkF m 52 #[.val (.long j0), .second, .val (.int k0), .val (.long ((((k0 >>> ((1 : Int32) &&& 31)) &&& (15 : Int32)) - (4 : Int32)).toInt64)), .second, .val (.ref w_OBJECT), .val (.ref w_OBJECT)] [(.long ((0 : Int32).toInt64))])) _
        refine XS.lloadN X57.here hx rfl (hb hby at_52) rfl ?_
        show Steps p.tables e below (T57.setTop (mkF m 53 #[.val (.long j0), .second, .val (.int k0), .val (.long ((((k0 >>> ((1 : Int32) &&& 31)) &&& (15 : Int32)) - (4 : Int32)).toInt64)), .second, .val (.ref w_OBJECT), .val (.ref w_OBJECT)] [(.long ((((k0 >>> ((1 : Int32) &&& 31)) &&& (15 : Int32)) - (4 : Int32)).toInt64)), (.long ((0 : Int32).toInt64))])) _
        refine XS.lcmp X57.here hx rfl (hb hby at_53) rfl ?_
        show Steps p.tables e below (T57.setTop (mkF m 54 #[.val (.long j0), .second, .val (.int k0), .val (.long ((((k0 >>> ((1 : Int32) &&& 31)) &&& (15 : Int32)) - (4 : Int32)).toInt64)), .second, .val (.ref w_OBJECT), .val (.ref w_OBJECT)] [(.int (lcmpW ((0 : Int32).toInt64) ((((k0 >>> ((1 : Int32) &&& 31)) &&& (15 : Int32)) - (4 : Int32)).toInt64)))])) _
        refine XS.ifYes X57.here hx rfl (pc0 := 54) (pc' := 59) rfl (hb hby at_54) rfl ((if0 _ _).trans (teq ((lw_eq ((0 : Int32).toInt64) ((((k0 >>> ((1 : Int32) &&& 31)) &&& (15 : Int32)) - (4 : Int32)).toInt64)).mpr (Eq.trans (by decide) ht0.symm))).1) (by decide) (by decide) ?_
        show Steps p.tables e below (T57.setTop (mkF m 59 #[.val (.long j0), .second, .val (.int k0), .val (.long ((((k0 >>> ((1 : Int32) &&& 31)) &&& (15 : Int32)) - (4 : Int32)).toInt64)), .second, .val (.ref w_OBJECT), .val (.ref w_OBJECT)] [])) _
        refine XS.iconst X57.here hx rfl (hb hby at_59) ?_
        show Steps p.tables e below (T57.setTop (mkF m 60 #[.val (.long j0), .second, .val (.int k0), .val (.long ((((k0 >>> ((1 : Int32) &&& 31)) &&& (15 : Int32)) - (4 : Int32)).toInt64)), .second, .val (.ref w_OBJECT), .val (.ref w_OBJECT)] [(.int (1 : Int32))])) _
        exact k_)
      obtain ⟨fs, hr, hrun, hended, hW, hsame⟩ := X57.leave (v := some (.int (1 : Int32))) (fun h => by rw [Bd.returns] at h; cases h)
      refine ⟨_, _, pre58 _ ?_, hrun, hended, _, _, rfl, ?_, ⟨_, rfl⟩, hW, hsame.mono (by decide) (by decide)⟩
      · show Steps p.tables e below (T57.setTop (mkF m 60 #[.val (.long j0), .second, .val (.int k0), .val (.long ((((k0 >>> ((1 : Int32) &&& 31)) &&& (15 : Int32)) - (4 : Int32)).toInt64)), .second, .val (.ref w_OBJECT), .val (.ref w_OBJECT)] [(.int (1 : Int32))])) _
        exact retN X57 hx (t := .boolean) Bd.returns (by simp) (hb hby at_60) hr
      · show Q_0 Z j0 k0 w_OBJECT w_INT w_BOOLEAN w_BYTE w_CHAR w_FLOAT w_DOUBLE w_LONG w_SHORT w_BY_CODE cl_BY_CODE w_CODES cl_CODES h0 n0 _ T57.heap _
        rw [e57]
        exact ⟨rfl, N57⟩
    by_cases ht1 : ((((k0 >>> ((1 : Int32) &&& 31)) &&& (15 : Int32)) - (4 : Int32)).toInt64) = (1 : Int64)
    · have hq : (own_of ((((k0 >>> ((1 : Int32) &&& 31)) &&& (15 : Int32)) - (4 : Int32)).toInt64) w_OBJECT w_INT w_BOOLEAN w_BYTE w_CHAR w_FLOAT w_DOUBLE w_LONG w_SHORT) = .ref w_INT := by rw [own_of, if_neg ht0, if_pos ht1]
      rw [hq] at pre56
      obtain ⟨v59, _, ⟨T59, L59, k59, n59⟩, -, X59, ⟨Lc59, hQ59, l59, y59, z59⟩, st59⟩ := Jvm.LawKit.callS X55 hx (y := (⟨"com/example/heapscribe/heapscribe/Bmd", "typeCode", "(Lcom/example/heapscribe/heapscribe/Hprof$BasicType;)I"⟩ : MethodName)) hown (mvT hZ (hw _ (List.mem_of_getElem? (i := 20) rfl))) (mvT hZ (hw _ (List.mem_of_getElem? (i := 21) rfl))) (mvT hZ (hw _ (List.mem_of_getElem? (i := 2) rfl))) (mvT hZ (hw _ (List.mem_of_getElem? (i := 22) rfl))) (by decide) (backOf (W := 0) (rm_3 l Z a0 hw [] w_INT (7 : Int32) (1 : Int32) w_CODES cl_CODES h0 n0 Z0 F_INT_ordinal E_INT S_CODES Ar_CODES (inb_of (show cl_CODES.slots.size = (9 : Int32).toNatClampNeg from Z_CODES) ⟨by decide, by decide⟩) el_CODES_7) hZ (hw _ (List.mem_of_getElem? (i := 22) rfl)) (hw _ (List.mem_of_getElem? (i := 2) rfl)) (by decide) (by decide)) (g := (mkF m 48 #[.val (.long j0), .second, .val (.int k0), .val (.long ((((k0 >>> ((1 : Int32) &&& 31)) &&& (15 : Int32)) - (4 : Int32)).toInt64)), .second, .val (.ref w_INT), .val (.ref w_INT)] [(.ref w_INT)])) rfl (by rw [hml]; rfl) (argsL := [(.ref w_INT)]) (rest := []) (lenOf pd_2 rfl) rfl (by show 2 * 0 + _ ≤ _; exact Nat.le_of_eq rfl) (hb hby at_48) (fun _ _ => ⟨rfl, e55, (by decide : 0 + 0 ≤ _), (by decide : 0 + 0 ≤ _)⟩)
      dsimp only [Pt.U, Pt.locs, Pt.cells, Pt.slots] at X59 l59 y59 z59 st59 hQ59
      subst l59 y59 z59
      obtain ⟨hv59, N59q, e59⟩ := hQ59
      have N59 := Fr.app N55 N59q
      subst hv59
      have pre60 : ∀ t_, Steps p.tables e below (T59.setTop (mkF m 60 #[.val (.long j0), .second, .val (.int k0), .val (.long ((((k0 >>> ((1 : Int32) &&& 31)) &&& (15 : Int32)) - (4 : Int32)).toInt64)), .second, .val (.ref w_INT), .val (.ref w_INT)] [(.int (1 : Int32))])) t_ → Steps p.tables e below (s₁.setTop (entryFrame m #[(.long j0), (.int k0)] maxLocals)) t_ := fun t_ k_ => pre56 t_ (by
        show Steps p.tables e below (T55.setTop (mkF m 41 #[.val (.long j0), .second, .val (.int k0), .val (.long ((((k0 >>> ((1 : Int32) &&& 31)) &&& (15 : Int32)) - (4 : Int32)).toInt64)), .second, .val (.ref w_INT), .val (.ref w_INT)] [])) _
        refine XS.aload X55.here hx rfl (hb hby at_41) rfl rfl ?_
        show Steps p.tables e below (T55.setTop (mkF m 43 #[.val (.long j0), .second, .val (.int k0), .val (.long ((((k0 >>> ((1 : Int32) &&& 31)) &&& (15 : Int32)) - (4 : Int32)).toInt64)), .second, .val (.ref w_INT), .val (.ref w_INT)] [(.ref w_INT)])) _
        refine XS.ifnullNo X55.here hx rfl (hb hby at_43) rfl ?_
        show Steps p.tables e below (T55.setTop (mkF m 46 #[.val (.long j0), .second, .val (.int k0), .val (.long ((((k0 >>> ((1 : Int32) &&& 31)) &&& (15 : Int32)) - (4 : Int32)).toInt64)), .second, .val (.ref w_INT), .val (.ref w_INT)] [])) _
        refine XS.aload X55.here hx rfl (hb hby at_46) rfl rfl ?_
        show Steps p.tables e below (T55.setTop (mkF m 48 #[.val (.long j0), .second, .val (.int k0), .val (.long ((((k0 >>> ((1 : Int32) &&& 31)) &&& (15 : Int32)) - (4 : Int32)).toInt64)), .second, .val (.ref w_INT), .val (.ref w_INT)] [(.ref w_INT)])) _
        refine st59 _ ?_
        show Steps p.tables e below (T59.setTop (mkF m 51 #[.val (.long j0), .second, .val (.int k0), .val (.long ((((k0 >>> ((1 : Int32) &&& 31)) &&& (15 : Int32)) - (4 : Int32)).toInt64)), .second, .val (.ref w_INT), .val (.ref w_INT)] [(.int (1 : Int32))])) _
        refine XS.i2l X59.here hx rfl (hb hby at_51) rfl ?_
        show Steps p.tables e below (T59.setTop (mkF m 52 #[.val (.long j0), .second, .val (.int k0), .val (.long ((((k0 >>> ((1 : Int32) &&& 31)) &&& (15 : Int32)) - (4 : Int32)).toInt64)), .second, .val (.ref w_INT), .val (.ref w_INT)] [(.long ((1 : Int32).toInt64))])) _
        refine XS.lloadN X59.here hx rfl (hb hby at_52) rfl ?_
        show Steps p.tables e below (T59.setTop (mkF m 53 #[.val (.long j0), .second, .val (.int k0), .val (.long ((((k0 >>> ((1 : Int32) &&& 31)) &&& (15 : Int32)) - (4 : Int32)).toInt64)), .second, .val (.ref w_INT), .val (.ref w_INT)] [(.long ((((k0 >>> ((1 : Int32) &&& 31)) &&& (15 : Int32)) - (4 : Int32)).toInt64)), (.long ((1 : Int32).toInt64))])) _
        refine XS.lcmp X59.here hx rfl (hb hby at_53) rfl ?_
        show Steps p.tables e below (T59.setTop (mkF m 54 #[.val (.long j0), .second, .val (.int k0), .val (.long ((((k0 >>> ((1 : Int32) &&& 31)) &&& (15 : Int32)) - (4 : Int32)).toInt64)), .second, .val (.ref w_INT), .val (.ref w_INT)] [(.int (lcmpW ((1 : Int32).toInt64) ((((k0 >>> ((1 : Int32) &&& 31)) &&& (15 : Int32)) - (4 : Int32)).toInt64)))])) _
        refine XS.ifYes X59.here hx rfl (pc0 := 54) (pc' := 59) rfl (hb hby at_54) rfl ((if0 _ _).trans (teq ((lw_eq ((1 : Int32).toInt64) ((((k0 >>> ((1 : Int32) &&& 31)) &&& (15 : Int32)) - (4 : Int32)).toInt64)).mpr (Eq.trans (by decide) ht1.symm))).1) (by decide) (by decide) ?_
        show Steps p.tables e below (T59.setTop (mkF m 59 #[.val (.long j0), .second, .val (.int k0), .val (.long ((((k0 >>> ((1 : Int32) &&& 31)) &&& (15 : Int32)) - (4 : Int32)).toInt64)), .second, .val (.ref w_INT), .val (.ref w_INT)] [])) _
        refine XS.iconst X59.here hx rfl (hb hby at_59) ?_
        show Steps p.tables e below (T59.setTop (mkF m 60 #[.val (.long j0), .second, .val (.int k0), .val (.long ((((k0 >>> ((1 : Int32) &&& 31)) &&& (15 : Int32)) - (4 : Int32)).toInt64)), .second, .val (.ref w_INT), .val (.ref w_INT)] [(.int (1 : Int32))])) _
        exact k_)
      obtain ⟨fs, hr, hrun, hended, hW, hsame⟩ := X59.leave (v := some (.int (1 : Int32))) (fun h => by rw [Bd.returns] at h; cases h)
      refine ⟨_, _, pre60 _ ?_, hrun, hended, _, _, rfl, ?_, ⟨_, rfl⟩, hW, hsame.mono (by decide) (by decide)⟩
      · show Steps p.tables e below (T59.setTop (mkF m 60 #[.val (.long j0), .second, .val (.int k0), .val (.long ((((k0 >>> ((1 : Int32) &&& 31)) &&& (15 : Int32)) - (4 : Int32)).toInt64)), .second, .val (.ref w_INT), .val (.ref w_INT)] [(.int (1 : Int32))])) _
        exact retN X59 hx (t := .boolean) Bd.returns (by simp) (hb hby at_60) hr
      · show Q_0 Z j0 k0 w_OBJECT w_INT w_BOOLEAN w_BYTE w_CHAR w_FLOAT w_DOUBLE w_LONG w_SHORT w_BY_CODE cl_BY_CODE w_CODES cl_CODES h0 n0 _ T59.heap _
        rw [e59]
        exact ⟨rfl, N59⟩
    by_cases ht2 : ((((k0 >>> ((1 : Int32) &&& 31)) &&& (15 : Int32)) - (4 : Int32)).toInt64) = (2 : Int64)
    · have hq : (own_of ((((k0 >>> ((1 : Int32) &&& 31)) &&& (15 : Int32)) - (4 : Int32)).toInt64) w_OBJECT w_INT w_BOOLEAN w_BYTE w_CHAR w_FLOAT w_DOUBLE w_LONG w_SHORT) = .ref w_BOOLEAN := by rw [own_of, if_neg ht0, if_neg ht1, if_pos ht2]
      rw [hq] at pre56
      obtain ⟨v61, _, ⟨T61, L61, k61, n61⟩, -, X61, ⟨Lc61, hQ61, l61, y61, z61⟩, st61⟩ := Jvm.LawKit.callS X55 hx (y := (⟨"com/example/heapscribe/heapscribe/Bmd", "typeCode", "(Lcom/example/heapscribe/heapscribe/Hprof$BasicType;)I"⟩ : MethodName)) hown (mvT hZ (hw _ (List.mem_of_getElem? (i := 20) rfl))) (mvT hZ (hw _ (List.mem_of_getElem? (i := 21) rfl))) (mvT hZ (hw _ (List.mem_of_getElem? (i := 2) rfl))) (mvT hZ (hw _ (List.mem_of_getElem? (i := 22) rfl))) (by decide) (backOf (W := 0) (rm_3 l Z a0 hw [] w_BOOLEAN (1 : Int32) (2 : Int32) w_CODES cl_CODES h0 n0 Z0 F_BOOLEAN_ordinal E_BOOLEAN S_CODES Ar_CODES (inb_of (show cl_CODES.slots.size = (9 : Int32).toNatClampNeg from Z_CODES) ⟨by decide, by decide⟩) el_CODES_1) hZ (hw _ (List.mem_of_getElem? (i := 22) rfl)) (hw _ (List.mem_of_getElem? (i := 2) rfl)) (by decide) (by decide)) (g := (mkF m 48 #[.val (.long j0), .second, .val (.int k0), .val (.long ((((k0 >>> ((1 : Int32) &&& 31)) &&& (15 : Int32)) - (4 : Int32)).toInt64)), .second, .val (.ref w_BOOLEAN), .val (.ref w_BOOLEAN)] [(.ref w_BOOLEAN)])) rfl (by rw [hml]; rfl) (argsL := [(.ref w_BOOLEAN)]) (rest := []) (lenOf pd_2 rfl) rfl (by show 2 * 0 + _ ≤ _; exact Nat.le_of_eq rfl) (hb hby at_48) (fun _ _ => ⟨rfl, e55, (by decide : 0 + 0 ≤ _), (by decide : 0 + 0 ≤ _)⟩)
      dsimp only [Pt.U, Pt.locs, Pt.cells, Pt.slots] at X61 l61 y61 z61 st61 hQ61
      subst l61 y61 z61
      obtain ⟨hv61, N61q, e61⟩ := hQ61
      have N61 := Fr.app N55 N61q
      subst hv61
      have pre62 : ∀ t_, Steps p.tables e below (T61.setTop (mkF m 60 #[.val (.long j0), .second, .val (.int k0), .val (.long ((((k0 >>> ((1 : Int32) &&& 31)) &&& (15 : Int32)) - (4 : Int32)).toInt64)), .second, .val (.ref w_BOOLEAN), .val (.ref w_BOOLEAN)] [(.int (1 : Int32))])) t_ → Steps p.tables e below (s₁.setTop (entryFrame m #[(.long j0), (.int k0)] maxLocals)) t_ := fun t_ k_ => pre56 t_ (by
        show Steps p.tables e below (T55.setTop (mkF m 41 #[.val (.long j0), .second, .val (.int k0), .val (.long ((((k0 >>> ((1 : Int32) &&& 31)) &&& (15 : Int32)) - (4 : Int32)).toInt64)), .second, .val (.ref w_BOOLEAN), .val (.ref w_BOOLEAN)] [])) _
        refine XS.aload X55.here hx rfl (hb hby at_41) rfl rfl ?_
        show Steps p.tables e below (T55.setTop (mkF m 43 #[.val (.long j0), .second, .val (.int k0), .val (.long ((((k0 >>> ((1 : Int32) &&& 31)) &&& (15 : Int32)) - (4 : Int32)).toInt64)), .second, .val (.ref w_BOOLEAN), .val (.ref w_BOOLEAN)] [(.ref w_BOOLEAN)])) _
        refine XS.ifnullNo X55.here hx rfl (hb hby at_43) rfl ?_
        show Steps p.tables e below (T55.setTop (mkF m 46 #[.val (.long j0), .second, .val (.int k0), .val (.long ((((k0 >>> ((1 : Int32) &&& 31)) &&& (15 : Int32)) - (4 : Int32)).toInt64)), .second, .val (.ref w_BOOLEAN), .val (.ref w_BOOLEAN)] [])) _
        refine XS.aload X55.here hx rfl (hb hby at_46) rfl rfl ?_
        show Steps p.tables e below (T55.setTop (mkF m 48 #[.val (.long j0), .second, .val (.int k0), .val (.long ((((k0 >>> ((1 : Int32) &&& 31)) &&& (15 : Int32)) - (4 : Int32)).toInt64)), .second, .val (.ref w_BOOLEAN), .val (.ref w_BOOLEAN)] [(.ref w_BOOLEAN)])) _
        refine st61 _ ?_
        show Steps p.tables e below (T61.setTop (mkF m 51 #[.val (.long j0), .second, .val (.int k0), .val (.long ((((k0 >>> ((1 : Int32) &&& 31)) &&& (15 : Int32)) - (4 : Int32)).toInt64)), .second, .val (.ref w_BOOLEAN), .val (.ref w_BOOLEAN)] [(.int (2 : Int32))])) _
        refine XS.i2l X61.here hx rfl (hb hby at_51) rfl ?_
        show Steps p.tables e below (T61.setTop (mkF m 52 #[.val (.long j0), .second, .val (.int k0), .val (.long ((((k0 >>> ((1 : Int32) &&& 31)) &&& (15 : Int32)) - (4 : Int32)).toInt64)), .second, .val (.ref w_BOOLEAN), .val (.ref w_BOOLEAN)] [(.long ((2 : Int32).toInt64))])) _
        refine XS.lloadN X61.here hx rfl (hb hby at_52) rfl ?_
        show Steps p.tables e below (T61.setTop (mkF m 53 #[.val (.long j0), .second, .val (.int k0), .val (.long ((((k0 >>> ((1 : Int32) &&& 31)) &&& (15 : Int32)) - (4 : Int32)).toInt64)), .second, .val (.ref w_BOOLEAN), .val (.ref w_BOOLEAN)] [(.long ((((k0 >>> ((1 : Int32) &&& 31)) &&& (15 : Int32)) - (4 : Int32)).toInt64)), (.long ((2 : Int32).toInt64))])) _
        refine XS.lcmp X61.here hx rfl (hb hby at_53) rfl ?_
        show Steps p.tables e below (T61.setTop (mkF m 54 #[.val (.long j0), .second, .val (.int k0), .val (.long ((((k0 >>> ((1 : Int32) &&& 31)) &&& (15 : Int32)) - (4 : Int32)).toInt64)), .second, .val (.ref w_BOOLEAN), .val (.ref w_BOOLEAN)] [(.int (lcmpW ((2 : Int32).toInt64) ((((k0 >>> ((1 : Int32) &&& 31)) &&& (15 : Int32)) - (4 : Int32)).toInt64)))])) _
        refine XS.ifYes X61.here hx rfl (pc0 := 54) (pc' := 59) rfl (hb hby at_54) rfl ((if0 _ _).trans (teq ((lw_eq ((2 : Int32).toInt64) ((((k0 >>> ((1 : Int32) &&& 31)) &&& (15 : Int32)) - (4 : Int32)).toInt64)).mpr (Eq.trans (by decide) ht2.symm))).1) (by decide) (by decide) ?_
        show Steps p.tables e below (T61.setTop (mkF m 59 #[.val (.long j0), .second, .val (.int k0), .val (.long ((((k0 >>> ((1 : Int32) &&& 31)) &&& (15 : Int32)) - (4 : Int32)).toInt64)), .second, .val (.ref w_BOOLEAN), .val (.ref w_BOOLEAN)] [])) _
        refine XS.iconst X61.here hx rfl (hb hby at_59) ?_
        show Steps p.tables e below (T61.setTop (mkF m 60 #[.val (.long j0), .second, .val (.int k0), .val (.long ((((k0 >>> ((1 : Int32) &&& 31)) &&& (15 : Int32)) - (4 : Int32)).toInt64)), .second, .val (.ref w_BOOLEAN), .val (.ref w_BOOLEAN)] [(.int (1 : Int32))])) _
        exact k_)
      obtain ⟨fs, hr, hrun, hended, hW, hsame⟩ := X61.leave (v := some (.int (1 : Int32))) (fun h => by rw [Bd.returns] at h; cases h)
      refine ⟨_, _, pre62 _ ?_, hrun, hended, _, _, rfl, ?_, ⟨_, rfl⟩, hW, hsame.mono (by decide) (by decide)⟩
      · show Steps p.tables e below (T61.setTop (mkF m 60 #[.val (.long j0), .second, .val (.int k0), .val (.long ((((k0 >>> ((1 : Int32) &&& 31)) &&& (15 : Int32)) - (4 : Int32)).toInt64)), .second, .val (.ref w_BOOLEAN), .val (.ref w_BOOLEAN)] [(.int (1 : Int32))])) _
        exact retN X61 hx (t := .boolean) Bd.returns (by simp) (hb hby at_60) hr
      · show Q_0 Z j0 k0 w_OBJECT w_INT w_BOOLEAN w_BYTE w_CHAR w_FLOAT w_DOUBLE w_LONG w_SHORT w_BY_CODE cl_BY_CODE w_CODES cl_CODES h0 n0 _ T61.heap _
        rw [e61]
        exact ⟨rfl, N61⟩
    by_cases ht3 : ((((k0 >>> ((1 : Int32) &&& 31)) &&& (15 : Int32)) - (4 : Int32)).toInt64) = (3 : Int64)
    · have hq : (own_of ((((k0 >>> ((1 : Int32) &&& 31)) &&& (15 : Int32)) - (4 : Int32)).toInt64) w_OBJECT w_INT w_BOOLEAN w_BYTE w_CHAR w_FLOAT w_DOUBLE w_LONG w_SHORT) = .ref w_BYTE := by rw [own_of, if_neg ht0, if_neg ht1, if_neg ht2, if_pos ht3]
      rw [hq] at pre56
      obtain ⟨v63, _, ⟨T63, L63, k63, n63⟩, -, X63, ⟨Lc63, hQ63, l63, y63, z63⟩, st63⟩ := Jvm.LawKit.callS X55 hx (y := (⟨"com/example/heapscribe/heapscribe/Bmd", "typeCode", "(Lcom/example/heapscribe/heapscribe/Hprof$BasicType;)I"⟩ : MethodName)) hown (mvT hZ (hw _ (List.mem_of_getElem? (i := 20) rfl))) (mvT hZ (hw _ (List.mem_of_getElem? (i := 21) rfl))) (mvT hZ (hw _ (List.mem_of_getElem? (i := 2) rfl))) (mvT hZ (hw _ (List.mem_of_getElem? (i := 22) rfl))) (by decide) (backOf (W := 0) (rm_3 l Z a0 hw [] w_BYTE (5 : Int32) (3 : Int32) w_CODES cl_CODES h0 n0 Z0 F_BYTE_ordinal E_BYTE S_CODES Ar_CODES (inb_of (show cl_CODES.slots.size = (9 : Int32).toNatClampNeg from Z_CODES) ⟨by decide, by decide⟩) el_CODES_5) hZ (hw _ (List.mem_of_getElem? (i := 22) rfl)) (hw _ (List.mem_of_getElem? (i := 2) rfl)) (by decide) (by decide)) (g := (mkF m 48 #[.val (.long j0), .second, .val (.int k0), .val (.long ((((k0 >>> ((1 : Int32) &&& 31)) &&& (15 : Int32)) - (4 : Int32)).toInt64)), .second, .val (.ref w_BYTE), .val (.ref w_BYTE)] [(.ref w_BYTE)])) rfl (by rw [hml]; rfl) (argsL := [(.ref w_BYTE)]) (rest := []) (lenOf pd_2 rfl) rfl (by show 2 * 0 + _ ≤ _; exact Nat.le_of_eq rfl) (hb hby at_48) (fun _ _ => ⟨rfl, e55, (by decide : 0 + 0 ≤ _), (by decide : 0 + 0 ≤ _)⟩)
      dsimp only [Pt.U, Pt.locs, Pt.cells, Pt.slots] at X63 l63 y63 z63 st63 hQ63
      subst l63 y63 z63
      obtain ⟨hv63, N63q, e63⟩ := hQ63
      have N63 := Fr.app N55 N63q
      subst hv63
      have pre64 : ∀ t_, Steps p.tables e below (T63.setTop (mkF m 60 #[.val (.long j0), .second, .val (.int k0), .val (.long ((((k0 >>> ((1 : Int32) &&& 31)) &&& (15 : Int32)) - (4 : Int32)).toInt64)), .second, .val (.ref w_BYTE), .val (.ref w_BYTE)] [(.int (1 : Int32))])) t_ → Steps p.tables e below (s₁.setTop (entryFrame m #[(.long j0), (.int k0)] maxLocals)) t_ := fun t_ k_ => pre56 t_ (by
        show Steps p.tables e below (T55.setTop (mkF m 41 #[.val (.long j0), .second, .val (.int k0), .val (.long ((((k0 >>> ((1 : Int32) &&& 31)) &&& (15 : Int32)) - (4 : Int32)).toInt64)), .second, .val (.ref w_BYTE), .val (.ref w_BYTE)] [])) _
        refine XS.aload X55.here hx rfl (hb hby at_41) rfl rfl ?_
        show Steps p.tables e below (T55.setTop (mkF m 43 #[.val (.long j0), .second, .val (.int k0), .val (.long ((((k0 >>> ((1 : Int32) &&& 31)) &&& (15 : Int32)) - (4 : Int32)).toInt64)), .second, .val (.ref w_BYTE), .val (.ref w_BYTE)] [(.ref w_BYTE)])) _
        refine XS.ifnullNo X55.here hx rfl (hb hby at_43) rfl ?_
        show Steps p.tables e below (T55.setTop (mkF m 46 #[.val (.long j0), .second, .val (.int k0), .val (.long ((((k0 >>> ((1 : Int32) &&& 31)) &&& (15 : Int32)) - (4 : Int32)).toInt64)), .second, .val (.ref w_BYTE), .val (.ref w_BYTE)] [])) _
        refine XS.aload X55.here hx rfl (hb hby at_46) rfl rfl ?_
        show Steps p.tables e below (T55.setTop (mkF m 48 #[.val (.long j0), .second, .val (.int k0), .val (.long ((((k0 >>> ((1 : Int32) &&& 31)) &&& (15 : Int32)) - (4 : Int32)).toInt64)), .second, .val (.ref w_BYTE), .val (.ref w_BYTE)] [(.ref w_BYTE)])) _
        refine st63 _ ?_
        show Steps p.tables e below (T63.setTop (mkF m 51 #[.val (.long j0), .second, .val (.int k0), .val (.long ((((k0 >>> ((1 : Int32) &&& 31)) &&& (15 : Int32)) - (4 : Int32)).toInt64)), .second, .val (.ref w_BYTE), .val (.ref w_BYTE)] [(.int (3 : Int32))])) _
        refine XS.i2l X63.here hx rfl (hb hby at_51) rfl ?_
        show Steps p.tables e below (T63.setTop (mkF m 52 #[.val (.long j0), .second, .val (.int k0), .val (.long ((((k0 >>> ((1 : Int32) &&& 31)) &&& (15 : Int32)) - (4 : Int32)).toInt64)), .second, .val (.ref w_BYTE), .val (.ref w_BYTE)] [(.long ((3 : Int32).toInt64))])) _
        refine XS.lloadN X63.here hx rfl (hb hby at_52) rfl ?_
        show Steps p.tables e below (T63.setTop (mkF m 53 #[.val (.long j0), .second, .val (.int k0), .val (.long ((((k0 >>> ((1 : Int32) &&& 31)) &&& (15 : Int32)) - (4 : Int32)).toInt64)), .second, .val (.ref w_BYTE), .val (.ref w_BYTE)] [(.long ((((k0 >>> ((1 : Int32) &&& 31)) &&& (15 : Int32)) - (4 : Int32)).toInt64)), (.long ((3 : Int32).toInt64))])) _
        refine XS.lcmp X63.here hx rfl (hb hby at_53) rfl ?_
        show Steps p.tables e below (T63.setTop (mkF m 54 #[.val (.long j0), .second, .val (.int k0), .val (.long ((((k0 >>> ((1 : Int32) &&& 31)) &&& (15 : Int32)) - (4 : Int32)).toInt64)), .second, .val (.ref w_BYTE), .val (.ref w_BYTE)] [(.int (lcmpW ((3 : Int32).toInt64) ((((k0 >>> ((1 : Int32) &&& 31)) &&& (15 : Int32)) - (4 : Int32)).toInt64)))])) _
        refine XS.ifYes X63.here hx rfl (pc0 := 54) (pc' := 59) rfl (hb hby at_54) rfl ((if0 _ _).trans (teq ((lw_eq ((3 : Int32).toInt64) ((((k0 >>> ((1 : Int32) &&& 31)) &&& (15 : Int32)) - (4 : Int32)).toInt64)).mpr (Eq.trans (by decide) ht3.symm))).1) (by decide) (by decide) ?_
        show Steps p.tables e below (T63.setTop (mkF m 59 #[.val (.long j0), .second, .val (.int k0), .val (.long ((((k0 >>> ((1 : Int32) &&& 31)) &&& (15 : Int32)) - (4 : Int32)).toInt64)), .second, .val (.ref w_BYTE), .val (.ref w_BYTE)] [])) _
        refine XS.iconst X63.here hx rfl (hb hby at_59) ?_
        show Steps p.tables e below (T63.setTop (mkF m 60 #[.val (.long j0), .second, .val (.int k0), .val (.long ((((k0 >>> ((1 : Int32) &&& 31)) &&& (15 : Int32)) - (4 : Int32)).toInt64)), .second, .val (.ref w_BYTE), .val (.ref w_BYTE)] [(.int (1 : Int32))])) _
        exact k_)
      obtain ⟨fs, hr, hrun, hended, hW, hsame⟩ := X63.leave (v := some (.int (1 : Int32))) (fun h => by rw [Bd.returns] at h; cases h)
      refine ⟨_, _, pre64 _ ?_, hrun, hended, _, _, rfl, ?_, ⟨_, rfl⟩, hW, hsame.mono (by decide) (by decide)⟩
      · show Steps p.tables e below (T63.setTop (mkF m 60 #[.val (.long j0), .second, .val (.int k0), .val (.long ((((k0 >>> ((1 : Int32) &&& 31)) &&& (15 : Int32)) - (4 : Int32)).toInt64)), .second, .val (.ref w_BYTE), .val (.ref w_BYTE)] [(.int (1 : Int32))])) _
        exact retN X63 hx (t := .boolean) Bd.returns (by simp) (hb hby at_60) hr
      · show Q_0 Z j0 k0 w_OBJECT w_INT w_BOOLEAN w_BYTE w_CHAR w_FLOAT w_DOUBLE w_LONG w_SHORT w_BY_CODE cl_BY_CODE w_CODES cl_CODES h0 n0 _ T63.heap _
        rw [e63]
        exact ⟨rfl, N63⟩
    by_cases ht4 : ((((k0 >>> ((1 : Int32) &&& 31)) &&& (15 : Int32)) - (4 : Int32)).toInt64) = (4 : Int64)
    · have hq : (own_of ((((k0 >>> ((1 : Int32) &&& 31)) &&& (15 : Int32)) - (4 : Int32)).toInt64) w_OBJECT w_INT w_BOOLEAN w_BYTE w_CHAR w_FLOAT w_DOUBLE w_LONG w_SHORT) = .ref w_CHAR := by rw [own_of, if_neg ht0, if_neg ht1, if_neg ht2, if_neg ht3, if_pos ht4]
      rw [hq] at pre56
      obtain ⟨v65, _, ⟨T65, L65, k65, n65⟩, -, X65, ⟨Lc65, hQ65, l65, y65, z65⟩, st65⟩ := Jvm.LawKit.callS X55 hx (y := (⟨"com/example/heapscribe/heapscribe/Bmd", "typeCode", "(Lcom/example/heapscribe/heapscribe/Hprof$BasicType;)I"⟩ : MethodName)) hown (mvT hZ (hw _ (List.mem_of_getElem? (i := 20) rfl))) (mvT hZ (hw _ (List.mem_of_getElem? (i := 21) rfl))) (mvT hZ (hw _ (List.mem_of_getElem? (i := 2) rfl))) (mvT hZ (hw _ (List.mem_of_getElem? (i := 22) rfl))) (by decide) (backOf (W := 0) (rm_3 l Z a0 hw [] w_CHAR (2 : Int32) (4 : Int32) w_CODES cl_CODES h0 n0 Z0 F_CHAR_ordinal E_CHAR S_CODES Ar_CODES (inb_of (show cl_CODES.slots.size = (9 : Int32).toNatClampNeg from Z_CODES) ⟨by decide, by decide⟩) el_CODES_2) hZ (hw _ (List.mem_of_getElem? (i := 22) rfl)) (hw _ (List.mem_of_getElem? (i := 2) rfl)) (by decide) (by decide)) (g := (mkF m 48 #[.val (.long j0), .second, .val (.int k0), .val (.long ((((k0 >>> ((1 : Int32) &&& 31)) &&& (15 : Int32)) - (4 : Int32)).toInt64)), .second, .val (.ref w_CHAR), .val (.ref w_CHAR)] [(.ref w_CHAR)])) rfl (by rw [hml]; rfl) (argsL := [(.ref w_CHAR)]) (rest := []) (lenOf pd_2 rfl) rfl (by show 2 * 0 + _ ≤ _; exact Nat.le_of_eq rfl) (hb hby at_48) (fun _ _ => ⟨rfl, e55, (by decide : 0 + 0 ≤ _), (by decide : 0 + 0 ≤ _)⟩)
      dsimp only [Pt.U, Pt.locs, Pt.cells, Pt.slots] at X65 l65 y65 z65 st65 hQ65
      subst l65 y65 z65
      obtain ⟨hv65, N65q, e65⟩ := hQ65
      have N65 := Fr.app N55 N65q
      subst hv65
      have pre66 : ∀ t_, Steps p.tables e below (T65.setTop (mkF m 60 #[.val (.long j0), .second, .val (.int k0), .val (.long ((((k0 >>> ((1 : Int32) &&& 31)) &&& (15 : Int32)) - (4 : Int32)).toInt64)), .second, .val (.ref w_CHAR), .val (.ref w_CHAR)] [(.int (1 : Int32))])) t_ → Steps p.tables e below (s₁.setTop (entryFrame m #[(.long j0), (.int k0)] maxLocals)) t_ := fun t_ k_ => pre56 t_ (by
        show Steps p.tables e below (T55.setTop (mkF m 41 #[.val (.long j0), .second, .val (.int k0), .val (.long ((((k0 >>> ((1 : Int32) &&& 31)) &&& (15 : Int32)) - (4 : Int32)).toInt64)), .second, .val (.ref w_CHAR), .val (.ref w_CHAR)] [])) _
        refine XS.aload X55.here hx rfl (hb hby at_41) rfl rfl ?_
        show Steps p.tables e below (T55.setTop (mkF m 43 #[.val (.long j0), .second, .val (.int k0), .val (.long ((((k0 >>> ((1 : Int32) &&& 31)) &&& (15 : Int32)) - (4 : Int32)).toInt64)), .second, .val (.ref w_CHAR), .val (.ref w_CHAR)] [(.ref w_CHAR)])) _
        refine XS.ifnullNo X55.here hx rfl (hb hby at_43) rfl ?_
        show Steps p.tables e below (T55.setTop (mkF m 46 #[.val (.long j0), .second, .val (.int k0), .val (.long ((((k0 >>> ((1 : Int32) &&& 31)) &&& (15 : Int32)) - (4 : Int32)).toInt64)), .second, .val (.ref w_CHAR), .val (.ref w_CHAR)] [])) _
        refine XS.aload X55.here hx rfl (hb hby at_46) rfl rfl ?_
        show Steps p.tables e below (T55.setTop (mkF m 48 #[.val (.long j0), .second, .val (.int k0), .val (.long ((((k0 >>> ((1 : Int32) &&& 31)) &&& (15 : Int32)) - (4 : Int32)).toInt64)), .second, .val (.ref w_CHAR), .val (.ref w_CHAR)] [(.ref w_CHAR)])) _
        refine st65 _ ?_
        show Steps p.tables e below (T65.setTop (mkF m 51 #[.val (.long j0), .second, .val (.int k0), .val (.long ((((k0 >>> ((1 : Int32) &&& 31)) &&& (15 : Int32)) - (4 : Int32)).toInt64)), .second, .val (.ref w_CHAR), .val (.ref w_CHAR)] [(.int (4 : Int32))])) _
        refine XS.i2l X65.here hx rfl (hb hby at_51) rfl ?_
        show Steps p.tables e below (T65.setTop (mkF m 52 #[.val (.long j0), .second, .val (.int k0), .val (.long ((((k0 >>> ((1 : Int32) &&& 31)) &&& (15 : Int32)) - (4 : Int32)).toInt64)), .second, .val (.ref w_CHAR), .val (.ref w_CHAR)] [(.long ((4 : Int32).toInt64))])) _
        refine XS.lloadN X65.here hx rfl (hb hby at_52) rfl ?_
        show Steps p.tables e below (T65.setTop (mkF m 53 #[.val (.long j0), .second, .val (.int k0), .val (.long ((((k0 >>> ((1 : Int32) &&& 31)) &&& (15 : Int32)) - (4 : Int32)).toInt64)), .second, .val (.ref w_CHAR), .val (.ref w_CHAR)] [(.long ((((k0 >>> ((1 : Int32) &&& 31)) &&& (15 : Int32)) - (4 : Int32)).toInt64)), (.long ((4 : Int32).toInt64))])) _
        refine XS.lcmp X65.here hx rfl (hb hby at_53) rfl ?_
        show Steps p.tables e below (T65.setTop (mkF m 54 #[.val (.long j0), .second, .val (.int k0), .val (.long ((((k0 >>> ((1 : Int32) &&& 31)) &&& (15 : Int32)) - (4 : Int32)).toInt64)), .second, .val (.ref w_CHAR), .val (.ref w_CHAR)] [(.int (lcmpW ((4 : Int32).toInt64) ((((k0 >>> ((1 : Int32) &&& 31)) &&& (15 : Int32)) - (4 : Int32)).toInt64)))])) _
        refine XS.ifYes X65.here hx rfl (pc0 := 54) (pc' := 59) rfl (hb hby at_54) rfl ((if0 _ _).trans (teq ((lw_eq ((4 : Int32).toInt64) ((((k0 >>> ((1 : Int32) &&& 31)) &&& (15 : Int32)) - (4 : Int32)).toInt64)).mpr (Eq.trans (by decide) ht4.symm))).1) (by decide) (by decide) ?_
        show Steps p.tables e below (T65.setTop (mkF m 59 #[.val (.long j0), .second, .val (.int k0), .val (.long ((((k0 >>> ((1 : Int32) &&& 31)) &&& (15 : Int32)) - (4 : Int32)).toInt64)), .second, .val (.ref w_CHAR), .val (.ref w_CHAR)] [])) _
        refine XS.iconst X65.here hx rfl (hb hby at_59) ?_
        show Steps p.tables e below (T65.setTop (mkF m 60 #[.val (.long j0), .second, .val (.int k0), .val (.long ((((k0 >>> ((1 : Int32) &&& 31)) &&& (15 : Int32)) - (4 : Int32)).toInt64)), .second, .val (.ref w_CHAR), .val (.ref w_CHAR)] [(.int (1 : Int32))])) _
        exact k_)
      obtain ⟨fs, hr, hrun, hended, hW, hsame⟩ := X65.leave (v := some (.int (1 : Int32))) (fun h => by rw [Bd.returns] at h; cases h)
      refine ⟨_, _, pre66 _ ?_, hrun, hended, _, _, rfl, ?_, ⟨_, rfl⟩, hW, hsame.mono (by decide) (by decide)⟩
      · show Steps p.tables e below (T65.setTop (mkF m 60 #[.val (.long j0), .second, .val (.int k0), .val (.long ((((k0 >>> ((1 : Int32) &&& 31)) &&& (15 : Int32)) - (4 : Int32)).toInt64)), .second, .val (.ref w_CHAR), .val (.ref w_CHAR)] [(.int (1 : Int32))])) _
        exact retN X65 hx (t := .boolean) Bd.returns (by simp) (hb hby at_60) hr
      · show Q_0 Z j0 k0 w_OBJECT w_INT w_BOOLEAN w_BYTE w_CHAR w_FLOAT w_DOUBLE w_LONG w_SHORT w_BY_CODE cl_BY_CODE w_CODES cl_CODES h0 n0 _ T65.heap _
        rw [e65]
        exact ⟨rfl, N65⟩
    by_cases ht5 : ((((k0 >>> ((1 : Int32) &&& 31)) &&& (15 : Int32)) - (4 : Int32)).toInt64) = (5 : Int64)
    · have hq : (own_of ((((k0 >>> ((1 : Int32) &&& 31)) &&& (15 : Int32)) - (4 : Int32)).toInt64) w_OBJECT w_INT w_BOOLEAN w_BYTE w_CHAR w_FLOAT w_DOUBLE w_LONG w_SHORT) = .ref w_FLOAT := by rw [own_of, if_neg ht0, if_neg ht1, if_neg ht2, if_neg ht3, if_neg ht4, if_pos ht5]
      rw [hq] at pre56
      obtain ⟨v67, _, ⟨T67, L67, k67, n67⟩, -, X67, ⟨Lc67, hQ67, l67, y67, z67⟩, st67⟩ := Jvm.LawKit.callS X55 hx (y := (⟨"com/example/heapscribe/heapscribe/Bmd", "typeCode", "(Lcom/example/heapscribe/heapscribe/Hprof$BasicType;)I"⟩ : MethodName)) hown (mvT hZ (hw _ (List.mem_of_getElem? (i := 20) rfl))) (mvT hZ (hw _ (List.mem_of_getElem? (i := 21) rfl))) (mvT hZ (hw _ (List.mem_of_getElem? (i := 2) rfl))) (mvT hZ (hw _ (List.mem_of_getElem? (i := 22) rfl))) (by decide) (backOf (W := 0) (rm_3 l Z a0 hw [] w_FLOAT (3 : Int32) (5 : Int32) w_CODES cl_CODES h0 n0 Z0 F_FLOAT_ordinal E_FLOAT S_CODES Ar_CODES (inb_of (show cl_CODES.slots.size = (9 : Int32).toNatClampNeg from Z_CODES) ⟨by decide, by decide⟩) el_CODES_3) hZ (hw _ (List.mem_of_getElem? (i := 22) rfl)) (hw _ (List.mem_of_getElem? (i := 2) rfl)) (by decide) (by decide)) (g := (mkF m 48 #[.val (.long j0), .second, .val (.int k0), .val (.long ((((k0 >>> ((1 : Int32) &&& 31)) &&& (15 : Int32)) - (4 : Int32)).toInt64)), .second, .val (.ref w_FLOAT), .val (.ref w_FLOAT)] [(.ref w_FLOAT)])) rfl (by rw [hml]; rfl) (argsL := [(.ref w_FLOAT)]) (rest := []) (lenOf pd_2 rfl) rfl (by show 2 * 0 + _ ≤ _; exact Nat.le_of_eq rfl) (hb hby at_48) (fun _ _ => ⟨rfl, e55, (by decide : 0 + 0 ≤ _), (by decide : 0 + 0 ≤ _)⟩)
      dsimp only [Pt.U, Pt.locs, Pt.cells, Pt.slots] at X67 l67 y67 z67 st67 hQ67
      subst l67 y67 z67
      obtain ⟨hv67, N67q, e67⟩ := hQ67
      have N67 := Fr.app N55 N67q
      subst hv67
      have pre68 : ∀ t_, Steps p.tables e below (T67.setTop (mkF m 60 #[.val (.long j0), .second, .val (.int k0), .val (.long ((((k0 >>> ((1 : Int32) &&& 31)) &&& (15 : Int32)) - (4 : Int32)).toInt64)), .second, .val (.ref w_FLOAT), .val (.ref w_FLOAT)] [(.int (1 : Int32))])) t_ → Steps p.tables e below (s₁.setTop (entryFrame m #[(.long j0), (.int k0)] maxLocals)) t_ := fun t_ k_ => pre56 t_ (by
        show Steps p.tables e below (T55.setTop (mkF m 41 #[.val (.long j0), .second, .val (.int k0), .val (.long ((((k0 >>> ((1 : Int32) &&& 31)) &&& (15 : Int32)) - (4 : Int32)).toInt64)), .second, .val (.ref w_FLOAT), .val (.ref w_FLOAT)] [])) _
        refine XS.aload X55.here hx rfl (hb hby at_41) rfl rfl ?_
        show Steps p.tables e below (T55.setTop (mkF m 43 #[.val (.long j0), .second, .val (.int k0), .val (.long ((((k0 >>> ((1 : Int32) &&& 31)) &&& (15 : Int32)) - (4 : Int32)).toInt64)), .second, .val (.ref w_FLOAT), .val (.ref w_FLOAT)] [(.ref w_FLOAT)])) _
        refine XS.ifnullNo X55.here hx rfl (hb hby at_43) rfl ?_
        show Steps p.tables e below (T55.setTop (mkF m 46 #[.val (.long j0), .second, .val (.int k0), .val (.long ((((k0 >>> ((1 : Int32) &&& 31)) &&& (15 : Int32)) - (4 : Int32)).toInt64)), .second, .val (.ref w_FLOAT), .val (.ref w_FLOAT)] [])) _
        refine XS.aload X55.here hx rfl (hb hby at_46) rfl rfl ?_
        show Steps p.tables e below (T55.setTop (mkF m 48 #[.val (.long j0), .second, .val (.int k0), .val (.long ((((k0 >>> ((1 : Int32) &&& 31)) &&& (15 : Int32)) - (4 : Int32)).toInt64)), .second, .val (.ref w_FLOAT), .val (.ref w_FLOAT)] [(.ref w_FLOAT)])) _
        refine st67 _ ?_
        show Steps p.tables e below (T67.setTop (mkF m 51 #[.val (.long j0), .second, .val (.int k0), .val (.long ((((k0 >>> ((1 : Int32) &&& 31)) &&& (15 : Int32)) - (4 : Int32)).toInt64)), .second, .val (.ref w_FLOAT), .val (.ref w_FLOAT)] [(.int (5 : Int32))])) _
        refine XS.i2l X67.here hx rfl (hb hby at_51) rfl ?_
        show Steps p.tables e below (T67.setTop (mkF m 52 #[.val (.long j0), .second, .val (.int k0), .val (.long ((((k0 >>> ((1 : Int32) &&& 31)) &&& (15 : Int32)) - (4 : Int32)).toInt64)), .second, .val (.ref w_FLOAT), .val (.ref w_FLOAT)] [(.long ((5 : Int32).toInt64))])) _
        refine XS.lloadN X67.here hx rfl (hb hby at_52) rfl ?_
        show Steps p.tables e below (T67.setTop (mkF m 53 #[.val (.long j0), .second, .val (.int k0), .val (.long ((((k0 >>> ((1 : Int32) &&& 31)) &&& (15 : Int32)) - (4 : Int32)).toInt64)), .second, .val (.ref w_FLOAT), .val (.ref w_FLOAT)] [(.long ((((k0 >>> ((1 : Int32) &&& 31)) &&& (15 : Int32)) - (4 : Int32)).toInt64)), (.long ((5 : Int32).toInt64))])) _
        refine XS.lcmp X67.here hx rfl (hb hby at_53) rfl ?_
        show Steps p.tables e below (T67.setTop (mkF m 54 #[.val (.long j0), .second, .val (.int k0), .val (.long ((((k0 >>> ((1 : Int32) &&& 31)) &&& (15 : Int32)) - (4 : Int32)).toInt64)), .second, .val (.ref w_FLOAT), .val (.ref w_FLOAT)] [(.int (lcmpW ((5 : Int32).toInt64) ((((k0 >>> ((1 : Int32) &&& 31)) &&& (15 : Int32)) - (4 : Int32)).toInt64)))])) _
        refine XS.ifYes X67.here hx rfl (pc0 := 54) (pc' := 59) rfl (hb hby at_54) rfl ((if0 _ _).trans (teq ((lw_eq ((5 : Int32).toInt64) ((((k0 >>> ((1 : Int32) &&& 31)) &&& (15 : Int32)) - (4 : Int32)).toInt64)).mpr (Eq.trans (by decide) ht5.symm))).1) (by decide) (by decide) ?_
        show Steps p.tables e below (T67.setTop (mkF m 59 #[.val (.long j0), .second, .val (.int k0), .val (.long ((((k0 >>> ((1 : Int32) &&& 31)) &&& (15 : Int32)) - (4 : Int32)).toInt64)), .second, .val (.ref w_FLOAT), .val (.ref w_FLOAT)] [])) _
        refine XS.iconst X67.here hx rfl (hb hby at_59) ?_
        show Steps p.tables e below (T67.setTop (mkF m 60 #[.val (.long j0), .second, .val (.int k0), .val (.long ((((k0 >>> ((1 : Int32) &&& 31)) &&& (15 : Int32)) - (4 : Int32)).toInt64)), .second, .val (.ref w_FLOAT), .val (.ref w_FLOAT)] [(.int (1 : Int32))])) _
        exact k_)
      obtain ⟨fs, hr, hrun, hended, hW, hsame⟩ := X67.leave (v := some (.int (1 : Int32))) (fun h => by rw [Bd.returns] at h; cases h)
      refine ⟨_, _, pre68 _ ?_, hrun, hended, _, _, rfl, ?_, ⟨_, rfl⟩, hW, hsame.mono (by decide) (by decide)⟩
      · show Steps p.tables e below (T67.setTop (mkF m 60 #[.val (.long j0), .second, .val (.int k0), .val (.long ((((k0 >>> ((1 : Int32) &&& 31)) &&& (15 : Int32)) - (4 : Int32)).toInt64)), .second, .val (.ref w_FLOAT), .val (.ref w_FLOAT)] [(.int (1 : Int32))])) _
        exact retN X67 hx (t := .boolean) Bd.returns (by simp) (hb hby at_60) hr
      · show Q_0 Z j0 k0 w_OBJECT w_INT w_BOOLEAN w_BYTE w_CHAR w_FLOAT w_DOUBLE w_LONG w_SHORT w_BY_CODE cl_BY_CODE w_CODES cl_CODES h0 n0 _ T67.heap _
        rw [e67]
        exact ⟨rfl, N67⟩
    by_cases ht6 : ((((k0 >>> ((1 : Int32) &&& 31)) &&& (15 : Int32)) - (4 : Int32)).toInt64) = (6 : Int64)
    · have hq : (own_of ((((k0 >>> ((1 : Int32) &&& 31)) &&& (15 : Int32)) - (4 : Int32)).toInt64) w_OBJECT w_INT w_BOOLEAN w_BYTE w_CHAR w_FLOAT w_DOUBLE w_LONG w_SHORT) = .ref w_DOUBLE := by rw [own_of, if_neg ht0, if_neg ht1, if_neg ht2, if_neg ht3, if_neg ht4, if_neg ht5, if_pos ht6]
      rw [hq] at pre56
      obtain ⟨v69, _, ⟨T69, L69, k69, n69⟩, -, X69, ⟨Lc69, hQ69, l69, y69, z69⟩, st69⟩ := Jvm.LawKit.callS X55 hx (y := (⟨"com/example/heapscribe/heapscribe/Bmd", "typeCode", "(Lcom/example/heapscribe/heapscribe/Hprof$BasicType;)I"⟩ : MethodName)) hown (mvT hZ (hw _ (List.mem_of_getElem? (i := 20) rfl))) (mvT hZ (hw _ (List.mem_of_getElem? (i := 21) rfl))) (mvT hZ (hw _ (List.mem_of_getElem? (i := 2) rfl))) (mvT hZ (hw _ (List.mem_of_getElem? (i := 22) rfl))) (by decide) (backOf (W := 0) (rm_3 l Z a0 hw [] w_DOUBLE (4 : Int32) (6 : Int32) w_CODES cl_CODES h0 n0 Z0 F_DOUBLE_ordinal E_DOUBLE S_CODES Ar_CODES (inb_of (show cl_CODES.slots.size = (9 : Int32).toNatClampNeg from Z_CODES) ⟨by decide, by decide⟩) el_CODES_4) hZ (hw _ (List.mem_of_getElem? (i := 22) rfl)) (hw _ (List.mem_of_getElem? (i := 2) rfl)) (by decide) (by decide)) (g := (mkF m 48 #[.val (.long j0), .second, .val (.int k0), .val (.long ((((k0 >>> ((1 : Int32) &&& 31)) &&& (15 : Int32)) - (4 : Int32)).toInt64)), .second, .val (.ref w_DOUBLE), .val (.ref w_DOUBLE)] [(.ref w_DOUBLE)])) rfl (by rw [hml]; rfl) (argsL := [(.ref w_DOUBLE)]) (rest := []) (lenOf pd_2 rfl) rfl (by show 2 * 0 + _ ≤ _; exact Nat.le_of_eq rfl) (hb hby at_48) (fun _ _ => ⟨rfl, e55, (by decide : 0 + 0 ≤ _), (by decide : 0 + 0 ≤ _)⟩)
      dsimp only [Pt.U, Pt.locs, Pt.cells, Pt.slots] at X69 l69 y69 z69 st69 hQ69
      subst l69 y69 z69
      obtain ⟨hv69, N69q, e69⟩ := hQ69
      have N69 := Fr.app N55 N69q
      subst hv69
      have pre70 : ∀ t_, Steps p.tables e below (T69.setTop (mkF m 60 #[.val (.long j0), .second, .val (.int k0), .val (.long ((((k0 >>> ((1 : Int32) &&& 31)) &&& (15 : Int32)) - (4 : Int32)).toInt64)), .second, .val (.ref w_DOUBLE), .val (.ref w_DOUBLE)] [(.int (1 : Int32))])) t_ → Steps p.tables e below (s₁.setTop (entryFrame m #[(.long j0), (.int k0)] maxLocals)) t_ := fun t_ k_ => pre56 t_ (by
        show Steps p.tables e below (T55.setTop (mkF m 41 #[.val (.long j0), .second, .val (.int k0), .val (.long ((((k0 >>> ((1 : Int32) &&& 31)) &&& (15 : Int32)) - (4 : Int32)).toInt64)), .second, .val (.ref w_DOUBLE), .val (.ref w_DOUBLE)] [])) _
        refine XS.aload X55.here hx rfl (hb hby at_41) rfl rfl ?_
        show Steps p.tables e below (T55.setTop (mkF m 43 #[.val (.long j0), .second, .val (.int k0), .val (.long ((((k0 >>> ((1 : Int32) &&& 31)) &&& (15 : Int32)) - (4 : Int32)).toInt64)), .second, .val (.ref w_DOUBLE), .val (.ref w_DOUBLE)] [(.ref w_DOUBLE)])) _
        refine XS.ifnullNo X55.here hx rfl (hb hby at_43) rfl ?_
        show Steps p.tables e below (T55.setTop (mkF m 46 #[.val (.long j0), .second, .val (.int k0), .val (.long ((((k0 >>> ((1 : Int32) &&& 31)) &&& (15 : Int32)) - (4 : Int32)).toInt64)), .second, .val (.ref w_DOUBLE), .val (.ref w_DOUBLE)] [])) _
        refine XS.aload X55.here hx rfl (hb hby at_46) rfl rfl ?_
        show Steps p.tables e below (T55.setTop (mkF m 48 #[.val (.long j0), .second, .val (.int k0), .val (.long ((((k0 >>> ((1 : Int32) &&& 31)) &&& (15 : Int32)) - (4 : Int32)).toInt64)), .second, .val (.ref w_DOUBLE), .val (.ref w_DOUBLE)] [(.ref w_DOUBLE)])) _
        refine st69 _ ?_
        show Steps p.tables e below (T69.setTop (mkF m 51 #[.val (.long j0), .second, .val (.int k0), .val (.long ((((k0 >>> ((1 : Int32) &&& 31)) &&& (15 : Int32)) - (4 : Int32)).toInt64)), .second, .val (.ref w_DOUBLE), .val (.ref w_DOUBLE)] [(.int (6 : Int32))])) _
        refine XS.i2l X69.here hx rfl (hb hby at_51) rfl ?_
        show Steps p.tables e below (T69.setTop (mkF m 52 #[.val (.long j0), .second, .val (.int k0), .val (.long ((((k0 >>> ((1 : Int32) &&& 31)) &&& (15 : Int32)) - (4 : Int32)).toInt64)), .second, .val (.ref w_DOUBLE), .val (.ref w_DOUBLE)] [(.long ((6 : Int32).toInt64))])) _
        refine XS.lloadN X69.here hx rfl (hb hby at_52) rfl ?_
        show Steps p.tables e below (T69.setTop (mkF m 53 #[.val (.long j0), .second, .val (.int k0), .val (.long ((((k0 >>> ((1 : Int32) &&& 31)) &&& (15 : Int32)) - (4 : Int32)).toInt64)), .second, .val (.ref w_DOUBLE), .val (.ref w_DOUBLE)] [(.long ((((k0 >>> ((1 : Int32) &&& 31)) &&& (15 : Int32)) - (4 : Int32)).toInt64)), (.long ((6 : Int32).toInt64))])) _
        refine XS.lcmp X69.here hx rfl (hb hby at_53) rfl ?_
        show Steps p.tables e below (T69.setTop (mkF m 54 #[.val (.long j0), .second, .val (.int k0), .val (.long ((((k0 >>> ((1 : Int32) &&& 31)) &&& (15 : Int32)) - (4 : Int32)).toInt64)), .second, .val (.ref w_DOUBLE), .val (.ref w_DOUBLE)] [(.int (lcmpW ((6 : Int32).toInt64) ((((k0 >>> ((1 : Int32) &&& 31)) &&& (15 : Int32)) - (4 : Int32)).toInt64)))])) _
        refine XS.ifYes X69.here hx rfl (pc0 := 54) (pc' := 59) rfl (hb hby at_54) rfl ((if0 _ _).trans (teq ((lw_eq ((6 : Int32).toInt64) ((((k0 >>> ((1 : Int32) &&& 31)) &&& (15 : Int32)) - (4 : Int32)).toInt64)).mpr (Eq.trans (by decide) ht6.symm))).1) (by decide) (by decide) ?_
        show Steps p.tables e below (T69.setTop (mkF m 59 #[.val (.long j0), .second, .val (.int k0), .val (.long ((((k0 >>> ((1 : Int32) &&& 31)) &&& (15 : Int32)) - (4 : Int32)).toInt64)), .second, .val (.ref w_DOUBLE), .val (.ref w_DOUBLE)] [])) _
        refine XS.iconst X69.here hx rfl (hb hby at_59) ?_
        show Steps p.tables e below (T69.setTop (mkF m 60 #[.val (.long j0), .second, .val (.int k0), .val (.long ((((k0 >>> ((1 : Int32) &&& 31)) &&& (15 : Int32)) - (4 : Int32)).toInt64)), .second, .val (.ref w_DOUBLE), .val (.ref w_DOUBLE)] [(.int (1 : Int32))])) _
        exact k_)
      obtain ⟨fs, hr, hrun, hended, hW, hsame⟩ := X69.leave (v := some (.int (1 : Int32))) (fun h => by rw [Bd.returns] at h; cases h)
      refine ⟨_, _, pre70 _ ?_, hrun, hended, _, _, rfl, ?_, ⟨_, rfl⟩, hW, hsame.mono (by decide) (by decide)⟩
      · show Steps p.tables e below (T69.setTop (mkF m 60 #[.val (.long j0), .second, .val (.int k0), .val (.long ((((k0 >>> ((1 : Int32) &&& 31)) &&& (15 : Int32)) - (4 : Int32)).toInt64)), .second, .val (.ref w_DOUBLE), .val (.ref w_DOUBLE)] [(.int (1 : Int32))])) _
        exact retN X69 hx (t := .boolean) Bd.returns (by simp) (hb hby at_60) hr
      · show Q_0 Z j0 k0 w_OBJECT w_INT w_BOOLEAN w_BYTE w_CHAR w_FLOAT w_DOUBLE w_LONG w_SHORT w_BY_CODE cl_BY_CODE w_CODES cl_CODES h0 n0 _ T69.heap _
        rw [e69]
        exact ⟨rfl, N69⟩
    by_cases ht7 : ((((k0 >>> ((1 : Int32) &&& 31)) &&& (15 : Int32)) - (4 : Int32)).toInt64) = (7 : Int64)
    · have hq : (own_of ((((k0 >>> ((1 : Int32) &&& 31)) &&& (15 : Int32)) - (4 : Int32)).toInt64) w_OBJECT w_INT w_BOOLEAN w_BYTE w_CHAR w_FLOAT w_DOUBLE w_LONG w_SHORT) = .ref w_LONG := by rw [own_of, if_neg ht0, if_neg ht1, if_neg ht2, if_neg ht3, if_neg ht4, if_neg ht5, if_neg ht6, if_pos ht7]
      rw [hq] at pre56
      obtain ⟨v71, _, ⟨T71, L71, k71, n71⟩, -, X71, ⟨Lc71, hQ71, l71, y71, z71⟩, st71⟩ := Jvm.LawKit.callS X55 hx (y := (⟨"com/example/heapscribe/heapscribe/Bmd", "typeCode", "(Lcom/example/heapscribe/heapscribe/Hprof$BasicType;)I"⟩ : MethodName)) hown (mvT hZ (hw _ (List.mem_of_getElem? (i := 20) rfl))) (mvT hZ (hw _ (List.mem_of_getElem? (i := 21) rfl))) (mvT hZ (hw _ (List.mem_of_getElem? (i := 2) rfl))) (mvT hZ (hw _ (List.mem_of_getElem? (i := 22) rfl))) (by decide) (backOf (W := 0) (rm_3 l Z a0 hw [] w_LONG (8 : Int32) (7 : Int32) w_CODES cl_CODES h0 n0 Z0 F_LONG_ordinal E_LONG S_CODES Ar_CODES (inb_of (show cl_CODES.slots.size = (9 : Int32).toNatClampNeg from Z_CODES) ⟨by decide, by decide⟩) el_CODES_8) hZ (hw _ (List.mem_of_getElem? (i := 22) rfl)) (hw _ (List.mem_of_getElem? (i := 2) rfl)) (by decide) (by decide)) (g := (mkF m 48 #[.val (.long j0), .second, .val (.int k0), .val (.long ((((k0 >>> ((1 : Int32) &&& 31)) &&& (15 : Int32)) - (4 : Int32)).toInt64)), .second, .val (.ref w_LONG), .val (.ref w_LONG)] [(.ref w_LONG)])) rfl (by rw [hml]; rfl) (argsL := [(.ref w_LONG)]) (rest := []) (lenOf pd_2 rfl) rfl (by show 2 * 0 + _ ≤ _; exact Nat.le_of_eq rfl) (hb hby at_48) (fun _ _ => ⟨rfl, e55, (by decide : 0 + 0 ≤ _), (by decide : 0 + 0 ≤ _)⟩)
      dsimp only [Pt.U, Pt.locs, Pt.cells, Pt.slots] at X71 l71 y71 z71 st71 hQ71
      subst l71 y71 z71
      obtain ⟨hv71, N71q, e71⟩ := hQ71
      have N71 := Fr.app N55 N71q
      subst hv71
      have pre72 : ∀ t_, Steps p.tables e below (T71.setTop (mkF m 60 #[.val (.long j0), .second, .val (.int k0), .val (.long ((((k0 >>> ((1 : Int32) &&& 31)) &&& (15 : Int32)) - (4 : Int32)).toInt64)), .second, .val (.ref w_LONG), .val (.ref w_LONG)] [(.int (1 : Int32))])) t_ → Steps p.tables e below (s₁.setTop (entryFrame m #[(.long j0), (.int k0)] maxLocals)) t_ := fun t_ k_ => pre56 t_ (by
        show Steps p.tables e below (T55.setTop (mkF m 41 #[.val (.long j0), .second, .val (.int k0), .val (.long ((((k0 >>> ((1 : Int32) &&& 31)) &&& (15 : Int32)) - (4 : Int32)).toInt64)), .second, .val (.ref w_LONG), .val (.ref w_LONG)] [])) _
        refine XS.aload X55.here hx rfl (hb hby at_41) rfl rfl ?_
        show Steps p.tables e below (T55.setTop (mkF m 43 #[.val (.long j0), .second, .val (.int k0), .val (.long ((((k0 >>> ((1 : Int32) &&& 31)) &&& (15 : Int32)) - (4 : Int32)).toInt64)), .second, .val (.ref w_LONG), .val (.ref w_LONG)] [(.ref w_LONG)])) _
        refine XS.ifnullNo X55.here hx rfl (hb hby at_43) rfl ?_
        show Steps p.tables e below (T55.setTop (mkF m 46 #[.val (.long j0), .second, .val (.int k0), .val (.long ((((k0 >>> ((1 : Int32) &&& 31)) &&& (15 : Int32)) - (4 : Int32)).toInt64)), .second, .val (.ref w_LONG), .val (.ref w_LONG)] [])) _
        refine XS.aload X55.here hx rfl (hb hby at_46) rfl rfl ?_
        show Steps p.tables e below (T55.setTop (mkF m 48 #[.val (.long j0), .second, .val (.int k0), .val (.long ((((k0 >>> ((1 : Int32) &&& 31)) &&& (15 : Int32)) - (4 : Int32)).toInt64)), .second, .val (.ref w_LONG), .val (.ref w_LONG)] [(.ref w_LONG)])) _
        refine st71 _ ?_
        show Steps p.tables e below (T71.setTop (mkF m 51 #[.val (.long j0), .second, .val (.int k0), .val (.long ((((k0 >>> ((1 : Int32) &&& 31)) &&& (15 : Int32)) - (4 : Int32)).toInt64)), .second, .val (.ref w_LONG), .val (.ref w_LONG)] [(.int (7 : Int32))])) _
        refine XS.i2l X71.here hx rfl (hb hby at_51) rfl ?_
        show Steps p.tables e below (T71.setTop (mkF m 52 #[.val (.long j0), .second, .val (.int k0), .val (.long ((((k0 >>> ((1 : Int32) &&& 31)) &&& (15 : Int32)) - (4 : Int32)).toInt64)), .second, .val (.ref w_LONG), .val (.ref w_LONG)] [(.long ((7 : Int32).toInt64))])) _
        refine XS.lloadN X71.here hx rfl (hb hby at_52) rfl ?_
        show Steps p.tables e below (T71.setTop (mkF m 53 #[.val (.long j0), .second, .val (.int k0), .val (.long ((((k0 >>> ((1 : Int32) &&& 31)) &&& (15 : Int32)) - (4 : Int32)).toInt64)), .second, .val (.ref w_LONG), .val (.ref w_LONG)] [(.long ((((k0 >>> ((1 : Int32) &&& 31)) &&& (15 : Int32)) - (4 : Int32)).toInt64)), (.long ((7 : Int32).toInt64))])) _
        refine XS.lcmp X71.here hx rfl (hb hby at_53) rfl ?_
        show Steps p.tables e below (T71.setTop (mkF m 54 #[.val (.long j0), .second, .val (.int k0), .val (.long ((((k0 >>> ((1 : Int32) &&& 31)) &&& (15 : Int32)) - (4 : Int32)).toInt64)), .second, .val (.ref w_LONG), .val (.ref w_LONG)] [(.int (lcmpW ((7 : Int32).toInt64) ((((k0 >>> ((1 : Int32) &&& 31)) &&& (15 : Int32)) - (4 : Int32)).toInt64)))])) _
        refine XS.ifYes X71.here hx rfl (pc0 := 54) (pc' := 59) rfl (hb hby at_54) rfl ((if0 _ _).trans (teq ((lw_eq ((7 : Int32).toInt64) ((((k0 >>> ((1 : Int32) &&& 31)) &&& (15 : Int32)) - (4 : Int32)).toInt64)).mpr (Eq.trans (by decide) ht7.symm))).1) (by decide) (by decide) ?_
        show Steps p.tables e below (T71.setTop (mkF m 59 #[.val (.long j0), .second, .val (.int k0), .val (.long ((((k0 >>> ((1 : Int32) &&& 31)) &&& (15 : Int32)) - (4 : Int32)).toInt64)), .second, .val (.ref w_LONG), .val (.ref w_LONG)] [])) _
        refine XS.iconst X71.here hx rfl (hb hby at_59) ?_
        show Steps p.tables e below (T71.setTop (mkF m 60 #[.val (.long j0), .second, .val (.int k0), .val (.long ((((k0 >>> ((1 : Int32) &&& 31)) &&& (15 : Int32)) - (4 : Int32)).toInt64)), .second, .val (.ref w_LONG), .val (.ref w_LONG)] [(.int (1 : Int32))])) _
        exact k_)
      obtain ⟨fs, hr, hrun, hended, hW, hsame⟩ := X71.leave (v := some (.int (1 : Int32))) (fun h => by rw [Bd.returns] at h; cases h)
      refine ⟨_, _, pre72 _ ?_, hrun, hended, _, _, rfl, ?_, ⟨_, rfl⟩, hW, hsame.mono (by decide) (by decide)⟩
      · show Steps p.tables e below (T71.setTop (mkF m 60 #[.val (.long j0), .second, .val (.int k0), .val (.long ((((k0 >>> ((1 : Int32) &&& 31)) &&& (15 : Int32)) - (4 : Int32)).toInt64)), .second, .val (.ref w_LONG), .val (.ref w_LONG)] [(.int (1 : Int32))])) _
        exact retN X71 hx (t := .boolean) Bd.returns (by simp) (hb hby at_60) hr
      · show Q_0 Z j0 k0 w_OBJECT w_INT w_BOOLEAN w_BYTE w_CHAR w_FLOAT w_DOUBLE w_LONG w_SHORT w_BY_CODE cl_BY_CODE w_CODES cl_CODES h0 n0 _ T71.heap _
        rw [e71]
        exact ⟨rfl, N71⟩
    by_cases ht8 : ((((k0 >>> ((1 : Int32) &&& 31)) &&& (15 : Int32)) - (4 : Int32)).toInt64) = (8 : Int64)
    · have hq : (own_of ((((k0 >>> ((1 : Int32) &&& 31)) &&& (15 : Int32)) - (4 : Int32)).toInt64) w_OBJECT w_INT w_BOOLEAN w_BYTE w_CHAR w_FLOAT w_DOUBLE w_LONG w_SHORT) = .ref w_SHORT := by rw [own_of, if_neg ht0, if_neg ht1, if_neg ht2, if_neg ht3, if_neg ht4, if_neg ht5, if_neg ht6, if_neg ht7, if_pos ht8]
      rw [hq] at pre56
      obtain ⟨v73, _, ⟨T73, L73, k73, n73⟩, -, X73, ⟨Lc73, hQ73, l73, y73, z73⟩, st73⟩ := Jvm.LawKit.callS X55 hx (y := (⟨"com/example/heapscribe/heapscribe/Bmd", "typeCode", "(Lcom/example/heapscribe/heapscribe/Hprof$BasicType;)I"⟩ : MethodName)) hown (mvT hZ (hw _ (List.mem_of_getElem? (i := 20) rfl))) (mvT hZ (hw _ (List.mem_of_getElem? (i := 21) rfl))) (mvT hZ (hw _ (List.mem_of_getElem? (i := 2) rfl))) (mvT hZ (hw _ (List.mem_of_getElem? (i := 22) rfl))) (by decide) (backOf (W := 0) (rm_3 l Z a0 hw [] w_SHORT (6 : Int32) (8 : Int32) w_CODES cl_CODES h0 n0 Z0 F_SHORT_ordinal E_SHORT S_CODES Ar_CODES (inb_of (show cl_CODES.slots.size = (9 : Int32).toNatClampNeg from Z_CODES) ⟨by decide, by decide⟩) el_CODES_6) hZ (hw _ (List.mem_of_getElem? (i := 22) rfl)) (hw _ (List.mem_of_getElem? (i := 2) rfl)) (by decide) (by decide)) (g := (mkF m 48 #[.val (.long j0), .second, .val (.int k0), .val (.long ((((k0 >>> ((1 : Int32) &&& 31)) &&& (15 : Int32)) - (4 : Int32)).toInt64)), .second, .val (.ref w_SHORT), .val (.ref w_SHORT)] [(.ref w_SHORT)])) rfl (by rw [hml]; rfl) (argsL := [(.ref w_SHORT)]) (rest := []) (lenOf pd_2 rfl) rfl (by show 2 * 0 + _ ≤ _; exact Nat.le_of_eq rfl) (hb hby at_48) (fun _ _ => ⟨rfl, e55, (by decide : 0 + 0 ≤ _), (by decide : 0 + 0 ≤ _)⟩)
      dsimp only [Pt.U, Pt.locs, Pt.cells, Pt.slots] at X73 l73 y73 z73 st73 hQ73
      subst l73 y73 z73
      obtain ⟨hv73, N73q, e73⟩ := hQ73
      have N73 := Fr.app N55 N73q
      subst hv73
      have pre74 : ∀ t_, Steps p.tables e below (T73.setTop (mkF m 60 #[.val (.long j0), .second, .val (.int k0), .val (.long ((((k0 >>> ((1 : Int32) &&& 31)) &&& (15 : Int32)) - (4 : Int32)).toInt64)), .second, .val (.ref w_SHORT), .val (.ref w_SHORT)] [(.int (1 : Int32))])) t_ → Steps p.tables e below (s₁.setTop (entryFrame m #[(.long j0), (.int k0)] maxLocals)) t_ := fun t_ k_ => pre56 t_ (by
        show Steps p.tables e below (T55.setTop (mkF m 41 #[.val (.long j0), .second, .val (.int k0), .val (.long ((((k0 >>> ((1 : Int32) &&& 31)) &&& (15 : Int32)) - (4 : Int32)).toInt64)), .second, .val (.ref w_SHORT), .val (.ref w_SHORT)] [])) _
        refine XS.aload X55.here hx rfl (hb hby at_41) rfl rfl ?_
        show Steps p.tables e below (T55.setTop (mkF m 43 #[.val (.long j0), .second, .val (.int k0), .val (.long ((((k0 >>> ((1 : Int32) &&& 31)) &&& (15 : Int32)) - (4 : Int32)).toInt64)), .second, .val (.ref w_SHORT), .val (.ref w_SHORT)] [(.ref w_SHORT)])) _
        refine XS.ifnullNo X55.here hx rfl (hb hby at_43) rfl ?_
        show Steps p.tables e below (T55.setTop (mkF m 46 #[.val (.long j0), .second, .val (.int k0), .val (.long ((((k0 >>> ((1 : Int32) &&& 31)) &&& (15 : Int32)) - (4 : Int32)).toInt64)), .second, .val (.ref w_SHORT), .val (.ref w_SHORT)] [])) _
        refine XS.aload X55.here hx rfl (hb hby at_46) rfl rfl ?_
        show Steps p.tables e below (T55.setTop (mkF m 48 #[.val (.long j0), .second, .val (.int k0), .val (.long ((((k0 >>> ((1 : Int32) &&& 31)) &&& (15 : Int32)) - (4 : Int32)).toInt64)), .second, .val (.ref w_SHORT), .val (.ref w_SHORT)] [(.ref w_SHORT)])) _
        refine st73 _ ?_
        show Steps p.tables e below (T73.setTop (mkF m 51 #[.val (.long j0), .second, .val (.int k0), .val (.long ((((k0 >>> ((1 : Int32) &&& 31)) &&& (15 : Int32)) - (4 : Int32)).toInt64)), .second, .val (.ref w_SHORT), .val (.ref w_SHORT)] [(.int (8 : Int32))])) _
        refine XS.i2l X73.here hx rfl (hb hby at_51) rfl ?_
        show Steps p.tables e below (T73.setTop (mkF m 52 #[.val (.long j0), .second, .val (.int k0), .val (.long ((((k0 >>> ((1 : Int32) &&& 31)) &&& (15 : Int32)) - (4 : Int32)).toInt64)), .second, .val (.ref w_SHORT), .val (.ref w_SHORT)] [(.long ((8 : Int32).toInt64))])) _
        refine XS.lloadN X73.here hx rfl (hb hby at_52) rfl ?_
        show Steps p.tables e below (T73.setTop (mkF m 53 #[.val (.long j0), .second, .val (.int k0), .val (.long ((((k0 >>> ((1 : Int32) &&& 31)) &&& (15 : Int32)) - (4 : Int32)).toInt64)), .second, .val (.ref w_SHORT), .val (.ref w_SHORT)] [(.long ((((k0 >>> ((1 : Int32) &&& 31)) &&& (15 : Int32)) - (4 : Int32)).toInt64)), (.long ((8 : Int32).toInt64))])) _
        refine XS.lcmp X73.here hx rfl (hb hby at_53) rfl ?_
        show Steps p.tables e below (T73.setTop (mkF m 54 #[.val (.long j0), .second, .val (.int k0), .val (.long ((((k0 >>> ((1 : Int32) &&& 31)) &&& (15 : Int32)) - (4 : Int32)).toInt64)), .second, .val (.ref w_SHORT), .val (.ref w_SHORT)] [(.int (lcmpW ((8 : Int32).toInt64) ((((k0 >>> ((1 : Int32) &&& 31)) &&& (15 : Int32)) - (4 : Int32)).toInt64)))])) _
        refine XS.ifYes X73.here hx rfl (pc0 := 54) (pc' := 59) rfl (hb hby at_54) rfl ((if0 _ _).trans (teq ((lw_eq ((8 : Int32).toInt64) ((((k0 >>> ((1 : Int32) &&& 31)) &&& (15 : Int32)) - (4 : Int32)).toInt64)).mpr (Eq.trans (by decide) ht8.symm))).1) (by decide) (by decide) ?_
        show Steps p.tables e below (T73.setTop (mkF m 59 #[.val (.long j0), .second, .val (.int k0), .val (.long ((((k0 >>> ((1 : Int32) &&& 31)) &&& (15 : Int32)) - (4 : Int32)).toInt64)), .second, .val (.ref w_SHORT), .val (.ref w_SHORT)] [])) _
        refine XS.iconst X73.here hx rfl (hb hby at_59) ?_
        show Steps p.tables e below (T73.setTop (mkF m 60 #[.val (.long j0), .second, .val (.int k0), .val (.long ((((k0 >>> ((1 : Int32) &&& 31)) &&& (15 : Int32)) - (4 : Int32)).toInt64)), .second, .val (.ref w_SHORT), .val (.ref w_SHORT)] [(.int (1 : Int32))])) _
        exact k_)
      obtain ⟨fs, hr, hrun, hended, hW, hsame⟩ := X73.leave (v := some (.int (1 : Int32))) (fun h => by rw [Bd.returns] at h; cases h)
      refine ⟨_, _, pre74 _ ?_, hrun, hended, _, _, rfl, ?_, ⟨_, rfl⟩, hW, hsame.mono (by decide) (by decide)⟩
      · show Steps p.tables e below (T73.setTop (mkF m 60 #[.val (.long j0), .second, .val (.int k0), .val (.long ((((k0 >>> ((1 : Int32) &&& 31)) &&& (15 : Int32)) - (4 : Int32)).toInt64)), .second, .val (.ref w_SHORT), .val (.ref w_SHORT)] [(.int (1 : Int32))])) _
        exact retN X73 hx (t := .boolean) Bd.returns (by simp) (hb hby at_60) hr
      · show Q_0 Z j0 k0 w_OBJECT w_INT w_BOOLEAN w_BYTE w_CHAR w_FLOAT w_DOUBLE w_LONG w_SHORT w_BY_CODE cl_BY_CODE w_CODES cl_CODES h0 n0 _ T73.heap _
        rw [e73]
        exact ⟨rfl, N73⟩
    have hq : (own_of ((((k0 >>> ((1 : Int32) &&& 31)) &&& (15 : Int32)) - (4 : Int32)).toInt64) w_OBJECT w_INT w_BOOLEAN w_BYTE w_CHAR w_FLOAT w_DOUBLE w_LONG w_SHORT) = .null := by rw [own_of, if_neg ht0, if_neg ht1, if_neg ht2, if_neg ht3, if_neg ht4, if_neg ht5, if_neg ht6, if_neg ht7, if_neg ht8]
    rw [hq] at pre56
    have pre75 : ∀ t_, Steps p.tables e below (T55.setTop (mkF m 60 #[.val (.long j0), .second, .val (.int k0), .val (.long ((((k0 >>> ((1 : Int32) &&& 31)) &&& (15 : Int32)) - (4 : Int32)).toInt64)), .second, .val .null, .val .null] [(.int (1 : Int32))])) t_ → Steps p.tables e below (s₁.setTop (entryFrame m #[(.long j0), (.int k0)] maxLocals)) t_ := fun t_ k_ => pre56 t_ (by
      show Steps p.tables e below (T55.setTop (mkF m 41 #[.val (.long j0), .second, .val (.int k0), .val (.long ((((k0 >>> ((1 : Int32) &&& 31)) &&& (15 : Int32)) - (4 : Int32)).toInt64)), .second, .val .null, .val .null] [])) _
      refine XS.aload X55.here hx rfl (hb hby at_41) rfl rfl ?_
      show Steps p.tables e below (T55.setTop (mkF m 43 #[.val (.long j0), .second, .val (.int k0), .val (.long ((((k0 >>> ((1 : Int32) &&& 31)) &&& (15 : Int32)) - (4 : Int32)).toInt64)), .second, .val .null, .val .null] [.null])) _
      refine XS.ifnullYes X55.here hx rfl (pc0 := 43) (pc' := 59) rfl (hb hby at_43) rfl (by decide) (by decide) ?_
      show Steps p.tables e below (T55.setTop (mkF m 59 #[.val (.long j0), .second, .val (.int k0), .val (.long ((((k0 >>> ((1 : Int32) &&& 31)) &&& (15 : Int32)) - (4 : Int32)).toInt64)), .second, .val .null, .val .null] [])) _
      refine XS.iconst X55.here hx rfl (hb hby at_59) ?_
      show Steps p.tables e below (T55.setTop (mkF m 60 #[.val (.long j0), .second, .val (.int k0), .val (.long ((((k0 >>> ((1 : Int32) &&& 31)) &&& (15 : Int32)) - (4 : Int32)).toInt64)), .second, .val .null, .val .null] [(.int (1 : Int32))])) _
      exact k_)
    obtain ⟨fs, hr, hrun, hended, hW, hsame⟩ := X55.leave (v := some (.int (1 : Int32))) (fun h => by rw [Bd.returns] at h; cases h)
    refine ⟨_, _, pre75 _ ?_, hrun, hended, _, _, rfl, ?_, ⟨_, rfl⟩, hW, hsame.mono (by decide) (by decide)⟩
    · show Steps p.tables e below (T55.setTop (mkF m 60 #[.val (.long j0), .second, .val (.int k0), .val (.long ((((k0 >>> ((1 : Int32) &&& 31)) &&& (15 : Int32)) - (4 : Int32)).toInt64)), .second, .val .null, .val .null] [(.int (1 : Int32))])) _
      exact retN X55 hx (t := .boolean) Bd.returns (by simp) (hb hby at_60) hr
    · show Q_0 Z j0 k0 w_OBJECT w_INT w_BOOLEAN w_BYTE w_CHAR w_FLOAT w_DOUBLE w_LONG w_SHORT w_BY_CODE cl_BY_CODE w_CODES cl_CODES h0 n0 _ T55.heap _
      rw [e55]
      exact ⟨rfl, N55⟩
  · obtain ⟨v76, _, ⟨T76, L76, k76, n76⟩, -, X76, ⟨Lc76, hQ76, l76, y76, z76⟩, st76⟩ := Jvm.LawKit.callS X0 hx (y := (⟨"com/example/heapscribe/heapscribe/Bmd", "type", "(J)Lcom/example/heapscribe/heapscribe/Hprof$BasicType;"⟩ : MethodName)) hown (mvT hZ (hw _ (List.mem_of_getElem? (i := 0) rfl))) (mvT hZ (hw _ (List.mem_of_getElem? (i := 1) rfl))) (mvT hZ (hw _ (List.mem_of_getElem? (i := 2) rfl))) (mvT hZ (hw _ (List.mem_of_getElem? (i := 3) rfl))) (by decide) (backOf (W := 0) (rm_1 l Z a0 hw [] j0 w_OBJECT w_INT w_BOOLEAN w_BYTE w_CHAR w_FLOAT w_DOUBLE w_LONG w_SHORT w_BY_CODE cl_BY_CODE h0 n0 Z0 S_BY_CODE Ar_BY_CODE Z_BY_CODE hat) hZ (hw _ (List.mem_of_getElem? (i := 3) rfl)) (hw _ (List.mem_of_getElem? (i := 2) rfl)) (by decide) (by decide)) (g := (mkF m 21 #[.val (.long j0), .second, .val (.int k0), .val (.long j0), .second, .unset, .unset] [(.long j0)])) rfl (by rw [hml]; rfl) (argsL := [(.long j0)]) (rest := []) (lenOf pd_1 rfl) rfl (by show 2 * 0 + _ ≤ _; exact Nat.le_of_eq rfl) (hb hby at_21) (fun _ _ => ⟨rfl, e0, (by decide : 0 + 0 ≤ _), (by decide : 0 + 0 ≤ _)⟩)
    dsimp only [Pt.U, Pt.locs, Pt.cells, Pt.slots] at X76 l76 y76 z76 st76 hQ76
    subst l76 y76 z76
    obtain ⟨hv76, N76q, e76⟩ := hQ76
    have N76 := Fr.app N0 N76q
    subst hv76
    obtain ⟨v77, _, ⟨T77, L77, k77, n77⟩, -, X77, ⟨Lc77, hQ77, l77, y77, z77⟩, st77⟩ := Jvm.LawKit.callS X76 hx (y := (⟨"com/example/heapscribe/heapscribe/BmdTypePinLaw", "expected", "(J)Lcom/example/heapscribe/heapscribe/Hprof$BasicType;"⟩ : MethodName)) hown (mvT hZ (hw _ (List.mem_of_getElem? (i := 4) rfl))) (mvT hZ (hw _ (List.mem_of_getElem? (i := 5) rfl))) (mvT hZ (hw _ (List.mem_of_getElem? (i := 6) rfl))) (mvT hZ (hw _ (List.mem_of_getElem? (i := 7) rfl))) (by decide) (backOf (W := 0) (rm_2 l Z a0 hw [] j0 w_OBJECT w_INT w_BOOLEAN w_BYTE w_CHAR w_FLOAT w_DOUBLE w_LONG w_SHORT h0 n0 Z0 S_OBJECT S_INT S_BOOLEAN S_BYTE S_CHAR S_FLOAT S_DOUBLE S_LONG S_SHORT) hZ (hw _ (List.mem_of_getElem? (i := 7) rfl)) (hw _ (List.mem_of_getElem? (i := 6) rfl)) (by decide) (by decide)) (g := (mkF m 27 #[.val (.long j0), .second, .val (.int k0), .val (.long j0), .second, .val (own_of j0 w_OBJECT w_INT w_BOOLEAN w_BYTE w_CHAR w_FLOAT w_DOUBLE w_LONG w_SHORT), .unset] [(.long j0)])) rfl (by rw [hml]; rfl) (argsL := [(.long j0)]) (rest := []) (lenOf pd_1 rfl) rfl (by show 2 * 0 + _ ≤ _; exact Nat.le_of_eq rfl) (hb hby at_27) (fun _ _ => ⟨rfl, e76, (by decide : 0 + 0 ≤ _), (by decide : 0 + 0 ≤ _)⟩)
    dsimp only [Pt.U, Pt.locs, Pt.cells, Pt.slots] at X77 l77 y77 z77 st77 hQ77
    subst l77 y77 z77
    obtain ⟨hv77, N77q, e77⟩ := hQ77
    have N77 := Fr.app N76 N77q
    subst hv77
    have pre78 : ∀ t_, Steps p.tables e below (T77.setTop (mkF m 41 #[.val (.long j0), .second, .val (.int k0), .val (.long j0), .second, .val (own_of j0 w_OBJECT w_INT w_BOOLEAN w_BYTE w_CHAR w_FLOAT w_DOUBLE w_LONG w_SHORT), .val (own_of j0 w_OBJECT w_INT w_BOOLEAN w_BYTE w_CHAR w_FLOAT w_DOUBLE w_LONG w_SHORT)] [])) t_ → Steps p.tables e below (s₁.setTop (entryFrame m #[(.long j0), (.int k0)] maxLocals)) t_ := fun t_ k_ => pre52 t_ (by
      show Steps p.tables e below (s₁.setTop (mkF m 3 #[.val (.long j0), .second, .val (.int k0), .unset, .unset, .unset, .unset] [(.int (k0 &&& (1 : Int32)))])) _
      refine XS.ifNo X0.here hx rfl (hb hby at_3) rfl ((if0 _ _).trans (feq hc3_53).1) ?_
      show Steps p.tables e below (s₁.setTop (mkF m 6 #[.val (.long j0), .second, .val (.int k0), .unset, .unset, .unset, .unset] [])) _
      refine XS.lloadN X0.here hx rfl (hb hby at_6) rfl ?_
      show Steps p.tables e below (s₁.setTop (mkF m 7 #[.val (.long j0), .second, .val (.int k0), .unset, .unset, .unset, .unset] [(.long j0)])) _
      refine XS.goto X0.here hx rfl (pc0 := 7) (pc' := 19) rfl (hb hby at_7) (by decide) (by decide) ?_
      show Steps p.tables e below (s₁.setTop (mkF m 19 #[.val (.long j0), .second, .val (.int k0), .unset, .unset, .unset, .unset] [(.long j0)])) _
      refine XS.lstoreN X0.here hx rfl (hb hby at_19) rfl (l' := #[.val (.long j0), .second, .val (.int k0), .val (.long j0), .second, .unset, .unset]) rfl ?_
      show Steps p.tables e below (s₁.setTop (mkF m 20 #[.val (.long j0), .second, .val (.int k0), .val (.long j0), .second, .unset, .unset] [])) _
      refine XS.lloadN X0.here hx rfl (hb hby at_20) rfl ?_
      show Steps p.tables e below (s₁.setTop (mkF m 21 #[.val (.long j0), .second, .val (.int k0), .val (.long j0), .second, .unset, .unset] [(.long j0)])) _
      refine st76 _ ?_
      show Steps p.tables e below (T76.setTop (mkF m 24 #[.val (.long j0), .second, .val (.int k0), .val (.long j0), .second, .unset, .unset] [(own_of j0 w_OBJECT w_INT w_BOOLEAN w_BYTE w_CHAR w_FLOAT w_DOUBLE w_LONG w_SHORT)])) _
      refine XS.astoreS X76.here hx rfl (hb hby at_24) rfl (own_of_ref j0 w_OBJECT w_INT w_BOOLEAN w_BYTE w_CHAR w_FLOAT w_DOUBLE w_LONG w_SHORT) (Jvm.Free.XT.cat1 (own_of_ref j0 w_OBJECT w_INT w_BOOLEAN w_BYTE w_CHAR w_FLOAT w_DOUBLE w_LONG w_SHORT)) rfl (Or.inl rfl) ?_
      show Steps p.tables e below (T76.setTop (mkF m 26 #[.val (.long j0), .second, .val (.int k0), .val (.long j0), .second, .val (own_of j0 w_OBJECT w_INT w_BOOLEAN w_BYTE w_CHAR w_FLOAT w_DOUBLE w_LONG w_SHORT), .unset] [])) _
      refine XS.lloadN X76.here hx rfl (hb hby at_26) rfl ?_
      show Steps p.tables e below (T76.setTop (mkF m 27 #[.val (.long j0), .second, .val (.int k0), .val (.long j0), .second, .val (own_of j0 w_OBJECT w_INT w_BOOLEAN w_BYTE w_CHAR w_FLOAT w_DOUBLE w_LONG w_SHORT), .unset] [(.long j0)])) _
      refine st77 _ ?_
      show Steps p.tables e below (T77.setTop (mkF m 30 #[.val (.long j0), .second, .val (.int k0), .val (.long j0), .second, .val (own_of j0 w_OBJECT w_INT w_BOOLEAN w_BYTE w_CHAR w_FLOAT w_DOUBLE w_LONG w_SHORT), .unset] [(own_of j0 w_OBJECT w_INT w_BOOLEAN w_BYTE w_CHAR w_FLOAT w_DOUBLE w_LONG w_SHORT)])) _
      refine XS.astoreS X77.here hx rfl (hb hby at_30) rfl (own_of_ref j0 w_OBJECT w_INT w_BOOLEAN w_BYTE w_CHAR w_FLOAT w_DOUBLE w_LONG w_SHORT) (Jvm.Free.XT.cat1 (own_of_ref j0 w_OBJECT w_INT w_BOOLEAN w_BYTE w_CHAR w_FLOAT w_DOUBLE w_LONG w_SHORT)) rfl (Or.inl rfl) ?_
      show Steps p.tables e below (T77.setTop (mkF m 32 #[.val (.long j0), .second, .val (.int k0), .val (.long j0), .second, .val (own_of j0 w_OBJECT w_INT w_BOOLEAN w_BYTE w_CHAR w_FLOAT w_DOUBLE w_LONG w_SHORT), .val (own_of j0 w_OBJECT w_INT w_BOOLEAN w_BYTE w_CHAR w_FLOAT w_DOUBLE w_LONG w_SHORT)] [])) _
      refine XS.aload X77.here hx rfl (hb hby at_32) rfl (own_of_ref j0 w_OBJECT w_INT w_BOOLEAN w_BYTE w_CHAR w_FLOAT w_DOUBLE w_LONG w_SHORT) ?_
      show Steps p.tables e below (T77.setTop (mkF m 34 #[.val (.long j0), .second, .val (.int k0), .val (.long j0), .second, .val (own_of j0 w_OBJECT w_INT w_BOOLEAN w_BYTE w_CHAR w_FLOAT w_DOUBLE w_LONG w_SHORT), .val (own_of j0 w_OBJECT w_INT w_BOOLEAN w_BYTE w_CHAR w_FLOAT w_DOUBLE w_LONG w_SHORT)] [(own_of j0 w_OBJECT w_INT w_BOOLEAN w_BYTE w_CHAR w_FLOAT w_DOUBLE w_LONG w_SHORT)])) _
      refine XS.aload X77.here hx rfl (hb hby at_34) rfl (own_of_ref j0 w_OBJECT w_INT w_BOOLEAN w_BYTE w_CHAR w_FLOAT w_DOUBLE w_LONG w_SHORT) ?_
      show Steps p.tables e below (T77.setTop (mkF m 36 #[.val (.long j0), .second, .val (.int k0), .val (.long j0), .second, .val (own_of j0 w_OBJECT w_INT w_BOOLEAN w_BYTE w_CHAR w_FLOAT w_DOUBLE w_LONG w_SHORT), .val (own_of j0 w_OBJECT w_INT w_BOOLEAN w_BYTE w_CHAR w_FLOAT w_DOUBLE w_LONG w_SHORT)] [(own_of j0 w_OBJECT w_INT w_BOOLEAN w_BYTE w_CHAR w_FLOAT w_DOUBLE w_LONG w_SHORT), (own_of j0 w_OBJECT w_INT w_BOOLEAN w_BYTE w_CHAR w_FLOAT w_DOUBLE w_LONG w_SHORT)])) _
      refine Jvm.RoadKit.acmp (g := (mkF m 36 #[.val (.long j0), .second, .val (.int k0), .val (.long j0), .second, .val (own_of j0 w_OBJECT w_INT w_BOOLEAN w_BYTE w_CHAR w_FLOAT w_DOUBLE w_LONG w_SHORT), .val (own_of j0 w_OBJECT w_INT w_BOOLEAN w_BYTE w_CHAR w_FLOAT w_DOUBLE w_LONG w_SHORT)] [(own_of j0 w_OBJECT w_INT w_BOOLEAN w_BYTE w_CHAR w_FLOAT w_DOUBLE w_LONG w_SHORT), (own_of j0 w_OBJECT w_INT w_BOOLEAN w_BYTE w_CHAR w_FLOAT w_DOUBLE w_LONG w_SHORT)])) X77 hx rfl (own_of_ref j0 w_OBJECT w_INT w_BOOLEAN w_BYTE w_CHAR w_FLOAT w_DOUBLE w_LONG w_SHORT) (own_of_ref j0 w_OBJECT w_INT w_BOOLEAN w_BYTE w_CHAR w_FLOAT w_DOUBLE w_LONG w_SHORT) (pc0 := 36) (pc' := 41) (same := true) rfl (hb hby at_36) rfl (decide_eq_true rfl) (by decide) (by decide) ?_
      show Steps p.tables e below (T77.setTop (mkF m 41 #[.val (.long j0), .second, .val (.int k0), .val (.long j0), .second, .val (own_of j0 w_OBJECT w_INT w_BOOLEAN w_BYTE w_CHAR w_FLOAT w_DOUBLE w_LONG w_SHORT), .val (own_of j0 w_OBJECT w_INT w_BOOLEAN w_BYTE w_CHAR w_FLOAT w_DOUBLE w_LONG w_SHORT)] [])) _
      exact k_)
    by_cases ht0 : j0 = (0 : Int64)
    · have hq : (own_of j0 w_OBJECT w_INT w_BOOLEAN w_BYTE w_CHAR w_FLOAT w_DOUBLE w_LONG w_SHORT) = .ref w_OBJECT := by rw [own_of, if_pos ht0]
      rw [hq] at pre78
      obtain ⟨v79, _, ⟨T79, L79, k79, n79⟩, -, X79, ⟨Lc79, hQ79, l79, y79, z79⟩, st79⟩ := Jvm.LawKit.callS X77 hx (y := (⟨"com/example/heapscribe/heapscribe/Bmd", "typeCode", "(Lcom/example/heapscribe/heapscribe/Hprof$BasicType;)I"⟩ : MethodName)) hown (mvT hZ (hw _ (List.mem_of_getElem? (i := 20) rfl))) (mvT hZ (hw _ (List.mem_of_getElem? (i := 21) rfl))) (mvT hZ (hw _ (List.mem_of_getElem? (i := 2) rfl))) (mvT hZ (hw _ (List.mem_of_getElem? (i := 22) rfl))) (by decide) (backOf (W := 0) (rm_3 l Z a0 hw [] w_OBJECT (0 : Int32) (0 : Int32) w_CODES cl_CODES h0 n0 Z0 F_OBJECT_ordinal E_OBJECT S_CODES Ar_CODES (inb_of (show cl_CODES.slots.size = (9 : Int32).toNatClampNeg from Z_CODES) ⟨by decide, by decide⟩) el_CODES_0) hZ (hw _ (List.mem_of_getElem? (i := 22) rfl)) (hw _ (List.mem_of_getElem? (i := 2) rfl)) (by decide) (by decide)) (g := (mkF m 48 #[.val (.long j0), .second, .val (.int k0), .val (.long j0), .second, .val (.ref w_OBJECT), .val (.ref w_OBJECT)] [(.ref w_OBJECT)])) rfl (by rw [hml]; rfl) (argsL := [(.ref w_OBJECT)]) (rest := []) (lenOf pd_2 rfl) rfl (by show 2 * 0 + _ ≤ _; exact Nat.le_of_eq rfl) (hb hby at_48) (fun _ _ => ⟨rfl, e77, (by decide : 0 + 0 ≤ _), (by decide : 0 + 0 ≤ _)⟩)
      dsimp only [Pt.U, Pt.locs, Pt.cells, Pt.slots] at X79 l79 y79 z79 st79 hQ79
      subst l79 y79 z79
      obtain ⟨hv79, N79q, e79⟩ := hQ79
      have N79 := Fr.app N77 N79q
      subst hv79
      have pre80 : ∀ t_, Steps p.tables e below (T79.setTop (mkF m 60 #[.val (.long j0), .second, .val (.int k0), .val (.long j0), .second, .val (.ref w_OBJECT), .val (.ref w_OBJECT)] [(.int (1 : Int32))])) t_ → Steps p.tables e below (s₁.setTop (entryFrame m #[(.long j0), (.int k0)] maxLocals)) t_ := fun t_ k_ => pre78 t_ (by
        show Steps p.tables e below (T77.setTop (mkF m 41 #[.val (.long j0), .second, .val (.int k0), .val (.long j0), .second, .val (.ref w_OBJECT), .val (.ref w_OBJECT)] [])) _
        refine XS.aload X77.here hx rfl (hb hby at_41) rfl rfl ?_
        show Steps p.tables e below (T77.setTop (mkF m 43 #[.val (.long j0), .second, .val (.int k0), .val (.long j0), .second, .val (.ref w_OBJECT), .val (.ref w_OBJECT)] [(.ref w_OBJECT)])) _
        refine XS.ifnullNo X77.here hx rfl (hb hby at_43) rfl ?_
        show Steps p.tables e below (T77.setTop (mkF m 46 #[.val (.long j0), .second, .val (.int k0), .val (.long j0), .second, .val (.ref w_OBJECT), .val (.ref w_OBJECT)] [])) _
        refine XS.aload X77.here hx rfl (hb hby at_46) rfl rfl ?_
        show Steps p.tables e below (T77.setTop (mkF m 48 #[.val (.long j0), .second, .val (.int k0), .val (.long j0), .second, .val (.ref w_OBJECT), .val (.ref w_OBJECT)] [(.ref w_OBJECT)])) _
        refine st79 _ ?_
        show Steps p.tables e below (T79.setTop (mkF m 51 #[.val (.long j0), .second, .val (.int k0), .val (.long j0), .second, .val (.ref w_OBJECT), .val (.ref w_OBJECT)] [(.int (0 : Int32))])) _
        refine XS.i2l X79.here hx rfl (hb hby at_51) rfl ?_
        show Steps p.tables e below (T79.setTop (mkF m 52 #[.val (.long j0), .second, .val (.int k0), .val (.long j0), .second, .val (.ref w_OBJECT), .val (.ref w_OBJECT)] [(.long ((0 : Int32).toInt64))])) _
        refine XS.lloadN X79.here hx rfl (hb hby at_52) rfl ?_
        show Steps p.tables e below (T79.setTop (mkF m 53 #[.val (.long j0), .second, .val (.int k0), .val (.long j0), .second, .val (.ref w_OBJECT), .val (.ref w_OBJECT)] [(.long j0), (.long ((0 : Int32).toInt64))])) _
        refine XS.lcmp X79.here hx rfl (hb hby at_53) rfl ?_
        show Steps p.tables e below (T79.setTop (mkF m 54 #[.val (.long j0), .second, .val (.int k0), .val (.long j0), .second, .val (.ref w_OBJECT), .val (.ref w_OBJECT)] [(.int (lcmpW ((0 : Int32).toInt64) j0))])) _
        refine XS.ifYes X79.here hx rfl (pc0 := 54) (pc' := 59) rfl (hb hby at_54) rfl ((if0 _ _).trans (teq ((lw_eq ((0 : Int32).toInt64) j0).mpr (Eq.trans (by decide) ht0.symm))).1) (by decide) (by decide) ?_
        show Steps p.tables e below (T79.setTop (mkF m 59 #[.val (.long j0), .second, .val (.int k0), .val (.long j0), .second, .val (.ref w_OBJECT), .val (.ref w_OBJECT)] [])) _
        refine XS.iconst X79.here hx rfl (hb hby at_59) ?_
        show Steps p.tables e below (T79.setTop (mkF m 60 #[.val (.long j0), .second, .val (.int k0), .val (.long j0), .second, .val (.ref w_OBJECT), .val (.ref w_OBJECT)] [(.int (1 : Int32))])) _
        exact k_)
      obtain ⟨fs, hr, hrun, hended, hW, hsame⟩ := X79.leave (v := some (.int (1 : Int32))) (fun h => by rw [Bd.returns] at h; cases h)
      refine ⟨_, _, pre80 _ ?_, hrun, hended, _, _, rfl, ?_, ⟨_, rfl⟩, hW, hsame.mono (by decide) (by decide)⟩
      · show Steps p.tables e below (T79.setTop (mkF m 60 #[.val (.long j0), .second, .val (.int k0), .val (.long j0), .second, .val (.ref w_OBJECT), .val (.ref w_OBJECT)] [(.int (1 : Int32))])) _
        exact retN X79 hx (t := .boolean) Bd.returns (by simp) (hb hby at_60) hr
      · show Q_0 Z j0 k0 w_OBJECT w_INT w_BOOLEAN w_BYTE w_CHAR w_FLOAT w_DOUBLE w_LONG w_SHORT w_BY_CODE cl_BY_CODE w_CODES cl_CODES h0 n0 _ T79.heap _
        rw [e79]
        exact ⟨rfl, N79⟩
    by_cases ht1 : j0 = (1 : Int64)
    · have hq : (own_of j0 w_OBJECT w_INT w_BOOLEAN w_BYTE w_CHAR w_FLOAT w_DOUBLE w_LONG w_SHORT) = .ref w_INT := by rw [own_of, if_neg ht0, if_pos ht1]
      rw [hq] at pre78
      obtain ⟨v81, _, ⟨T81, L81, k81, n81⟩, -, X81, ⟨Lc81, hQ81, l81, y81, z81⟩, st81⟩ := Jvm.LawKit.callS X77 hx (y := (⟨"com/example/heapscribe/heapscribe/Bmd", "typeCode", "(Lcom/example/heapscribe/heapscribe/Hprof$BasicType;)I"⟩ : MethodName)) hown (mvT hZ (hw _ (List.mem_of_getElem? (i := 20) rfl))) (mvT hZ (hw _ (List.mem_of_getElem? (i := 21) rfl))) (mvT hZ (hw _ (List.mem_of_getElem? (i := 2) rfl))) (mvT hZ (hw _ (List.mem_of_getElem? (i := 22) rfl))) (by decide) (backOf (W := 0) (rm_3 l Z a0 hw [] w_INT (7 : Int32) (1 : Int32) w_CODES cl_CODES h0 n0 Z0 F_INT_ordinal E_INT S_CODES Ar_CODES (inb_of (show cl_CODES.slots.size = (9 : Int32).toNatClampNeg from Z_CODES) ⟨by decide, by decide⟩) el_CODES_7) hZ (hw _ (List.mem_of_getElem? (i := 22) rfl)) (hw _ (List.mem_of_getElem? (i := 2) rfl)) (by decide) (by decide)) (g := (mkF m 48 #[.val (.long j0), .second, .val (.int k0), .val (.long j0), .second, .val (.ref w_INT), .val (.ref w_INT)] [(.ref w_INT)])) rfl (by rw [hml]; rfl) (argsL := [(.ref w_INT)]) (rest := []) (lenOf pd_2 rfl) rfl (by show 2 * 0 + _ ≤ _; exact Nat.le_of_eq rfl) (hb hby at_48) (fun _ _ => ⟨rfl, e77, (by decide : 0 + 0 ≤ _), (by decide : 0 + 0 ≤ _)⟩)
      dsimp only [Pt.U, Pt.locs, Pt.cells, Pt.slots] at X81 l81 y81 z81 st81 hQ81
      subst l81 y81 z81
      obtain ⟨hv81, N81q, e81⟩ := hQ81
      have N81 := Fr.app N77 N81q
      subst hv81
      have pre82 : ∀ t_, Steps p.tables e below (T81.setTop (mkF m 60 #[.val (.long j0), .second, .val (.int k0), .val (.long j0), .second, .val (.ref w_INT), .val (.ref w_INT)] [(.int (1 : Int32))])) t_ → Steps p.tables e below (s₁.setTop (entryFrame m #[(.long j0), (.int k0)] maxLocals)) t_ := fun t_ k_ => pre78 t_ (by
        show Steps p.tables e below (T77.setTop (mkF m 41 #[.val (.long j0), .second, .val (.int k0), .val (.long j0), .second, .val (.ref w_INT), .val (.ref w_INT)] [])) _
        refine XS.aload X77.here hx rfl (hb hby at_41) rfl rfl ?_
        show Steps p.tables e below (T77.setTop (mkF m 43 #[.val (.long j0), .second, .val (.int k0), .val (.long j0), .second, .val (.ref w_INT), .val (.ref w_INT)] [(.ref w_INT)])) _
        refine XS.ifnullNo X77.here hx rfl (hb hby at_43) rfl ?_
        show Steps p.tables e below (T77.setTop (mkF m 46 #[.val (.long j0), .second, .val (.int k0), .val (.long j0), .second, .val (.ref w_INT), .val (.ref w_INT)] [])) _
        refine XS.aload X77.here hx rfl (hb hby at_46) rfl rfl ?_
        show Steps p.tables e below (T77.setTop (mkF m 48 #[.val (.long j0), .second, .val (.int k0), .val (.long j0), .second, .val (.ref w_INT), .val (.ref w_INT)] [(.ref w_INT)])) _
        refine st81 _ ?_
        show Steps p.tables e below (T81.setTop (mkF m 51 #[.val (.long j0), .second, .val (.int k0), .val (.long j0), .second, .val (.ref w_INT), .val (.ref w_INT)] [(.int (1 : Int32))])) _
        refine XS.i2l X81.here hx rfl (hb hby at_51) rfl ?_
        show Steps p.tables e below (T81.setTop (mkF m 52 #[.val (.long j0), .second, .val (.int k0), .val (.long j0), .second, .val (.ref w_INT), .val (.ref w_INT)] [(.long ((1 : Int32).toInt64))])) _
        refine XS.lloadN X81.here hx rfl (hb hby at_52) rfl ?_
        show Steps p.tables e below (T81.setTop (mkF m 53 #[.val (.long j0), .second, .val (.int k0), .val (.long j0), .second, .val (.ref w_INT), .val (.ref w_INT)] [(.long j0), (.long ((1 : Int32).toInt64))])) _
        refine XS.lcmp X81.here hx rfl (hb hby at_53) rfl ?_
        show Steps p.tables e below (T81.setTop (mkF m 54 #[.val (.long j0), .second, .val (.int k0), .val (.long j0), .second, .val (.ref w_INT), .val (.ref w_INT)] [(.int (lcmpW ((1 : Int32).toInt64) j0))])) _
        refine XS.ifYes X81.here hx rfl (pc0 := 54) (pc' := 59) rfl (hb hby at_54) rfl ((if0 _ _).trans (teq ((lw_eq ((1 : Int32).toInt64) j0).mpr (Eq.trans (by decide) ht1.symm))).1) (by decide) (by decide) ?_
        show Steps p.tables e below (T81.setTop (mkF m 59 #[.val (.long j0), .second, .val (.int k0), .val (.long j0), .second, .val (.ref w_INT), .val (.ref w_INT)] [])) _
        refine XS.iconst X81.here hx rfl (hb hby at_59) ?_
        show Steps p.tables e below (T81.setTop (mkF m 60 #[.val (.long j0), .second, .val (.int k0), .val (.long j0), .second, .val (.ref w_INT), .val (.ref w_INT)] [(.int (1 : Int32))])) _
        exact k_)
      obtain ⟨fs, hr, hrun, hended, hW, hsame⟩ := X81.leave (v := some (.int (1 : Int32))) (fun h => by rw [Bd.returns] at h; cases h)
      refine ⟨_, _, pre82 _ ?_, hrun, hended, _, _, rfl, ?_, ⟨_, rfl⟩, hW, hsame.mono (by decide) (by decide)⟩
      · show Steps p.tables e below (T81.setTop (mkF m 60 #[.val (.long j0), .second, .val (.int k0), .val (.long j0), .second, .val (.ref w_INT), .val (.ref w_INT)] [(.int (1 : Int32))])) _
        exact retN X81 hx (t := .boolean) Bd.returns (by simp) (hb hby at_60) hr
      · show Q_0 Z j0 k0 w_OBJECT w_INT w_BOOLEAN w_BYTE w_CHAR w_FLOAT w_DOUBLE w_LONG w_SHORT w_BY_CODE cl_BY_CODE w_CODES cl_CODES h0 n0 _ T81.heap _
        rw [e81]
        exact ⟨rfl, N81⟩
    by_cases ht2 : j0 = (2 : Int64)
    · have hq : (own_of j0 w_OBJECT w_INT w_BOOLEAN w_BYTE w_CHAR w_FLOAT w_DOUBLE w_LONG w_SHORT) = .ref w_BOOLEAN := by rw [own_of, if_neg ht0, if_neg ht1, if_pos ht2]
      rw [hq] at pre78
      obtain ⟨v83, _, ⟨T83, L83, k83, n83⟩, -, X83, ⟨Lc83, hQ83, l83, y83, z83⟩, st83⟩ := Jvm.LawKit.callS X77 hx (y := (⟨"com/example/heapscribe/heapscribe/Bmd", "typeCode", "(Lcom/example/heapscribe/heapscribe/Hprof$BasicType;)I"⟩ : MethodName)) hown (mvT hZ (hw _ (List.mem_of_getElem? (i := 20) rfl))) (mvT hZ (hw _ (List.mem_of_getElem? (i := 21) rfl))) (mvT hZ (hw _ (List.mem_of_getElem? (i := 2) rfl))) (mvT hZ (hw _ (List.mem_of_getElem? (i := 22) rfl))) (by decide) (backOf (W := 0) (rm_3 l Z a0 hw [] w_BOOLEAN (1 : Int32) (2 : Int32) w_CODES cl_CODES h0 n0 Z0 F_BOOLEAN_ordinal E_BOOLEAN S_CODES Ar_CODES (inb_of (show cl_CODES.slots.size = (9 : Int32).toNatClampNeg from Z_CODES) ⟨by decide, by decide⟩) el_CODES_1) hZ (hw _ (List.mem_of_getElem? (i := 22) rfl)) (hw _ (List.mem_of_getElem? (i := 2) rfl)) (by decide) (by decide)) (g := (mkF m 48 #[.val (.long j0), .second, .val (.int k0), .val (.long j0), .second, .val (.ref w_BOOLEAN), .val (.ref w_BOOLEAN)] [(.ref w_BOOLEAN)])) rfl (by rw [hml]; rfl) (argsL := [(.ref w_BOOLEAN)]) (rest := []) (lenOf pd_2 rfl) rfl (by show 2 * 0 + _ ≤ _; exact Nat.le_of_eq rfl) (hb hby at_48) (fun _ _ => ⟨rfl, e77, (by decide : 0 + 0 ≤ _), (by decide : 0 + 0 ≤ _)⟩)
      dsimp only [Pt.U, Pt.locs, Pt.cells, Pt.slots] at X83 l83 y83 z83 st83 hQ83
      subst l83 y83 z83
      obtain ⟨hv83, N83q, e83⟩ := hQ83
      have N83 := Fr.app N77 N83q
      subst hv83
      have pre84 : ∀ t_, Steps p.tables e below (T83.setTop (mkF m 60 #[.val (.long j0), .second, .val (.int k0), .val (.long j0), .second, .val (.ref w_BOOLEAN), .val (.ref w_BOOLEAN)] [(.int (1 : Int32))])) t_ → Steps p.tables e below (s₁.setTop (entryFrame m #[(.long j0), (.int k0)] maxLocals)) t_ := fun t_ k_ => pre78 t_ (by
        show Steps p.tables e below (T77.setTop (mkF m 41 #[.val (.long j0), .second, .val (.int k0), .val (.long j0), .second, .val (.ref w_BOOLEAN), .val (.ref w_BOOLEAN)] [])) _
        refine XS.aload X77.here hx rfl (hb hby at_41) rfl rfl ?_
        show Steps p.tables e below (T77.setTop (mkF m 43 #[.val (.long j0), .second, .val (.int k0), .val (.long j0), .second, .val (.ref w_BOOLEAN), .val (.ref w_BOOLEAN)] [(.ref w_BOOLEAN)])) _
        refine XS.ifnullNo X77.here hx rfl (hb hby at_43) rfl ?_
        show Steps p.tables e below (T77.setTop (mkF m 46 #[.val (.long j0), .second, .val (.int k0), .val (.long j0), .second, .val (.ref w_BOOLEAN), .val (.ref w_BOOLEAN)] [])) _
        refine XS.aload X77.here hx rfl (hb hby at_46) rfl rfl ?_
        show Steps p.tables e below (T77.setTop (mkF m 48 #[.val (.long j0), .second, .val (.int k0), .val (.long j0), .second, .val (.ref w_BOOLEAN), .val (.ref w_BOOLEAN)] [(.ref w_BOOLEAN)])) _
        refine st83 _ ?_
        show Steps p.tables e below (T83.setTop (mkF m 51 #[.val (.long j0), .second, .val (.int k0), .val (.long j0), .second, .val (.ref w_BOOLEAN), .val (.ref w_BOOLEAN)] [(.int (2 : Int32))])) _
        refine XS.i2l X83.here hx rfl (hb hby at_51) rfl ?_
        show Steps p.tables e below (T83.setTop (mkF m 52 #[.val (.long j0), .second, .val (.int k0), .val (.long j0), .second, .val (.ref w_BOOLEAN), .val (.ref w_BOOLEAN)] [(.long ((2 : Int32).toInt64))])) _
        refine XS.lloadN X83.here hx rfl (hb hby at_52) rfl ?_
        show Steps p.tables e below (T83.setTop (mkF m 53 #[.val (.long j0), .second, .val (.int k0), .val (.long j0), .second, .val (.ref w_BOOLEAN), .val (.ref w_BOOLEAN)] [(.long j0), (.long ((2 : Int32).toInt64))])) _
        refine XS.lcmp X83.here hx rfl (hb hby at_53) rfl ?_
        show Steps p.tables e below (T83.setTop (mkF m 54 #[.val (.long j0), .second, .val (.int k0), .val (.long j0), .second, .val (.ref w_BOOLEAN), .val (.ref w_BOOLEAN)] [(.int (lcmpW ((2 : Int32).toInt64) j0))])) _
        refine XS.ifYes X83.here hx rfl (pc0 := 54) (pc' := 59) rfl (hb hby at_54) rfl ((if0 _ _).trans (teq ((lw_eq ((2 : Int32).toInt64) j0).mpr (Eq.trans (by decide) ht2.symm))).1) (by decide) (by decide) ?_
        show Steps p.tables e below (T83.setTop (mkF m 59 #[.val (.long j0), .second, .val (.int k0), .val (.long j0), .second, .val (.ref w_BOOLEAN), .val (.ref w_BOOLEAN)] [])) _
        refine XS.iconst X83.here hx rfl (hb hby at_59) ?_
        show Steps p.tables e below (T83.setTop (mkF m 60 #[.val (.long j0), .second, .val (.int k0), .val (.long j0), .second, .val (.ref w_BOOLEAN), .val (.ref w_BOOLEAN)] [(.int (1 : Int32))])) _
        exact k_)
      obtain ⟨fs, hr, hrun, hended, hW, hsame⟩ := X83.leave (v := some (.int (1 : Int32))) (fun h => by rw [Bd.returns] at h; cases h)
      refine ⟨_, _, pre84 _ ?_, hrun, hended, _, _, rfl, ?_, ⟨_, rfl⟩, hW, hsame.mono (by decide) (by decide)⟩
      · show Steps p.tables e below (T83.setTop (mkF m 60 #[.val (.long j0), .second, .val (.int k0), .val (.long j0), .second, .val (.ref w_BOOLEAN), .val (.ref w_BOOLEAN)] [(.int (1 : Int32))])) _
        exact retN X83 hx (t := .boolean) Bd.returns (by simp) (hb hby at_60) hr
      · show Q_0 Z j0 k0 w_OBJECT w_INT w_BOOLEAN w_BYTE w_CHAR w_FLOAT w_DOUBLE w_LONG w_SHORT w_BY_CODE cl_BY_CODE w_CODES cl_CODES h0 n0 _ T83.heap _
        rw [e83]
        exact ⟨rfl, N83⟩
    by_cases ht3 : j0 = (3 : Int64)
    · have hq : (own_of j0 w_OBJECT w_INT w_BOOLEAN w_BYTE w_CHAR w_FLOAT w_DOUBLE w_LONG w_SHORT) = .ref w_BYTE := by rw [own_of, if_neg ht0, if_neg ht1, if_neg ht2, if_pos ht3]
      rw [hq] at pre78
      obtain ⟨v85, _, ⟨T85, L85, k85, n85⟩, -, X85, ⟨Lc85, hQ85, l85, y85, z85⟩, st85⟩ := Jvm.LawKit.callS X77 hx (y := (⟨"com/example/heapscribe/heapscribe/Bmd", "typeCode", "(Lcom/example/heapscribe/heapscribe/Hprof$BasicType;)I"⟩ : MethodName)) hown (mvT hZ (hw _ (List.mem_of_getElem? (i := 20) rfl))) (mvT hZ (hw _ (List.mem_of_getElem? (i := 21) rfl))) (mvT hZ (hw _ (List.mem_of_getElem? (i := 2) rfl))) (mvT hZ (hw _ (List.mem_of_getElem? (i := 22) rfl))) (by decide) (backOf (W := 0) (rm_3 l Z a0 hw [] w_BYTE (5 : Int32) (3 : Int32) w_CODES cl_CODES h0 n0 Z0 F_BYTE_ordinal E_BYTE S_CODES Ar_CODES (inb_of (show cl_CODES.slots.size = (9 : Int32).toNatClampNeg from Z_CODES) ⟨by decide, by decide⟩) el_CODES_5) hZ (hw _ (List.mem_of_getElem? (i := 22) rfl)) (hw _ (List.mem_of_getElem? (i := 2) rfl)) (by decide) (by decide)) (g := (mkF m 48 #[.val (.long j0), .second, .val (.int k0), .val (.long j0), .second, .val (.ref w_BYTE), .val (.ref w_BYTE)] [(.ref w_BYTE)])) rfl (by rw [hml]; rfl) (argsL := [(.ref w_BYTE)]) (rest := []) (lenOf pd_2 rfl) rfl (by show 2 * 0 + _ ≤ _; exact Nat.le_of_eq rfl) (hb hby at_48) (fun _ _ => ⟨rfl, e77, (by decide : 0 + 0 ≤ _), (by decide : 0 + 0 ≤ _)⟩)
      dsimp only [Pt.U, Pt.locs, Pt.cells, Pt.slots] at X85 l85 y85 z85 st85 hQ85
      subst l85 y85 z85
      obtain ⟨hv85, N85q, e85⟩ := hQ85
      have N85 := Fr.app N77 N85q
      subst hv85
      have pre86 : ∀ t_, Steps p.tables e below (T85.setTop (mkF m 60 #[.val (.long j0), .second, .val (.int k0), .val (.long j0), .second, .val (.ref w_BYTE), .val (.ref w_BYTE)] [(.int (1 : Int32))])) t_ → Steps p.tables e below (s₁.setTop (entryFrame m #[(.long j0), (.int k0)] maxLocals)) t_ := fun t_ k_ => pre78 t_ (by
        show Steps p.tables e below (T77.setTop (mkF m 41 #[.val (.long j0), .second, .val (.int k0), .val (.long j0), .second, .val (.ref w_BYTE), .val (.ref w_BYTE)] [])) _
        refine XS.aload X77.here hx rfl (hb hby at_41) rfl rfl ?_
        show Steps p.tables e below (T77.setTop (mkF m 43 #[.val (.long j0), .second, .val (.int k0), .val (.long j0), .second, .val (.ref w_BYTE), .val (.ref w_BYTE)] [(.ref w_BYTE)])) _
        refine XS.ifnullNo X77.here hx rfl (hb hby at_43) rfl ?_
        show Steps p.tables e below (T77.setTop (mkF m 46 #[.val (.long j0), .second, .val (.int k0), .val (.long j0), .second, .val (.ref w_BYTE), .val (.ref w_BYTE)] [])) _
        refine XS.aload X77.here hx rfl (hb hby at_46) rfl rfl ?_
        show Steps p.tables e below (T77.setTop (mkF m 48 #[.val (.long j0), .second, .val (.int k0), .val (.long j0), .second, .val (.ref w_BYTE), .val (.ref w_BYTE)] [(.ref w_BYTE)])) _
        refine st85 _ ?_
        show Steps p.tables e below (T85.setTop (mkF m 51 #[.val (.long j0), .second, .val (.int k0), .val (.long j0), .second, .val (.ref w_BYTE), .val (.ref w_BYTE)] [(.int (3 : Int32))])) _
        refine XS.i2l X85.here hx rfl (hb hby at_51) rfl ?_
        show Steps p.tables e below (T85.setTop (mkF m 52 #[.val (.long j0), .second, .val (.int k0), .val (.long j0), .second, .val (.ref w_BYTE), .val (.ref w_BYTE)] [(.long ((3 : Int32).toInt64))])) _
        refine XS.lloadN X85.here hx rfl (hb hby at_52) rfl ?_
        show Steps p.tables e below (T85.setTop (mkF m 53 #[.val (.long j0), .second, .val (.int k0), .val (.long j0), .second, .val (.ref w_BYTE), .val (.ref w_BYTE)] [(.long j0), (.long ((3 : Int32).toInt64))])) _
        refine XS.lcmp X85.here hx rfl (hb hby at_53) rfl ?_
        show Steps p.tables e below (T85.setTop (mkF m 54 #[.val (.long j0), .second, .val (.int k0), .val (.long j0), .second, .val (.ref w_BYTE), .val (.ref w_BYTE)] [(.int (lcmpW ((3 : Int32).toInt64) j0))])) _
        refine XS.ifYes X85.here hx rfl (pc0 := 54) (pc' := 59) rfl (hb hby at_54) rfl ((if0 _ _).trans (teq ((lw_eq ((3 : Int32).toInt64) j0).mpr (Eq.trans (by decide) ht3.symm))).1) (by decide) (by decide) ?_
        show Steps p.tables e below (T85.setTop (mkF m 59 #[.val (.long j0), .second, .val (.int k0), .val (.long j0), .second, .val (.ref w_BYTE), .val (.ref w_BYTE)] [])) _
        refine XS.iconst X85.here hx rfl (hb hby at_59) ?_
        show Steps p.tables e below (T85.setTop (mkF m 60 #[.val (.long j0), .second, .val (.int k0), .val (.long j0), .second, .val (.ref w_BYTE), .val (.ref w_BYTE)] [(.int (1 : Int32))])) _
        exact k_)
      obtain ⟨fs, hr, hrun, hended, hW, hsame⟩ := X85.leave (v := some (.int (1 : Int32))) (fun h => by rw [Bd.returns] at h; cases h)
      refine ⟨_, _, pre86 _ ?_, hrun, hended, _, _, rfl, ?_, ⟨_, rfl⟩, hW, hsame.mono (by decide) (by decide)⟩
      · show Steps p.tables e below (T85.setTop (mkF m 60 #[.val (.long j0), .second, .val (.int k0), .val (.long j0), .second, .val (.ref w_BYTE), .val (.ref w_BYTE)] [(.int (1 : Int32))])) _
        exact retN X85 hx (t := .boolean) Bd.returns (by simp) (hb hby at_60) hr
      · show Q_0 Z j0 k0 w_OBJECT w_INT w_BOOLEAN w_BYTE w_CHAR w_FLOAT w_DOUBLE w_LONG w_SHORT w_BY_CODE cl_BY_CODE w_CODES cl_CODES h0 n0 _ T85.heap _
        rw [e85]
        exact ⟨rfl, N85⟩
    by_cases ht4 : j0 = (4 : Int64)
    · have hq : (own_of j0 w_OBJECT w_INT w_BOOLEAN w_BYTE w_CHAR w_FLOAT w_DOUBLE w_LONG w_SHORT) = .ref w_CHAR := by rw [own_of, if_neg ht0, if_neg ht1, if_neg ht2, if_neg ht3, if_pos ht4]
      rw [hq] at pre78
      obtain ⟨v87, _, ⟨T87, L87, k87, n87⟩, -, X87, ⟨Lc87, hQ87, l87, y87, z87⟩, st87⟩ := Jvm.LawKit.callS X77 hx (y := (⟨"com/example/heapscribe/heapscribe/Bmd", "typeCode", "(Lcom/example/heapscribe/heapscribe/Hprof$BasicType;)I"⟩ : MethodName)) hown (mvT hZ (hw _ (List.mem_of_getElem? (i := 20) rfl))) (mvT hZ (hw _ (List.mem_of_getElem? (i := 21) rfl))) (mvT hZ (hw _ (List.mem_of_getElem? (i := 2) rfl))) (mvT hZ (hw _ (List.mem_of_getElem? (i := 22) rfl))) (by decide) (backOf (W := 0) (rm_3 l Z a0 hw [] w_CHAR (2 : Int32) (4 : Int32) w_CODES cl_CODES h0 n0 Z0 F_CHAR_ordinal E_CHAR S_CODES Ar_CODES (inb_of (show cl_CODES.slots.size = (9 : Int32).toNatClampNeg from Z_CODES) ⟨by decide, by decide⟩) el_CODES_2) hZ (hw _ (List.mem_of_getElem? (i := 22) rfl)) (hw _ (List.mem_of_getElem? (i := 2) rfl)) (by decide) (by decide)) (g := (mkF m 48 #[.val (.long j0), .second, .val (.int k0), .val (.long j0), .second, .val (.ref w_CHAR), .val (.ref w_CHAR)] [(.ref w_CHAR)])) rfl (by rw [hml]; rfl) (argsL := [(.ref w_CHAR)]) (rest := []) (lenOf pd_2 rfl) rfl (by show 2 * 0 + _ ≤ _; exact Nat.le_of_eq rfl) (hb hby at_48) (fun _ _ => ⟨rfl, e77, (by decide : 0 + 0 ≤ _), (by decide : 0 + 0 ≤ _)⟩)
      dsimp only [Pt.U, Pt.locs, Pt.cells, Pt.slots] at X87 l87 y87 z87 st87 hQ87
      subst l87 y87 z87
      obtain ⟨hv87, N87q, e87⟩ := hQ87
      have N87 := Fr.app N77 N87q
      subst hv87
      have pre88 : ∀ t_, Steps p.tables e below (T87.setTop (mkF m 60 #[.val (.long j0), .second, .val (.int k0), .val (.long j0), .second, .val (.ref w_CHAR), .val (.ref w_CHAR)] [(.int (1 : Int32))])) t_ → Steps p.tables e below (s₁.setTop (entryFrame m #[(.long j0), (.int k0)] maxLocals)) t_ := fun t_ k_ => pre78 t_ (by
        show Steps p.tables e below (T77.setTop (mkF m 41 #[.val (.long j0), .second, .val (.int k0), .val (.long j0), .second, .val (.ref w_CHAR), .val (.ref w_CHAR)] [])) _
        refine XS.aload X77.here hx rfl (hb hby at_41) rfl rfl ?_
        show Steps p.tables e below (T77.setTop (mkF m 43 #[.val (.long j0), .second, .val (.int k0), .val (.long j0), .second, .val (.ref w_CHAR), .val (.ref w_CHAR)] [(.ref w_CHAR)])) _
        refine XS.ifnullNo X77.here hx rfl (hb hby at_43) rfl ?_
        show Steps p.tables e below (T77.setTop (mkF m 46 #[.val (.long j0), .second, .val (.int k0), .val (.long j0), .second, .val (.ref w_CHAR), .val (.ref w_CHAR)] [])) _
        refine XS.aload X77.here hx rfl (hb hby at_46) rfl rfl ?_
        show Steps p.tables e below (T77.setTop (mkF m 48 #[.val (.long j0), .second, .val (.int k0), .val (.long j0), .second, .val (.ref w_CHAR), .val (.ref w_CHAR)] [(.ref w_CHAR)])) _
        refine st87 _ ?_
        show Steps p.tables e below (T87.setTop (mkF m 51 #[.val (.long j0), .second, .val (.int k0), .val (.long j0), .second, .val (.ref w_CHAR), .val (.ref w_CHAR)] [(.int (4 : Int32))])) _
        refine XS.i2l X87.here hx rfl (hb hby at_51) rfl ?_
        show Steps p.tables e below (T87.setTop (mkF m 52 #[.val (.long j0), .second, .val (.int k0), .val (.long j0), .second, .val (.ref w_CHAR), .val (.ref w_CHAR)] [(.long ((4 : Int32).toInt64))])) _
        refine XS.lloadN X87.here hx rfl (hb hby at_52) rfl ?_
        show Steps p.tables e below (T87.setTop (mkF m 53 #[.val (.long j0), .second, .val (.int k0), .val (.long j0), .second, .val (.ref w_CHAR), .val (.ref w_CHAR)] [(.long j0), (.long ((4 : Int32).toInt64))])) _
        refine XS.lcmp X87.here hx rfl (hb hby at_53) rfl ?_
        show Steps p.tables e below (T87.setTop (mkF m 54 #[.val (.long j0), .second, .val (.int k0), .val (.long j0), .second, .val (.ref w_CHAR), .val (.ref w_CHAR)] [(.int (lcmpW ((4 : Int32).toInt64) j0))])) _
        refine XS.ifYes X87.here hx rfl (pc0 := 54) (pc' := 59) rfl (hb hby at_54) rfl ((if0 _ _).trans (teq ((lw_eq ((4 : Int32).toInt64) j0).mpr (Eq.trans (by decide) ht4.symm))).1) (by decide) (by decide) ?_
        show Steps p.tables e below (T87.setTop (mkF m 59 #[.val (.long j0), .second, .val (.int k0), .val (.long j0), .second, .val (.ref w_CHAR), .val (.ref w_CHAR)] [])) _
        refine XS.iconst X87.here hx rfl (hb hby at_59) ?_
        show Steps p.tables e below (T87.setTop (mkF m 60 #[.val (.long j0), .second, .val (.int k0), .val (.long j0), .second, .val (.ref w_CHAR), .val (.ref w_CHAR)] [(.int (1 : Int32))])) _
        exact k_)
      obtain ⟨fs, hr, hrun, hended, hW, hsame⟩ := X87.leave (v := some (.int (1 : Int32))) (fun h => by rw [Bd.returns] at h; cases h)
      refine ⟨_, _, pre88 _ ?_, hrun, hended, _, _, rfl, ?_, ⟨_, rfl⟩, hW, hsame.mono (by decide) (by decide)⟩
      · show Steps p.tables e below (T87.setTop (mkF m 60 #[.val (.long j0), .second, .val (.int k0), .val (.long j0), .second, .val (.ref w_CHAR), .val (.ref w_CHAR)] [(.int (1 : Int32))])) _
        exact retN X87 hx (t := .boolean) Bd.returns (by simp) (hb hby at_60) hr
      · show Q_0 Z j0 k0 w_OBJECT w_INT w_BOOLEAN w_BYTE w_CHAR w_FLOAT w_DOUBLE w_LONG w_SHORT w_BY_CODE cl_BY_CODE w_CODES cl_CODES h0 n0 _ T87.heap _
        rw [e87]
        exact ⟨rfl, N87⟩
    by_cases ht5 : j0 = (5 : Int64)
    · have hq : (own_of j0 w_OBJECT w_INT w_BOOLEAN w_BYTE w_CHAR w_FLOAT w_DOUBLE w_LONG w_SHORT) = .ref w_FLOAT := by rw [own_of, if_neg ht0, if_neg ht1, if_neg ht2, if_neg ht3, if_neg ht4, if_pos ht5]
      rw [hq] at pre78
      obtain ⟨v89, _, ⟨T89, L89, k89, n89⟩, -, X89, ⟨Lc89, hQ89, l89, y89, z89⟩, st89⟩ := Jvm.LawKit.callS X77 hx (y := (⟨"com/example/heapscribe/heapscribe/Bmd", "typeCode", "(Lcom/example/heapscribe/heapscribe/Hprof$BasicType;)I"⟩ : MethodName)) hown (mvT hZ (hw _ (List.mem_of_getElem? (i := 20) rfl))) (mvT hZ (hw _ (List.mem_of_getElem? (i := 21) rfl))) (mvT hZ (hw _ (List.mem_of_getElem? (i := 2) rfl))) (mvT hZ (hw _ (List.mem_of_getElem? (i := 22) rfl))) (by decide) (backOf (W := 0) (rm_3 l Z a0 hw [] w_FLOAT (3 : Int32) (5 : Int32) w_CODES cl_CODES h0 n0 Z0 F_FLOAT_ordinal E_FLOAT S_CODES Ar_CODES (inb_of (show cl_CODES.slots.size = (9 : Int32).toNatClampNeg from Z_CODES) ⟨by decide, by decide⟩) el_CODES_3) hZ (hw _ (List.mem_of_getElem? (i := 22) rfl)) (hw _ (List.mem_of_getElem? (i := 2) rfl)) (by decide) (by decide)) (g := (mkF m 48 #[.val (.long j0), .second, .val (.int k0), .val (.long j0), .second, .val (.ref w_FLOAT), .val (.ref w_FLOAT)] [(.ref w_FLOAT)])) rfl (by rw [hml]; rfl) (argsL := [(.ref w_FLOAT)]) (rest := []) (lenOf pd_2 rfl) rfl (by show 2 * 0 + _ ≤ _; exact Nat.le_of_eq rfl) (hb hby at_48) (fun _ _ => ⟨rfl, e77, (by decide : 0 + 0 ≤ _), (by decide : 0 + 0 ≤ _)⟩)
      dsimp only [Pt.U, Pt.locs, Pt.cells, Pt.slots] at X89 l89 y89 z89 st89 hQ89
      subst l89 y89 z89
      obtain ⟨hv89, N89q, e89⟩ := hQ89
      have N89 := Fr.app N77 N89q
      subst hv89
      have pre90 : ∀ t_, Steps p.tables e below (T89.setTop (mkF m 60 #[.val (.long j0), .second, .val (.int k0), .val (.long j0), .second, .val (.ref w_FLOAT), .val (.ref w_FLOAT)] [(.int (1 : Int32))])) t_ → Steps p.tables e below (s₁.setTop (entryFrame m #[(.long j0), (.int k0)] maxLocals)) t_ := fun t_ k_ => pre78 t_ (by
        show Steps p.tables e below (T77.setTop (mkF m 41 #[.val (.long j0), .second, .val (.int k0), .val (.long j0), .second, .val (.ref w_FLOAT), .val (.ref w_FLOAT)] [])) _
        refine XS.aload X77.here hx rfl (hb hby at_41) rfl rfl ?_
        show Steps p.tables e below (T77.setTop (mkF m 43 #[.val (.long j0), .second, .val (.int k0), .val (.long j0), .second, .val (.ref w_FLOAT), .val (.ref w_FLOAT)] [(.ref w_FLOAT)])) _
        refine XS.ifnullNo X77.here hx rfl (hb hby at_43) rfl ?_
        show Steps p.tables e below (T77.setTop (mkF m 46 #[.val (.long j0), .second, .val (.int k0), .val (.long j0), .second, .val (.ref w_FLOAT), .val (.ref w_FLOAT)] [])) _
        refine XS.aload X77.here hx rfl (hb hby at_46) rfl rfl ?_
        show Steps p.tables e below (T77.setTop (mkF m 48 #[.val (.long j0), .second, .val (.int k0), .val (.long j0), .second, .val (.ref w_FLOAT), .val (.ref w_FLOAT)] [(.ref w_FLOAT)])) _
        refine st89 _ ?_
        show Steps p.tables e below (T89.setTop (mkF m 51 #[.val (.long j0), .second, .val (.int k0), .val (.long j0), .second, .val (.ref w_FLOAT), .val (.ref w_FLOAT)] [(.int (5 : Int32))])) _
        refine XS.i2l X89.here hx rfl (hb hby at_51) rfl ?_
        show Steps p.tables e below (T89.setTop (mkF m 52 #[.val (.long j0), .second, .val (.int k0), .val (.long j0), .second, .val (.ref w_FLOAT), .val (.ref w_FLOAT)] [(.long ((5 : Int32).toInt64))])) _
        refine XS.lloadN X89.here hx rfl (hb hby at_52) rfl ?_
        show Steps p.tables e below (T89.setTop (mkF m 53 #[.val (.long j0), .second, .val (.int k0), .val (.long j0), .second, .val (.ref w_FLOAT), .val (.ref w_FLOAT)] [(.long j0), (.long ((5 : Int32).toInt64))])) _
        refine XS.lcmp X89.here hx rfl (hb hby at_53) rfl ?_
        show Steps p.tables e below (T89.setTop (mkF m 54 #[.val (.long j0), .second, .val (.int k0), .val (.long j0), .second, .val (.ref w_FLOAT), .val (.ref w_FLOAT)] [(.int (lcmpW ((5 : Int32).toInt64) j0))])) _
        refine XS.ifYes X89.here hx rfl (pc0 := 54) (pc' := 59) rfl (hb hby at_54) rfl ((if0 _ _).trans (teq ((lw_eq ((5 : Int32).toInt64) j0).mpr (Eq.trans (by decide) ht5.symm))).1) (by decide) (by decide) ?_
        show Steps p.tables e below (T89.setTop (mkF m 59 #[.val (.long j0), .second, .val (.int k0), .val (.long j0), .second, .val (.ref w_FLOAT), .val (.ref w_FLOAT)] [])) _
        refine XS.iconst X89.here hx rfl (hb hby at_59) ?_
        show Steps p.tables e below (T89.setTop (mkF m 60 #[.val (.long j0), .second, .val (.int k0), .val (.long j0), .second, .val (.ref w_FLOAT), .val (.ref w_FLOAT)] [(.int (1 : Int32))])) _
        exact k_)
      obtain ⟨fs, hr, hrun, hended, hW, hsame⟩ := X89.leave (v := some (.int (1 : Int32))) (fun h => by rw [Bd.returns] at h; cases h)
      refine ⟨_, _, pre90 _ ?_, hrun, hended, _, _, rfl, ?_, ⟨_, rfl⟩, hW, hsame.mono (by decide) (by decide)⟩
      · show Steps p.tables e below (T89.setTop (mkF m 60 #[.val (.long j0), .second, .val (.int k0), .val (.long j0), .second, .val (.ref w_FLOAT), .val (.ref w_FLOAT)] [(.int (1 : Int32))])) _
        exact retN X89 hx (t := .boolean) Bd.returns (by simp) (hb hby at_60) hr
      · show Q_0 Z j0 k0 w_OBJECT w_INT w_BOOLEAN w_BYTE w_CHAR w_FLOAT w_DOUBLE w_LONG w_SHORT w_BY_CODE cl_BY_CODE w_CODES cl_CODES h0 n0 _ T89.heap _
        rw [e89]
        exact ⟨rfl, N89⟩
    by_cases ht6 : j0 = (6 : Int64)
    · have hq : (own_of j0 w_OBJECT w_INT w_BOOLEAN w_BYTE w_CHAR w_FLOAT w_DOUBLE w_LONG w_SHORT) = .ref w_DOUBLE := by rw [own_of, if_neg ht0, if_neg ht1, if_neg ht2, if_neg ht3, if_neg ht4, if_neg ht5, if_pos ht6]
      rw [hq] at pre78
      obtain ⟨v91, _, ⟨T91, L91, k91, n91⟩, -, X91, ⟨Lc91, hQ91, l91, y91, z91⟩, st91⟩ := Jvm.LawKit.callS X77 hx (y := (⟨"com/example/heapscribe/heapscribe/Bmd", "typeCode", "(Lcom/example/heapscribe/heapscribe/Hprof$BasicType;)I"⟩ : MethodName)) hown (mvT hZ (hw _ (List.mem_of_getElem? (i := 20) rfl))) (mvT hZ (hw _ (List.mem_of_getElem? (i := 21) rfl))) (mvT hZ (hw _ (List.mem_of_getElem? (i := 2) rfl))) (mvT hZ (hw _ (List.mem_of_getElem? (i := 22) rfl))) (by decide) (backOf (W := 0) (rm_3 l Z a0 hw [] w_DOUBLE (4 : Int32) (6 : Int32) w_CODES cl_CODES h0 n0 Z0 F_DOUBLE_ordinal E_DOUBLE S_CODES Ar_CODES (inb_of (show cl_CODES.slots.size = (9 : Int32).toNatClampNeg from Z_CODES) ⟨by decide, by decide⟩) el_CODES_4) hZ (hw _ (List.mem_of_getElem? (i := 22) rfl)) (hw _ (List.mem_of_getElem? (i := 2) rfl)) (by decide) (by decide)) (g := (mkF m 48 #[.val (.long j0), .second, .val (.int k0), .val (.long j0), .second, .val (.ref w_DOUBLE), .val (.ref w_DOUBLE)] [(.ref w_DOUBLE)])) rfl (by rw [hml]; rfl) (argsL := [(.ref w_DOUBLE)]) (rest := []) (lenOf pd_2 rfl) rfl (by show 2 * 0 + _ ≤ _; exact Nat.le_of_eq rfl) (hb hby at_48) (fun _ _ => ⟨rfl, e77, (by decide : 0 + 0 ≤ _), (by decide : 0 + 0 ≤ _)⟩)
      dsimp only [Pt.U, Pt.locs, Pt.cells, Pt.slots] at X91 l91 y91 z91 st91 hQ91
      subst l91 y91 z91
      obtain ⟨hv91, N91q, e91⟩ := hQ91
      have N91 := Fr.app N77 N91q
      subst hv91
      have pre92 : ∀ t_, Steps p.tables e below (T91.setTop (mkF m 60 #[.val (.long j0), .second, .val (.int k0), .val (.long j0), .second, .val (.ref w_DOUBLE), .val (.ref w_DOUBLE)] [(.int (1 : Int32))])) t_ → Steps p.tables e below (s₁.setTop (entryFrame m #[(.long j0), (.int k0)] maxLocals)) t_ := fun t_ k_ => pre78 t_ (by
        show Steps p.tables e below (T77.setTop (mkF m 41 #[.val (.long j0), .second, .val (.int k0), .val (.long j0), .second, .val (.ref w_DOUBLE), .val (.ref w_DOUBLE)] [])) _
        refine XS.aload X77.here hx rfl (hb hby at_41) rfl rfl ?_
        show Steps p.tables e below (T77.setTop (mkF m 43 #[.val (.long j0), .second, .val (.int k0), .val (.long j0), .second, .val (.ref w_DOUBLE), .val (.ref w_DOUBLE)] [(.ref w_DOUBLE)])) _
        refine XS.ifnullNo X77.here hx rfl (hb hby at_43) rfl ?_
        show Steps p.tables e below (T77.setTop (mkF m 46 #[.val (.long j0), .second, .val (.int k0), .val (.long j0), .second, .val (.ref w_DOUBLE), .val (.ref w_DOUBLE)] [])) _
        refine XS.aload X77.here hx rfl (hb hby at_46) rfl rfl ?_
        show Steps p.tables e below (T77.setTop (mkF m 48 #[.val (.long j0), .second, .val (.int k0), .val (.long j0), .second, .val (.ref w_DOUBLE), .val (.ref w_DOUBLE)] [(.ref w_DOUBLE)])) _
        refine st91 _ ?_
        show Steps p.tables e below (T91.setTop (mkF m 51 #[.val (.long j0), .second, .val (.int k0), .val (.long j0), .second, .val (.ref w_DOUBLE), .val (.ref w_DOUBLE)] [(.int (6 : Int32))])) _
        refine XS.i2l X91.here hx rfl (hb hby at_51) rfl ?_
        show Steps p.tables e below (T91.setTop (mkF m 52 #[.val (.long j0), .second, .val (.int k0), .val (.long j0), .second, .val (.ref w_DOUBLE), .val (.ref w_DOUBLE)] [(.long ((6 : Int32).toInt64))])) _
        refine XS.lloadN X91.here hx rfl (hb hby at_52) rfl ?_
        show Steps p.tables e below (T91.setTop (mkF m 53 #[.val (.long j0), .second, .val (.int k0), .val (.long j0), .second, .val (.ref w_DOUBLE), .val (.ref w_DOUBLE)] [(.long j0), (.long ((6 : Int32).toInt64))])) _
        refine XS.lcmp X91.here hx rfl (hb hby at_53) rfl ?_
        show Steps p.tables e below (T91.setTop (mkF m 54 #[.val (.long j0), .second, .val (.int k0), .val (.long j0), .second, .val (.ref w_DOUBLE), .val (.ref w_DOUBLE)] [(.int (lcmpW ((6 : Int32).toInt64) j0))])) _
        refine XS.ifYes X91.here hx rfl (pc0 := 54) (pc' := 59) rfl (hb hby at_54) rfl ((if0 _ _).trans (teq ((lw_eq ((6 : Int32).toInt64) j0).mpr (Eq.trans (by decide) ht6.symm))).1) (by decide) (by decide) ?_
        show Steps p.tables e below (T91.setTop (mkF m 59 #[.val (.long j0), .second, .val (.int k0), .val (.long j0), .second, .val (.ref w_DOUBLE), .val (.ref w_DOUBLE)] [])) _
        refine XS.iconst X91.here hx rfl (hb hby at_59) ?_
        show Steps p.tables e below (T91.setTop (mkF m 60 #[.val (.long j0), .second, .val (.int k0), .val (.long j0), .second, .val (.ref w_DOUBLE), .val (.ref w_DOUBLE)] [(.int (1 : Int32))])) _
        exact k_)
      obtain ⟨fs, hr, hrun, hended, hW, hsame⟩ := X91.leave (v := some (.int (1 : Int32))) (fun h => by rw [Bd.returns] at h; cases h)
      refine ⟨_, _, pre92 _ ?_, hrun, hended, _, _, rfl, ?_, ⟨_, rfl⟩, hW, hsame.mono (by decide) (by decide)⟩
      · show Steps p.tables e below (T91.setTop (mkF m 60 #[.val (.long j0), .second, .val (.int k0), .val (.long j0), .second, .val (.ref w_DOUBLE), .val (.ref w_DOUBLE)] [(.int (1 : Int32))])) _
        exact retN X91 hx (t := .boolean) Bd.returns (by simp) (hb hby at_60) hr
      · show Q_0 Z j0 k0 w_OBJECT w_INT w_BOOLEAN w_BYTE w_CHAR w_FLOAT w_DOUBLE w_LONG w_SHORT w_BY_CODE cl_BY_CODE w_CODES cl_CODES h0 n0 _ T91.heap _
        rw [e91]
        exact ⟨rfl, N91⟩
    by_cases ht7 : j0 = (7 : Int64)
    · have hq : (own_of j0 w_OBJECT w_INT w_BOOLEAN w_BYTE w_CHAR w_FLOAT w_DOUBLE w_LONG w_SHORT) = .ref w_LONG := by rw [own_of, if_neg ht0, if_neg ht1, if_neg ht2, if_neg ht3, if_neg ht4, if_neg ht5, if_neg ht6, if_pos ht7]
      rw [hq] at pre78
      obtain ⟨v93, _, ⟨T93, L93, k93, n93⟩, -, X93, ⟨Lc93, hQ93, l93, y93, z93⟩, st93⟩ := Jvm.LawKit.callS X77 hx (y := (⟨"com/example/heapscribe/heapscribe/Bmd", "typeCode", "(Lcom/example/heapscribe/heapscribe/Hprof$BasicType;)I"⟩ : MethodName)) hown (mvT hZ (hw _ (List.mem_of_getElem? (i := 20) rfl))) (mvT hZ (hw _ (List.mem_of_getElem? (i := 21) rfl))) (mvT hZ (hw _ (List.mem_of_getElem? (i := 2) rfl))) (mvT hZ (hw _ (List.mem_of_getElem? (i := 22) rfl))) (by decide) (backOf (W := 0) (rm_3 l Z a0 hw [] w_LONG (8 : Int32) (7 : Int32) w_CODES cl_CODES h0 n0 Z0 F_LONG_ordinal E_LONG S_CODES Ar_CODES (inb_of (show cl_CODES.slots.size = (9 : Int32).toNatClampNeg from Z_CODES) ⟨by decide, by decide⟩) el_CODES_8) hZ (hw _ (List.mem_of_getElem? (i := 22) rfl)) (hw _ (List.mem_of_getElem? (i := 2) rfl)) (by decide) (by decide)) (g := (mkF m 48 #[.val (.long j0), .second, .val (.int k0), .val (.long j0), .second, .val (.ref w_LONG), .val (.ref w_LONG)] [(.ref w_LONG)])) rfl (by rw [hml]; rfl) (argsL := [(.ref w_LONG)]) (rest := []) (lenOf pd_2 rfl) rfl (by show 2 * 0 + _ ≤ _; exact Nat.le_of_eq rfl) (hb hby at_48) (fun _ _ => ⟨rfl, e77, (by decide : 0 + 0 ≤ _), (by decide : 0 + 0 ≤ _)⟩)
      dsimp only [Pt.U, Pt.locs, Pt.cells, Pt.slots] at X93 l93 y93 z93 st93 hQ93
      subst l93 y93 z93
      obtain ⟨hv93, N93q, e93⟩ := hQ93
      have N93 := Fr.app N77 N93q
      subst hv93
      have pre94 : ∀ t_, Steps p.tables e below (T93.setTop (mkF m 60 #[.val (.long j0), .second, .val (.int k0), .val (.long j0), .second, .val (.ref w_LONG), .val (.ref w_LONG)] [(.int (1 : Int32))])) t_ → Steps p.tables e below (s₁.setTop (entryFrame m #[(.long j0), (.int k0)] maxLocals)) t_ := fun t_ k_ => pre78 t_ (by
        show Steps p.tables e below (T77.setTop (mkF m 41 #[.val (.long j0), .second, .val (.int k0), .val (.long j0), .second, .val (.ref w_LONG), .val (.ref w_LONG)] [])) _
        refine XS.aload X77.here hx rfl (hb hby at_41) rfl rfl ?_
        show Steps p.tables e below (T77.setTop (mkF m 43 #[.val (.long j0), .second, .val (.int k0), .val (.long j0), .second, .val (.ref w_LONG), .val (.ref w_LONG)] [(.ref w_LONG)])) _
        refine XS.ifnullNo X77.here hx rfl (hb hby at_43) rfl ?_
        show Steps p.tables e below (T77.setTop (mkF m 46 #[.val (.long j0), .second, .val (.int k0), .val (.long j0), .second, .val (.ref w_LONG), .val (.ref w_LONG)] [])) _
        refine XS.aload X77.here hx rfl (hb hby at_46) rfl rfl ?_
        show Steps p.tables e below (T77.setTop (mkF m 48 #[.val (.long j0), .second, .val (.int k0), .val (.long j0), .second, .val (.ref w_LONG), .val (.ref w_LONG)] [(.ref w_LONG)])) _
        refine st93 _ ?_
        show Steps p.tables e below (T93.setTop (mkF m 51 #[.val (.long j0), .second, .val (.int k0), .val (.long j0), .second, .val (.ref w_LONG), .val (.ref w_LONG)] [(.int (7 : Int32))])) _
        refine XS.i2l X93.here hx rfl (hb hby at_51) rfl ?_
        show Steps p.tables e below (T93.setTop (mkF m 52 #[.val (.long j0), .second, .val (.int k0), .val (.long j0), .second, .val (.ref w_LONG), .val (.ref w_LONG)] [(.long ((7 : Int32).toInt64))])) _
        refine XS.lloadN X93.here hx rfl (hb hby at_52) rfl ?_
        show Steps p.tables e below (T93.setTop (mkF m 53 #[.val (.long j0), .second, .val (.int k0), .val (.long j0), .second, .val (.ref w_LONG), .val (.ref w_LONG)] [(.long j0), (.long ((7 : Int32).toInt64))])) _
        refine XS.lcmp X93.here hx rfl (hb hby at_53) rfl ?_
        show Steps p.tables e below (T93.setTop (mkF m 54 #[.val (.long j0), .second, .val (.int k0), .val (.long j0), .second, .val (.ref w_LONG), .val (.ref w_LONG)] [(.int (lcmpW ((7 : Int32).toInt64) j0))])) _
        refine XS.ifYes X93.here hx rfl (pc0 := 54) (pc' := 59) rfl (hb hby at_54) rfl ((if0 _ _).trans (teq ((lw_eq ((7 : Int32).toInt64) j0).mpr (Eq.trans (by decide) ht7.symm))).1) (by decide) (by decide) ?_
        show Steps p.tables e below (T93.setTop (mkF m 59 #[.val (.long j0), .second, .val (.int k0), .val (.long j0), .second, .val (.ref w_LONG), .val (.ref w_LONG)] [])) _
        refine XS.iconst X93.here hx rfl (hb hby at_59) ?_
        show Steps p.tables e below (T93.setTop (mkF m 60 #[.val (.long j0), .second, .val (.int k0), .val (.long j0), .second, .val (.ref w_LONG), .val (.ref w_LONG)] [(.int (1 : Int32))])) _
        exact k_)
      obtain ⟨fs, hr, hrun, hended, hW, hsame⟩ := X93.leave (v := some (.int (1 : Int32))) (fun h => by rw [Bd.returns] at h; cases h)
      refine ⟨_, _, pre94 _ ?_, hrun, hended, _, _, rfl, ?_, ⟨_, rfl⟩, hW, hsame.mono (by decide) (by decide)⟩
      · show Steps p.tables e below (T93.setTop (mkF m 60 #[.val (.long j0), .second, .val (.int k0), .val (.long j0), .second, .val (.ref w_LONG), .val (.ref w_LONG)] [(.int (1 : Int32))])) _
        exact retN X93 hx (t := .boolean) Bd.returns (by simp) (hb hby at_60) hr
      · show Q_0 Z j0 k0 w_OBJECT w_INT w_BOOLEAN w_BYTE w_CHAR w_FLOAT w_DOUBLE w_LONG w_SHORT w_BY_CODE cl_BY_CODE w_CODES cl_CODES h0 n0 _ T93.heap _
        rw [e93]
        exact ⟨rfl, N93⟩
    by_cases ht8 : j0 = (8 : Int64)
    · have hq : (own_of j0 w_OBJECT w_INT w_BOOLEAN w_BYTE w_CHAR w_FLOAT w_DOUBLE w_LONG w_SHORT) = .ref w_SHORT := by rw [own_of, if_neg ht0, if_neg ht1, if_neg ht2, if_neg ht3, if_neg ht4, if_neg ht5, if_neg ht6, if_neg ht7, if_pos ht8]
      rw [hq] at pre78
      obtain ⟨v95, _, ⟨T95, L95, k95, n95⟩, -, X95, ⟨Lc95, hQ95, l95, y95, z95⟩, st95⟩ := Jvm.LawKit.callS X77 hx (y := (⟨"com/example/heapscribe/heapscribe/Bmd", "typeCode", "(Lcom/example/heapscribe/heapscribe/Hprof$BasicType;)I"⟩ : MethodName)) hown (mvT hZ (hw _ (List.mem_of_getElem? (i := 20) rfl))) (mvT hZ (hw _ (List.mem_of_getElem? (i := 21) rfl))) (mvT hZ (hw _ (List.mem_of_getElem? (i := 2) rfl))) (mvT hZ (hw _ (List.mem_of_getElem? (i := 22) rfl))) (by decide) (backOf (W := 0) (rm_3 l Z a0 hw [] w_SHORT (6 : Int32) (8 : Int32) w_CODES cl_CODES h0 n0 Z0 F_SHORT_ordinal E_SHORT S_CODES Ar_CODES (inb_of (show cl_CODES.slots.size = (9 : Int32).toNatClampNeg from Z_CODES) ⟨by decide, by decide⟩) el_CODES_6) hZ (hw _ (List.mem_of_getElem? (i := 22) rfl)) (hw _ (List.mem_of_getElem? (i := 2) rfl)) (by decide) (by decide)) (g := (mkF m 48 #[.val (.long j0), .second, .val (.int k0), .val (.long j0), .second, .val (.ref w_SHORT), .val (.ref w_SHORT)] [(.ref w_SHORT)])) rfl (by rw [hml]; rfl) (argsL := [(.ref w_SHORT)]) (rest := []) (lenOf pd_2 rfl) rfl (by show 2 * 0 + _ ≤ _; exact Nat.le_of_eq rfl) (hb hby at_48) (fun _ _ => ⟨rfl, e77, (by decide : 0 + 0 ≤ _), (by decide : 0 + 0 ≤ _)⟩)
      dsimp only [Pt.U, Pt.locs, Pt.cells, Pt.slots] at X95 l95 y95 z95 st95 hQ95
      subst l95 y95 z95
      obtain ⟨hv95, N95q, e95⟩ := hQ95
      have N95 := Fr.app N77 N95q
      subst hv95
      have pre96 : ∀ t_, Steps p.tables e below (T95.setTop (mkF m 60 #[.val (.long j0), .second, .val (.int k0), .val (.long j0), .second, .val (.ref w_SHORT), .val (.ref w_SHORT)] [(.int (1 : Int32))])) t_ → Steps p.tables e below (s₁.setTop (entryFrame m #[(.long j0), (.int k0)] maxLocals)) t_ := fun t_ k_ => pre78 t_ (by
        show Steps p.tables e below (T77.setTop (mkF m 41 #[.val (.long j0), .second, .val (.int k0), .val (.long j0), .second, .val (.ref w_SHORT), .val (.ref w_SHORT)] [])) _
        refine XS.aload X77.here hx rfl (hb hby at_41) rfl rfl ?_
        show Steps p.tables e below (T77.setTop (mkF m 43 #[.val (.long j0), .second, .val (.int k0), .val (.long j0), .second, .val (.ref w_SHORT), .val (.ref w_SHORT)] [(.ref w_SHORT)])) _
        refine XS.ifnullNo X77.here hx rfl (hb hby at_43) rfl ?_
        show Steps p.tables e below (T77.setTop (mkF m 46 #[.val (.long j0), .second, .val (.int k0), .val (.long j0), .second, .val (.ref w_SHORT), .val (.ref w_SHORT)] [])) _
        refine XS.aload X77.here hx rfl (hb hby at_46) rfl rfl ?_
        show Steps p.tables e below (T77.setTop (mkF m 48 #[.val (.long j0), .second, .val (.int k0), .val (.long j0), .second, .val (.ref w_SHORT), .val (.ref w_SHORT)] [(.ref w_SHORT)])) _
        refine st95 _ ?_
        show Steps p.tables e below (T95.setTop (mkF m 51 #[.val (.long j0), .second, .val (.int k0), .val (.long j0), .second, .val (.ref w_SHORT), .val (.ref w_SHORT)] [(.int (8 : Int32))])) _
        refine XS.i2l X95.here hx rfl (hb hby at_51) rfl ?_
        show Steps p.tables e below (T95.setTop (mkF m 52 #[.val (.long j0), .second, .val (.int k0), .val (.long j0), .second, .val (.ref w_SHORT), .val (.ref w_SHORT)] [(.long ((8 : Int32).toInt64))])) _
        refine XS.lloadN X95.here hx rfl (hb hby at_52) rfl ?_
        show Steps p.tables e below (T95.setTop (mkF m 53 #[.val (.long j0), .second, .val (.int k0), .val (.long j0), .second, .val (.ref w_SHORT), .val (.ref w_SHORT)] [(.long j0), (.long ((8 : Int32).toInt64))])) _
        refine XS.lcmp X95.here hx rfl (hb hby at_53) rfl ?_
        show Steps p.tables e below (T95.setTop (mkF m 54 #[.val (.long j0), .second, .val (.int k0), .val (.long j0), .second, .val (.ref w_SHORT), .val (.ref w_SHORT)] [(.int (lcmpW ((8 : Int32).toInt64) j0))])) _
        refine XS.ifYes X95.here hx rfl (pc0 := 54) (pc' := 59) rfl (hb hby at_54) rfl ((if0 _ _).trans (teq ((lw_eq ((8 : Int32).toInt64) j0).mpr (Eq.trans (by decide) ht8.symm))).1) (by decide) (by decide) ?_
        show Steps p.tables e below (T95.setTop (mkF m 59 #[.val (.long j0), .second, .val (.int k0), .val (.long j0), .second, .val (.ref w_SHORT), .val (.ref w_SHORT)] [])) _
        refine XS.iconst X95.here hx rfl (hb hby at_59) ?_
        show Steps p.tables e below (T95.setTop (mkF m 60 #[.val (.long j0), .second, .val (.int k0), .val (.long j0), .second, .val (.ref w_SHORT), .val (.ref w_SHORT)] [(.int (1 : Int32))])) _
        exact k_)
      obtain ⟨fs, hr, hrun, hended, hW, hsame⟩ := X95.leave (v := some (.int (1 : Int32))) (fun h => by rw [Bd.returns] at h; cases h)
      refine ⟨_, _, pre96 _ ?_, hrun, hended, _, _, rfl, ?_, ⟨_, rfl⟩, hW, hsame.mono (by decide) (by decide)⟩
      · show Steps p.tables e below (T95.setTop (mkF m 60 #[.val (.long j0), .second, .val (.int k0), .val (.long j0), .second, .val (.ref w_SHORT), .val (.ref w_SHORT)] [(.int (1 : Int32))])) _
        exact retN X95 hx (t := .boolean) Bd.returns (by simp) (hb hby at_60) hr
      · show Q_0 Z j0 k0 w_OBJECT w_INT w_BOOLEAN w_BYTE w_CHAR w_FLOAT w_DOUBLE w_LONG w_SHORT w_BY_CODE cl_BY_CODE w_CODES cl_CODES h0 n0 _ T95.heap _
        rw [e95]
        exact ⟨rfl, N95⟩
    have hq : (own_of j0 w_OBJECT w_INT w_BOOLEAN w_BYTE w_CHAR w_FLOAT w_DOUBLE w_LONG w_SHORT) = .null := by rw [own_of, if_neg ht0, if_neg ht1, if_neg ht2, if_neg ht3, if_neg ht4, if_neg ht5, if_neg ht6, if_neg ht7, if_neg ht8]
    rw [hq] at pre78
    have pre97 : ∀ t_, Steps p.tables e below (T77.setTop (mkF m 60 #[.val (.long j0), .second, .val (.int k0), .val (.long j0), .second, .val .null, .val .null] [(.int (1 : Int32))])) t_ → Steps p.tables e below (s₁.setTop (entryFrame m #[(.long j0), (.int k0)] maxLocals)) t_ := fun t_ k_ => pre78 t_ (by
      show Steps p.tables e below (T77.setTop (mkF m 41 #[.val (.long j0), .second, .val (.int k0), .val (.long j0), .second, .val .null, .val .null] [])) _
      refine XS.aload X77.here hx rfl (hb hby at_41) rfl rfl ?_
      show Steps p.tables e below (T77.setTop (mkF m 43 #[.val (.long j0), .second, .val (.int k0), .val (.long j0), .second, .val .null, .val .null] [.null])) _
      refine XS.ifnullYes X77.here hx rfl (pc0 := 43) (pc' := 59) rfl (hb hby at_43) rfl (by decide) (by decide) ?_
      show Steps p.tables e below (T77.setTop (mkF m 59 #[.val (.long j0), .second, .val (.int k0), .val (.long j0), .second, .val .null, .val .null] [])) _
      refine XS.iconst X77.here hx rfl (hb hby at_59) ?_
      show Steps p.tables e below (T77.setTop (mkF m 60 #[.val (.long j0), .second, .val (.int k0), .val (.long j0), .second, .val .null, .val .null] [(.int (1 : Int32))])) _
      exact k_)
    obtain ⟨fs, hr, hrun, hended, hW, hsame⟩ := X77.leave (v := some (.int (1 : Int32))) (fun h => by rw [Bd.returns] at h; cases h)
    refine ⟨_, _, pre97 _ ?_, hrun, hended, _, _, rfl, ?_, ⟨_, rfl⟩, hW, hsame.mono (by decide) (by decide)⟩
    · show Steps p.tables e below (T77.setTop (mkF m 60 #[.val (.long j0), .second, .val (.int k0), .val (.long j0), .second, .val .null, .val .null] [(.int (1 : Int32))])) _
      exact retN X77 hx (t := .boolean) Bd.returns (by simp) (hb hby at_60) hr
    · show Q_0 Z j0 k0 w_OBJECT w_INT w_BOOLEAN w_BYTE w_CHAR w_FLOAT w_DOUBLE w_LONG w_SHORT w_BY_CODE cl_BY_CODE w_CODES cl_CODES h0 n0 _ T77.heap _
      rw [e77]
      exact ⟨rfl, N77⟩
set_option maxRecDepth 65536 in
set_option maxHeartbeats 40000000 in
theorem comes_1 {Post : Tables → Env → Array Value → State → Outcome → State → Prop} (hpost : ∀ tb e args s v u, (limb_1_1.after args s (.returned v) u = true ∧ limb_1_2.after args s (.returned v) u = true ∧ True) → FrameEnd s (.returned v) u (Jvm.fieldLocs frame_1_writes args s ++ Jvm.arrayLocs frame_1_arrays args s ++ Jvm.staticLocs frame_1_statics s) 0 0 → Post tb e args s (.returned v) u) :
    ArmFor flags0 classFile x code maxLocals ret World_1 tables_1 room_1 Calls_1 rest_1 Pre_1 Post := by
  intro l hfl _ _ p e ha hc hk s m args below hf hA hF happ hP
  obtain ⟨hcalls, hrest, hpre⟩ := hP
  obtain ⟨-, -, -, hnamed, -, -, -, hat⟩ := (Spec.applies_iff hf).mp happ
  obtain ⟨hg, hn⟩ := and_e (Cond.before_iff.mp (show (Jvm.Cond.and given_1 narrow_1).before args s = true from hpre))
  obtain ⟨hcount, hg0⟩ := and_e hg
  obtain ⟨hi0, hg1⟩ := and_e hg0
  obtain ⟨w0, w1, rfl⟩ : ∃ w0 w1 : Value, args = #[w0, w1] := by
    have hs : args.size = 2 := by simpa [Cond.value, given_1] using hcount
    obtain ⟨L⟩ := args
    match L, hs with
    | [w0, w1], _ => exact ⟨w0, w1, rfl⟩
  have hw := fun d (hd : d ∈ tables_1) => atoms_spec (ws := Jvm.Cond.code x code maxLocals ret :: tables_1) hat d (List.mem_cons_of_mem _ hd)
  have hfit : Fit s := fun {y c} hc i hi => by
    obtain ⟨ha, rfl⟩ := Array.getElem?_eq_some_iff.mp hc
    have q := List.all_eq_true.mp ((Array.all_eq_true_iff_forall_mem.mp hF) _ (Array.getElem_mem ha)) i (List.mem_range.mpr hi)
    simpa [Array.getElem?_eq_getElem hi] using q
  obtain ⟨i0, ei0⟩ := isL_v hi0
  obtain rfl : w0 = (.long i0) := Option.some.inj ei0
  obtain ⟨i1, ei1⟩ := is_v hg1
  obtain rfl : w1 = (.int i1) := Option.some.inj ei1
  obtain ⟨g0, hn_0⟩ := and_e hn
  obtain ⟨g1, hn_1⟩ := and_e hn_0
  obtain ⟨g2, hn_2⟩ := and_e hn_1
  obtain ⟨g3, hn_3⟩ := and_e hn_2
  obtain ⟨g4, hn_4⟩ := and_e hn_3
  obtain ⟨g5, hn_5⟩ := and_e hn_4
  obtain ⟨g6, hn_6⟩ := and_e hn_5
  obtain ⟨g7, hn_7⟩ := and_e hn_6
  obtain ⟨g8, hn_8⟩ := and_e hn_7
  obtain ⟨g9, hn_9⟩ := and_e hn_8
  obtain ⟨g10, hn_10⟩ := and_e hn_9
  obtain ⟨g11, hn_11⟩ := and_e hn_10
  obtain ⟨g12, hn_12⟩ := and_e hn_11
  obtain ⟨g13, hn_13⟩ := and_e hn_12
  obtain ⟨g14, hn_14⟩ := and_e hn_13
  obtain ⟨g15, hn_15⟩ := and_e hn_14
  obtain ⟨g16, hn_16⟩ := and_e hn_15
  obtain ⟨g17, hn_17⟩ := and_e hn_16
  obtain ⟨g18, hn_18⟩ := and_e hn_17
  obtain ⟨g19, hn_19⟩ := and_e hn_18
  obtain ⟨g20, hn_20⟩ := and_e hn_19
  obtain ⟨g21, hn_21⟩ := and_e hn_20
  obtain ⟨g22, hn_22⟩ := and_e hn_21
  obtain ⟨g23, hn_23⟩ := and_e hn_22
  obtain ⟨g24, hn_24⟩ := and_e hn_23
  obtain ⟨g25, hn_25⟩ := and_e hn_24
  obtain ⟨g26, hn_26⟩ := and_e hn_25
  obtain ⟨g27, hn_27⟩ := and_e hn_26
  obtain ⟨g28, hn_28⟩ := and_e hn_27
  obtain ⟨g29, hn_29⟩ := and_e hn_28
  obtain ⟨g30, hn_30⟩ := and_e hn_29
  obtain ⟨g31, hn_31⟩ := and_e hn_30
  obtain ⟨g32, hn_32⟩ := and_e hn_31
  obtain ⟨g33, hn_33⟩ := and_e hn_32
  obtain ⟨g34, hn_34⟩ := and_e hn_33
  obtain ⟨g35, hn_35⟩ := and_e hn_34
  obtain ⟨g36, hn_36⟩ := and_e hn_35
  obtain ⟨g37, hn_37⟩ := and_e hn_36
  obtain ⟨g38, hn_38⟩ := and_e hn_37
  have g39 := hn_38
  obtain ⟨w_LONG, ev_LONG, S_LONG, E_LONG⟩ := own_sta (hw _ (List.mem_of_getElem? (i := 17) rfl)) (hw _ (List.mem_of_getElem? (i := 18) rfl)) g2
  obtain ⟨w_OBJECT, ev_OBJECT, S_OBJECT, E_OBJECT⟩ := own_sta (hw _ (List.mem_of_getElem? (i := 17) rfl)) (hw _ (List.mem_of_getElem? (i := 34) rfl)) g7
  obtain ⟨w_BOOLEAN, ev_BOOLEAN, S_BOOLEAN, E_BOOLEAN⟩ := own_sta (hw _ (List.mem_of_getElem? (i := 17) rfl)) (hw _ (List.mem_of_getElem? (i := 36) rfl)) g10
  obtain ⟨w_FLOAT, ev_FLOAT, S_FLOAT, E_FLOAT⟩ := own_sta (hw _ (List.mem_of_getElem? (i := 17) rfl)) (hw _ (List.mem_of_getElem? (i := 38) rfl)) g13
  obtain ⟨w_INT, ev_INT, S_INT, E_INT⟩ := own_sta (hw _ (List.mem_of_getElem? (i := 17) rfl)) (hw _ (List.mem_of_getElem? (i := 40) rfl)) g16
  obtain ⟨w_BYTE, ev_BYTE, S_BYTE, E_BYTE⟩ := own_sta (hw _ (List.mem_of_getElem? (i := 17) rfl)) (hw _ (List.mem_of_getElem? (i := 42) rfl)) g19
  obtain ⟨w_CHAR, ev_CHAR, S_CHAR, E_CHAR⟩ := own_sta (hw _ (List.mem_of_getElem? (i := 17) rfl)) (hw _ (List.mem_of_getElem? (i := 44) rfl)) g22
  obtain ⟨w_DOUBLE, ev_DOUBLE, S_DOUBLE, E_DOUBLE⟩ := own_sta (hw _ (List.mem_of_getElem? (i := 17) rfl)) (hw _ (List.mem_of_getElem? (i := 46) rfl)) g25
  obtain ⟨w_SHORT, ev_SHORT, S_SHORT, E_SHORT⟩ := own_sta (hw _ (List.mem_of_getElem? (i := 17) rfl)) (hw _ (List.mem_of_getElem? (i := 48) rfl)) g28
  obtain ⟨w_BY_CODE, ev_BY_CODE, S_BY_CODE, cl_BY_CODE, Ar_BY_CODE⟩ := own_staA (hw _ (List.mem_of_getElem? (i := 2) rfl)) (hw _ (List.mem_of_getElem? (i := 16) rfl)) g0
  have Z_BY_CODE : cl_BY_CODE.slots.size = 9 := own_len ev_BY_CODE Ar_BY_CODE g1 (by decide)
  have el_BY_CODE_7 : cl_BY_CODE.slots[7]? = some (.ref w_LONG) := own_elR ev_BY_CODE Ar_BY_CODE ev_LONG g3 (k := (7 : Int32)) (by decide)
  obtain ⟨w_CODES, ev_CODES, S_CODES, cl_CODES, Ar_CODES⟩ := own_staA (hw _ (List.mem_of_getElem? (i := 2) rfl)) (hw _ (List.mem_of_getElem? (i := 24) rfl)) g4
  have Z_CODES : cl_CODES.slots.size = 9 := own_len ev_CODES Ar_CODES g5 (by decide)
  have F_LONG_ordinal : Fld s s.heap w_LONG "java/lang/Enum" "ordinal" "I" (.int (8 : Int32)) := own_fld ev_LONG g6
  have el_BY_CODE_0 : cl_BY_CODE.slots[0]? = some (.ref w_OBJECT) := own_elR ev_BY_CODE Ar_BY_CODE ev_OBJECT g8 (k := (0 : Int32)) (by decide)
  have F_OBJECT_ordinal : Fld s s.heap w_OBJECT "java/lang/Enum" "ordinal" "I" (.int (0 : Int32)) := own_fld ev_OBJECT g9
  have el_BY_CODE_2 : cl_BY_CODE.slots[2]? = some (.ref w_BOOLEAN) := own_elR ev_BY_CODE Ar_BY_CODE ev_BOOLEAN g11 (k := (2 : Int32)) (by decide)
  have F_BOOLEAN_ordinal : Fld s s.heap w_BOOLEAN "java/lang/Enum" "ordinal" "I" (.int (1 : Int32)) := own_fld ev_BOOLEAN g12
  have el_BY_CODE_5 : cl_BY_CODE.slots[5]? = some (.ref w_FLOAT) := own_elR ev_BY_CODE Ar_BY_CODE ev_FLOAT g14 (k := (5 : Int32)) (by decide)
  have F_FLOAT_ordinal : Fld s s.heap w_FLOAT "java/lang/Enum" "ordinal" "I" (.int (3 : Int32)) := own_fld ev_FLOAT g15
  have el_BY_CODE_1 : cl_BY_CODE.slots[1]? = some (.ref w_INT) := own_elR ev_BY_CODE Ar_BY_CODE ev_INT g17 (k := (1 : Int32)) (by decide)
  have F_INT_ordinal : Fld s s.heap w_INT "java/lang/Enum" "ordinal" "I" (.int (7 : Int32)) := own_fld ev_INT g18
  have el_BY_CODE_3 : cl_BY_CODE.slots[3]? = some (.ref w_BYTE) := own_elR ev_BY_CODE Ar_BY_CODE ev_BYTE g20 (k := (3 : Int32)) (by decide)
  have F_BYTE_ordinal : Fld s s.heap w_BYTE "java/lang/Enum" "ordinal" "I" (.int (5 : Int32)) := own_fld ev_BYTE g21
  have el_BY_CODE_4 : cl_BY_CODE.slots[4]? = some (.ref w_CHAR) := own_elR ev_BY_CODE Ar_BY_CODE ev_CHAR g23 (k := (4 : Int32)) (by decide)
  have F_CHAR_ordinal : Fld s s.heap w_CHAR "java/lang/Enum" "ordinal" "I" (.int (2 : Int32)) := own_fld ev_CHAR g24
  have el_BY_CODE_6 : cl_BY_CODE.slots[6]? = some (.ref w_DOUBLE) := own_elR ev_BY_CODE Ar_BY_CODE ev_DOUBLE g26 (k := (6 : Int32)) (by decide)
  have F_DOUBLE_ordinal : Fld s s.heap w_DOUBLE "java/lang/Enum" "ordinal" "I" (.int (4 : Int32)) := own_fld ev_DOUBLE g27
  have el_BY_CODE_8 : cl_BY_CODE.slots[8]? = some (.ref w_SHORT) := own_elR ev_BY_CODE Ar_BY_CODE ev_SHORT g29 (k := (8 : Int32)) (by decide)
  have F_SHORT_ordinal : Fld s s.heap w_SHORT "java/lang/Enum" "ordinal" "I" (.int (6 : Int32)) := own_fld ev_SHORT g30
  have el_CODES_0 : cl_CODES.slots[0]? = some (.int (0 : Int32)) := own_elI ev_CODES Ar_CODES g31 (k := (0 : Int32)) (by decide)
  have el_CODES_1 : cl_CODES.slots[1]? = some (.int (2 : Int32)) := own_elI ev_CODES Ar_CODES g32 (k := (1 : Int32)) (by decide)
  have el_CODES_2 : cl_CODES.slots[2]? = some (.int (4 : Int32)) := own_elI ev_CODES Ar_CODES g33 (k := (2 : Int32)) (by decide)
  have el_CODES_3 : cl_CODES.slots[3]? = some (.int (5 : Int32)) := own_elI ev_CODES Ar_CODES g34 (k := (3 : Int32)) (by decide)
  have el_CODES_4 : cl_CODES.slots[4]? = some (.int (6 : Int32)) := own_elI ev_CODES Ar_CODES g35 (k := (4 : Int32)) (by decide)
  have el_CODES_5 : cl_CODES.slots[5]? = some (.int (3 : Int32)) := own_elI ev_CODES Ar_CODES g36 (k := (5 : Int32)) (by decide)
  have el_CODES_6 : cl_CODES.slots[6]? = some (.int (8 : Int32)) := own_elI ev_CODES Ar_CODES g37 (k := (6 : Int32)) (by decide)
  have el_CODES_7 : cl_CODES.slots[7]? = some (.int (1 : Int32)) := own_elI ev_CODES Ar_CODES g38 (k := (7 : Int32)) (by decide)
  have el_CODES_8 : cl_CODES.slots[8]? = some (.int (7 : Int32)) := own_elI ev_CODES Ar_CODES g39 (k := (8 : Int32)) (by decide)
  obtain ⟨n, o, h1, h2, h3, _, L, rfl, ⟨rfl, N⟩, hq⟩ := rm_0 l s _ hw tables_1 i0 i1 w_OBJECT w_INT w_BOOLEAN w_BYTE w_CHAR w_FLOAT w_DOUBLE w_LONG w_SHORT w_BY_CODE cl_BY_CODE w_CODES cl_CODES s.heap s.heap.size (Nat.le_refl _) S_OBJECT S_INT S_BOOLEAN S_BYTE S_CHAR S_FLOAT S_DOUBLE S_LONG S_SHORT S_BY_CODE Ar_BY_CODE Z_BY_CODE (own_tab w_OBJECT w_INT w_BOOLEAN w_BYTE w_CHAR w_FLOAT w_DOUBLE w_LONG w_SHORT el_BY_CODE_0 el_BY_CODE_1 el_BY_CODE_2 el_BY_CODE_3 el_BY_CODE_4 el_BY_CODE_5 el_BY_CODE_6 el_BY_CODE_7 el_BY_CODE_8) E_OBJECT E_INT E_BOOLEAN E_BYTE E_CHAR E_FLOAT E_DOUBLE E_LONG E_SHORT F_OBJECT_ordinal F_INT_ordinal F_BOOLEAN_ordinal F_BYTE_ordinal F_CHAR_ordinal F_FLOAT_ordinal F_DOUBLE_ordinal F_LONG_ordinal F_SHORT_ordinal S_CODES Ar_CODES Z_CODES el_CODES_0 el_CODES_1 el_CODES_2 el_CODES_3 el_CODES_4 el_CODES_5 el_CODES_6 el_CODES_7 el_CODES_8 p e ha hc hk s m _ below hf ((Spec.applies_iff_loose hf).mp happ).1 ⟨rfl, State.Warmed39.refl s, rfl⟩ trivial
  refine ⟨n, _, h1, h2, h3, hpost _ _ _ _ _ _ ⟨Cond.after_iff.mpr rfl, Cond.after_iff.mpr (eq_i res_at (Term.int_eval (1)) rfl), trivial⟩ ⟨hq.1, hq.2.1, (hq.2.2.sift fun y hy => Or.inr (N y hy)).mono (by decide) (by decide)⟩⟩
theorem main_1_1 : Claimed_1_1 := comes_1 fun _ _ _ _ _ _ h hF => ⟨h.1, hF⟩
theorem main_1_2 : Claimed_1_2 := comes_1 fun _ _ _ _ _ _ h hF => ⟨h.2.1, hF⟩
end Jvm.Pilot.@@N@@
namespace Jvm.Pilot.@@N@@
open Jvm Jvm.ClassFile Sem Op Lib Jvm.Free Jvm.Stand Jvm.Pilot.@@N@@.Jvm.D
/-! MADE BY PROGRAM (witnessworld.py) out of the Statement's table words and the real class files: 14 classes; the members and pool entries that the words name. The judged class is class 1, her method 1. -/
namespace start1
open Jvm.ClassFile
def u (s : String) : CpInfo := .utf8 (stringToUtf16 s)
/-- a pool by its gaps: so many unusable entries, then the entry; so many at the end -/
def gap : Nat → List CpInfo → List CpInfo
  | 0, r => r
  | n + 1, r => .unusable :: gap n r
def poolList (es : List (Nat × CpInfo)) (last : Nat) : List CpInfo := es.foldr (fun e r => gap e.1 (e.2 :: r)) (gap last [])
def pool (es : List (Nat × CpInfo)) (last : Nat) : Array CpInfo := ⟨poolList es last⟩
def fileOf (pool : Array CpInfo) (this : Nat) (attrs : Array Attribute := #[]) (ms : Array MethodInfo := #[]) (fl : Nat := 33) (sup : Nat := 0) (ifs : Array Nat := #[]) (fds : Array FieldInfo := #[]) : ClassFile where
  minorVersion := 0
  majorVersion := 65
  constantPool := pool
  accessFlags := fl
  thisClass := this
  superClass := sup
  interfaces := ifs
  fields := fds
  methods := ms
  attributes := attrs
def plain (name : String) (sup : Option ClassId) : Class where
  name := name
  kind := .ordinary
  loader := none
  accessFlags := 33
  super := sup
  interfaces := #[]
  cf := none
  fields := #[]
  methods := #[]
  instanceTypes := #[]
  staticTypes := #[]
  resolved := #[]
  callSites := []
  init := .initialized
  statics := none
  mirror := none

def pool0 : Array CpInfo := pool [(5, u "<init>"), (0, u "()V"), (1, .class_ 10), (1, u "java/lang/Object")] 113

def k0m0 : Method := { name := "<init>", desc := "()V", sig := { parameters := [], returnType := none }, accessFlags := 1, code := none }
/-- java/lang/Object -/
def k0 : Class := { plain "java/lang/Object" none with
  accessFlags := 33
  interfaces := #[]
  cf := some (fileOf pool0 8 #[] #[{ accessFlags := 1, nameIndex := 5, descriptorIndex := 6, attributes := #[] }] 33 0 #[] #[])
  fields := #[]
  methods := #[k0m0]
  instanceTypes := #[]
  staticTypes := #[]
  resolved := Array.replicate 124 none
  statics := none }

def pool1 : Array CpInfo := pool [(2, .class_ 4), (1, u "java/lang/Object"), (0, u "<init>"), (0, u "()V"), (0, .methodref 8 9), (0, .class_ 10), (0, .nameAndType 11 12), (0, u "com/example/heapscribe/heapscribe/Bmd"), (0, u "type"), (0, u "(J)Lcom/example/heapscribe/heapscribe/Hprof$BasicType;"), (0, .methodref 14 15), (0, .class_ 16), (0, .nameAndType 17 12), (0, u "com/example/heapscribe/heapscribe/BmdTypePinLaw"), (0, u "expected"), (0, .methodref 8 19), (0, .nameAndType 20 21), (0, u "typeCode"), (0, u "(Lcom/example/heapscribe/heapscribe/Hprof$BasicType;)I"), (0, .fieldref 23 24), (0, .class_ 25), (0, .nameAndType 26 27), (0, u "com/example/heapscribe/heapscribe/Hprof$BasicType"), (0, u "OBJECT"), (0, u "Lcom/example/heapscribe/heapscribe/Hprof$BasicType;"), (0, .fieldref 23 29), (0, .nameAndType 30 27), (0, u "INT"), (0, .long 2), (1, .fieldref 23 34), (0, .nameAndType 35 27), (0, u "BOOLEAN"), (0, .long 3), (1, .fieldref 23 39), (0, .nameAndType 40 27), (0, u "BYTE"), (0, .long 4), (1, .fieldref 23 44), (0, .nameAndType 45 27), (0, u "CHAR"), (0, .long 5), (1, .fieldref 23 49), (0, .nameAndType 50 27), (0, u "FLOAT"), (0, .long 6), (1, .fieldref 23 54), (0, .nameAndType 55 27), (0, u "DOUBLE"), (0, .long 7), (1, .fieldref 23 59), (0, .nameAndType 60 27), (0, u "LONG"), (0, .long 8), (1, .fieldref 23 64), (0, .nameAndType 65 27), (0, u "SHORT"), (2, u "law"), (0, u "(JI)Z")] 7

def k1m0 : Method := { name := "<init>", desc := "()V", sig := { parameters := [], returnType := none }, accessFlags := 2, code := none }
def k1c1 : Code := { maxStack := 4, maxLocals := 7, code := code, exceptionTable := #[], attributes := #[] }
def k1m1 : Method := { name := "law", desc := "(JI)Z", sig := { parameters := [.long, .int], returnType := some .boolean }, accessFlags := 9, code := some k1c1 }
def k1c2 : Code := { maxStack := 4, maxLocals := 2, code := method_3_code, exceptionTable := #[], attributes := #[] }
def k1m2 : Method := { name := "expected", desc := "(J)Lcom/example/heapscribe/heapscribe/Hprof$BasicType;", sig := { parameters := [.long], returnType := some (.object "com/example/heapscribe/heapscribe/Hprof$BasicType") }, accessFlags := 10, code := some k1c2 }
/-- com/example/heapscribe/heapscribe/BmdTypePinLaw -/
def k1 : Class := { plain "com/example/heapscribe/heapscribe/BmdTypePinLaw" (some 0) with
  accessFlags := 49
  interfaces := #[]
  cf := some (fileOf pool1 14 #[] #[{ accessFlags := 2, nameIndex := 5, descriptorIndex := 6, attributes := #[] }, { accessFlags := 9, nameIndex := 68, descriptorIndex := 69, attributes := #[] }, { accessFlags := 10, nameIndex := 17, descriptorIndex := 12, attributes := #[] }] 49 2 #[] #[])
  fields := #[]
  methods := #[k1m0, k1m1, k1m2]
  instanceTypes := #[]
  staticTypes := #[]
  resolved := Array.replicate 77 none
  statics := none }

def pool2 : Array CpInfo := pool [(2, .class_ 4), (1, u "java/lang/Object"), (0, u "<init>"), (0, u "()V"), (20, .fieldref 28 29), (0, .class_ 30), (0, .nameAndType 31 32), (0, u "com/example/heapscribe/heapscribe/Bmd"), (0, u "CODES"), (0, u "[I"), (0, .methodref 34 35), (0, .class_ 36), (0, .nameAndType 37 38), (0, u "com/example/heapscribe/heapscribe/Hprof$BasicType"), (0, u "ordinal"), (0, u "()I"), (0, .fieldref 28 40), (0, .nameAndType 41 42), (0, u "BY_CODE"), (0, u "[Lcom/example/heapscribe/heapscribe/Hprof$BasicType;"), (36, u "VERSION"), (0, u "I"), (6, u "typeCode"), (0, u "(Lcom/example/heapscribe/heapscribe/Hprof$BasicType;)I"), (0, u "type"), (0, u "(J)Lcom/example/heapscribe/heapscribe/Hprof$BasicType;"), (8, .class_ 100), (0, u "com/example/heapscribe/heapscribe/Bmd$RecordKind")] 5

def k2m0 : Method := { name := "<init>", desc := "()V", sig := { parameters := [], returnType := none }, accessFlags := 2, code := none }
def k2c1 : Code := { maxStack := 2, maxLocals := 1, code := prog_1_method_3_code, exceptionTable := #[], attributes := #[] }
def k2m1 : Method := { name := "typeCode", desc := "(Lcom/example/heapscribe/heapscribe/Hprof$BasicType;)I", sig := { parameters := [(.object "com/example/heapscribe/heapscribe/Hprof$BasicType")], returnType := some .int }, accessFlags := 9, code := some k2c1 }
def k2c2 : Code := { maxStack := 4, maxLocals := 2, code := prog_1_method_4_code, exceptionTable := #[], attributes := #[] }
def k2m2 : Method := { name := "type", desc := "(J)Lcom/example/heapscribe/heapscribe/Hprof$BasicType;", sig := { parameters := [.long], returnType := some (.object "com/example/heapscribe/heapscribe/Hprof$BasicType") }, accessFlags := 9, code := some k2c2 }
/-- com/example/heapscribe/heapscribe/Bmd -/
def k2 : Class := { plain "com/example/heapscribe/heapscribe/Bmd" (some 0) with
  accessFlags := 49
  interfaces := #[]
  cf := some (fileOf pool2 28 #[.nestMembers #[99]] #[{ accessFlags := 2, nameIndex := 5, descriptorIndex := 6, attributes := #[] }, { accessFlags := 9, nameIndex := 87, descriptorIndex := 88, attributes := #[] }, { accessFlags := 9, nameIndex := 89, descriptorIndex := 90, attributes := #[] }] 49 2 #[] #[{ accessFlags := 25, nameIndex := 79, descriptorIndex := 80, attributes := #[] }, { accessFlags := 26, nameIndex := 41, descriptorIndex := 42, attributes := #[] }, { accessFlags := 26, nameIndex := 31, descriptorIndex := 32, attributes := #[] }])
  fields := #[{ name := "VERSION", type := .int, accessFlags := 25, slot := 0, constantValue := 0 }, { name := "BY_CODE", type := (.array (.object "com/example/heapscribe/heapscribe/Hprof$BasicType")), accessFlags := 26, slot := 1, constantValue := 0 }, { name := "CODES", type := (.array .int), accessFlags := 26, slot := 2, constantValue := 0 }]
  methods := #[k2m0, k2m1, k2m2]
  instanceTypes := #[]
  staticTypes := #[.int, (.array (.object "com/example/heapscribe/heapscribe/Hprof$BasicType")), (.array .int)]
  resolved := Array.replicate 106 none
  statics := some 0 }

def pool3 : Array CpInfo := pool [(1, .class_ 2), (0, u "java/lang/constant/Constable"), (0, .class_ 4), (0, u "java/lang/Object")] 6

/-- java/lang/constant/Constable -/
def k3 : Class := { plain "java/lang/constant/Constable" (some 0) with
  accessFlags := 1537
  interfaces := #[]
  cf := some (fileOf pool3 1 #[] #[] 1537 3 #[] #[])
  fields := #[]
  methods := #[]
  instanceTypes := #[]
  staticTypes := #[]
  resolved := Array.replicate 11 none
  statics := none }

def pool4 : Array CpInfo := pool [(1, .class_ 2), (0, u "java/lang/Comparable"), (0, .class_ 4), (0, u "java/lang/Object")] 7

/-- java/lang/Comparable -/
def k4 : Class := { plain "java/lang/Comparable" (some 0) with
  accessFlags := 1537
  interfaces := #[]
  cf := some (fileOf pool4 1 #[] #[] 1537 3 #[] #[])
  fields := #[]
  methods := #[]
  instanceTypes := #[]
  staticTypes := #[]
  resolved := Array.replicate 12 none
  statics := none }

def pool5 : Array CpInfo := pool [(1, .class_ 2), (0, u "java/io/Serializable"), (0, .class_ 4), (0, u "java/lang/Object")] 2

/-- java/io/Serializable -/
def k5 : Class := { plain "java/io/Serializable" (some 0) with
  accessFlags := 1537
  interfaces := #[]
  cf := some (fileOf pool5 1 #[] #[] 1537 3 #[] #[])
  fields := #[]
  methods := #[]
  instanceTypes := #[]
  staticTypes := #[]
  resolved := Array.replicate 7 none
  statics := none }

def pool6 : Array CpInfo := pool [(2, .class_ 4), (1, u "java/lang/Enum"), (0, u "name"), (0, u "Ljava/lang/String;"), (0, .fieldref 2 8), (0, .nameAndType 9 10), (0, u "ordinal"), (0, u "I"), (1, .class_ 14), (1, u "java/lang/Object"), (4, u "hash"), (86, .class_ 108), (1, u "java/lang/Enum$EnumDesc"), (2, .class_ 112), (0, u "java/lang/constant/Constable"), (0, .class_ 114), (0, u "java/lang/Comparable"), (0, .class_ 116), (0, u "java/io/Serializable"), (9, u "()I")] 77

def k6c0 : Code := { maxStack := 1, maxLocals := 1, code := jdk_37_method_2_code, exceptionTable := #[], attributes := #[] }
def k6m0 : Method := { name := "ordinal", desc := "()I", sig := { parameters := [], returnType := some .int }, accessFlags := 17, code := some k6c0 }
/-- java/lang/Enum -/
def k6 : Class := { plain "java/lang/Enum" (some 0) with
  accessFlags := 1057
  interfaces := #[3, 4, 5]
  cf := some (fileOf pool6 2 #[.nestMembers #[106]] #[{ accessFlags := 17, nameIndex := 9, descriptorIndex := 126, attributes := #[] }] 1057 12 #[111, 113, 115] #[{ accessFlags := 18, nameIndex := 5, descriptorIndex := 6, attributes := #[] }, { accessFlags := 18, nameIndex := 9, descriptorIndex := 10, attributes := #[] }, { accessFlags := 2, nameIndex := 19, descriptorIndex := 10, attributes := #[] }])
  fields := #[{ name := "name", type := (.object "java/lang/String"), accessFlags := 18, slot := 0, constantValue := 0 }, { name := "ordinal", type := .int, accessFlags := 18, slot := 1, constantValue := 0 }, { name := "hash", type := .int, accessFlags := 2, slot := 2, constantValue := 0 }]
  methods := #[k6m0]
  instanceTypes := #[(.object "java/lang/String"), .int, .int]
  staticTypes := #[]
  resolved := Array.replicate 204 none
  statics := none }

def pool7 : Array CpInfo := pool [(1, .class_ 2), (0, u "com/example/heapscribe/heapscribe/Hprof$BasicType"), (2, u "OBJECT"), (0, u "Lcom/example/heapscribe/heapscribe/Hprof$BasicType;"), (2, u "BOOLEAN"), (2, u "CHAR"), (2, u "FLOAT"), (2, u "DOUBLE"), (2, u "BYTE"), (2, u "SHORT"), (2, u "INT"), (2, u "LONG"), (2, u "$VALUES"), (0, u "[Lcom/example/heapscribe/heapscribe/Hprof$BasicType;"), (6, .class_ 43), (1, u "java/lang/Enum"), (8, u "code"), (0, u "I"), (2, u "size"), (2, u "descriptor"), (0, u "C"), (18, u "BY_CODE"), (2, u "BY_DESCRIPTOR"), (24, .class_ 109), (1, u "com/example/heapscribe/heapscribe/Hprof")] 49

/-- com/example/heapscribe/heapscribe/Hprof$BasicType -/
def k7 : Class := { plain "com/example/heapscribe/heapscribe/Hprof$BasicType" (some 6) with
  accessFlags := 16433
  interfaces := #[]
  cf := some (fileOf pool7 1 #[.nestHost 107] #[] 16433 41 #[] #[{ accessFlags := 16409, nameIndex := 5, descriptorIndex := 6, attributes := #[] }, { accessFlags := 16409, nameIndex := 9, descriptorIndex := 6, attributes := #[] }, { accessFlags := 16409, nameIndex := 12, descriptorIndex := 6, attributes := #[] }, { accessFlags := 16409, nameIndex := 15, descriptorIndex := 6, attributes := #[] }, { accessFlags := 16409, nameIndex := 18, descriptorIndex := 6, attributes := #[] }, { accessFlags := 16409, nameIndex := 21, descriptorIndex := 6, attributes := #[] }, { accessFlags := 16409, nameIndex := 24, descriptorIndex := 6, attributes := #[] }, { accessFlags := 16409, nameIndex := 27, descriptorIndex := 6, attributes := #[] }, { accessFlags := 16409, nameIndex := 30, descriptorIndex := 6, attributes := #[] }, { accessFlags := 26, nameIndex := 79, descriptorIndex := 34, attributes := #[] }, { accessFlags := 26, nameIndex := 82, descriptorIndex := 34, attributes := #[] }, { accessFlags := 18, nameIndex := 52, descriptorIndex := 53, attributes := #[] }, { accessFlags := 18, nameIndex := 56, descriptorIndex := 53, attributes := #[] }, { accessFlags := 18, nameIndex := 59, descriptorIndex := 60, attributes := #[] }, { accessFlags := 4122, nameIndex := 33, descriptorIndex := 34, attributes := #[] }])
  fields := #[{ name := "OBJECT", type := (.object "com/example/heapscribe/heapscribe/Hprof$BasicType"), accessFlags := 16409, slot := 0, constantValue := 0 }, { name := "BOOLEAN", type := (.object "com/example/heapscribe/heapscribe/Hprof$BasicType"), accessFlags := 16409, slot := 1, constantValue := 0 }, { name := "CHAR", type := (.object "com/example/heapscribe/heapscribe/Hprof$BasicType"), accessFlags := 16409, slot := 2, constantValue := 0 }, { name := "FLOAT", type := (.object "com/example/heapscribe/heapscribe/Hprof$BasicType"), accessFlags := 16409, slot := 3, constantValue := 0 }, { name := "DOUBLE", type := (.object "com/example/heapscribe/heapscribe/Hprof$BasicType"), accessFlags := 16409, slot := 4, constantValue := 0 }, { name := "BYTE", type := (.object "com/example/heapscribe/heapscribe/Hprof$BasicType"), accessFlags := 16409, slot := 5, constantValue := 0 }, { name := "SHORT", type := (.object "com/example/heapscribe/heapscribe/Hprof$BasicType"), accessFlags := 16409, slot := 6, constantValue := 0 }, { name := "INT", type := (.object "com/example/heapscribe/heapscribe/Hprof$BasicType"), accessFlags := 16409, slot := 7, constantValue := 0 }, { name := "LONG", type := (.object "com/example/heapscribe/heapscribe/Hprof$BasicType"), accessFlags := 16409, slot := 8, constantValue := 0 }, { name := "BY_CODE", type := (.array (.object "com/example/heapscribe/heapscribe/Hprof$BasicType")), accessFlags := 26, slot := 9, constantValue := 0 }, { name := "BY_DESCRIPTOR", type := (.array (.object "com/example/heapscribe/heapscribe/Hprof$BasicType")), accessFlags := 26, slot := 10, constantValue := 0 }, { name := "code", type := .int, accessFlags := 18, slot := 3, constantValue := 0 }, { name := "size", type := .int, accessFlags := 18, slot := 4, constantValue := 0 }, { name := "descriptor", type := .char, accessFlags := 18, slot := 5, constantValue := 0 }, { name := "$VALUES", type := (.array (.object "com/example/heapscribe/heapscribe/Hprof$BasicType")), accessFlags := 4122, slot := 11, constantValue := 0 }]
  methods := #[]
  instanceTypes := #[(.object "java/lang/String"), .int, .int, .int, .int, .char]
  staticTypes := #[(.object "com/example/heapscribe/heapscribe/Hprof$BasicType"), (.object "com/example/heapscribe/heapscribe/Hprof$BasicType"), (.object "com/example/heapscribe/heapscribe/Hprof$BasicType"), (.object "com/example/heapscribe/heapscribe/Hprof$BasicType"), (.object "com/example/heapscribe/heapscribe/Hprof$BasicType"), (.object "com/example/heapscribe/heapscribe/Hprof$BasicType"), (.object "com/example/heapscribe/heapscribe/Hprof$BasicType"), (.object "com/example/heapscribe/heapscribe/Hprof$BasicType"), (.object "com/example/heapscribe/heapscribe/Hprof$BasicType"), (.array (.object "com/example/heapscribe/heapscribe/Hprof$BasicType")), (.array (.object "com/example/heapscribe/heapscribe/Hprof$BasicType")), (.array (.object "com/example/heapscribe/heapscribe/Hprof$BasicType"))]
  resolved := Array.replicate 159 none
  statics := some 1 }

def pool8 : Array CpInfo := pool [(1, u "java/lang/Cloneable"), (0, .class_ 1), (0, u "java/lang/Object"), (0, .class_ 3)] 3

/-- java/lang/Cloneable -/
def k8 : Class := { plain "java/lang/Cloneable" (some 0) with
  accessFlags := 1537
  interfaces := #[]
  cf := some (fileOf pool8 2 #[] #[] 1537 4 #[] #[])
  fields := #[]
  methods := #[]
  instanceTypes := #[]
  staticTypes := #[]
  resolved := Array.replicate 8 none
  statics := none }

/-- the primitive byte -/
def k9 : Class := { plain "byte" none with kind := .primitive 'B', accessFlags := 0x411 }
/-- [B -/
def k10 : Class := { plain "[B" (some 0) with kind := .array 9 .byte, interfaces := #[8, 5], accessFlags := 1041 }

/-- the primitive int -/
def k11 : Class := { plain "int" none with kind := .primitive 'I', accessFlags := 0x411 }
/-- [I -/
def k12 : Class := { plain "[I" (some 0) with kind := .array 11 .int, interfaces := #[8, 5], accessFlags := 1041 }

/-- [Lcom/example/heapscribe/heapscribe/Hprof$BasicType; -/
def k13 : Class := { plain "[Lcom/example/heapscribe/heapscribe/Hprof$BasicType;" (some 0) with kind := .array 7 (.object "com/example/heapscribe/heapscribe/Hprof$BasicType"), interfaces := #[8, 5], accessFlags := 1041 }

def heap : Heap := #[{ cls := 2, slots := #[.int 0, .ref 2, .ref 12], vm := .statics 2 },
  { cls := 7, slots := #[.ref 4, .ref 5, .ref 9, .ref 6, .ref 10, .ref 8, .ref 11, .ref 7, .ref 3, .null, .null, .null], vm := .statics 7 },
  { cls := 13, slots := #[.ref 4, .ref 7, .ref 5, .ref 8, .ref 9, .ref 6, .ref 10, .ref 3, .ref 11], vm := .none },
  { cls := 7, slots := #[.null, .int 8, .int 0, .int 0, .int 0, .int 0], vm := .none },
  { cls := 7, slots := #[.null, .int 0, .int 0, .int 0, .int 0, .int 0], vm := .none },
  { cls := 7, slots := #[.null, .int 1, .int 0, .int 0, .int 0, .int 0], vm := .none },
  { cls := 7, slots := #[.null, .int 3, .int 0, .int 0, .int 0, .int 0], vm := .none },
  { cls := 7, slots := #[.null, .int 7, .int 0, .int 0, .int 0, .int 0], vm := .none },
  { cls := 7, slots := #[.null, .int 5, .int 0, .int 0, .int 0, .int 0], vm := .none },
  { cls := 7, slots := #[.null, .int 2, .int 0, .int 0, .int 0, .int 0], vm := .none },
  { cls := 7, slots := #[.null, .int 4, .int 0, .int 0, .int 0, .int 0], vm := .none },
  { cls := 7, slots := #[.null, .int 6, .int 0, .int 0, .int 0, .int 0], vm := .none },
  { cls := 12, slots := #[.int 0, .int 2, .int 4, .int 5, .int 6, .int 3, .int 8, .int 1, .int 7], vm := .none }]
def classes : Array Class := #[k0, k1, k2, k3, k4, k5, k6, k7, k8, k9, k10, k11, k12, k13]
def interned : List (Array UInt16 × Addr) := []
def slotsUsed : Nat := 87
def theMethod : MethodId := ⟨1, 1⟩
def args0 : Array Value := #[.long 5, .int 5]
def aboutOver (below : List Frame) : State where
  vm := { classes := classes, interned := interned.toArray }
  heap := heap
  slotsUsed := slotsUsed
  threads := #[{ frames := .invoking theMethod args0 :: below }]
def below0 : List Frame := [.native { method := ⟨0, 0⟩, args := #[] }]
def about1 : State := aboutOver below0
def p0 : Program := .bare "" "" ""
def e0 : Env := launch0.env 0 0 0
theorem w_frames : about1.frames = Frame.invoking theMethod args0 :: below0 := rfl
set_option maxRecDepth 65536 in
theorem w_args : argsFit about1.vm theMethod args0 = true := by decide +kernel
set_option maxRecDepth 65536 in
theorem w_heap : heapFits about1 = true := by decide +kernel
set_option maxRecDepth 65536 in
theorem w_runnable : about1.curStatus? = some .runnable := by decide +kernel
set_option maxRecDepth 65536 in
theorem w_alone : about1.alone = true := by decide +kernel
set_option maxRecDepth 65536 in
theorem w_named : about1.methodNamed? x = some theMethod := by decide +kernel
set_option maxRecDepth 65536 in
theorem w_hears : about1.hears theMethod below0 = true := by decide +kernel
set_option maxRecDepth 65536 in
theorem w_ripe : about1.ripe theMethod args0 below0 = true := by decide +kernel
theorem w_running : about1.status = .running := rfl
set_option maxRecDepth 65536 in
theorem w_room : about1.hasRoom e0.platform room_1 = true :=
  launch0.hasRoom_least _ room_1 (by decide +kernel) (by decide +kernel) (by decide +kernel) (by decide +kernel) (by decide +kernel) (by decide +kernel)
theorem allAtoms_all (ts : List Jvm.Cond) (a : Array Jvm.Value) (st : Jvm.State) : (allAtoms ts).before a st = ts.all (fun c => c.before a st) := by
  induction ts with
  | nil => rfl
  | cons c t ih =>
    show (Jvm.Cond.and c (allAtoms t)).before a st = _
    rw [Jvm.Cond.before_and, ih, List.all_cons]
def words1 : List Jvm.Cond := Jvm.Cond.code x code maxLocals ret :: tables_1
/-- a 'code' word, met by the world's own term for the bytes: nothing is compared byte by byte -/
theorem code_word {y : MethodName} {bytes : ByteArray} {mx : Nat} {rt : Option FieldType} {a : Array Value} {s : State} {m : MethodId} {meth : Method} {c : Code} (h1 : s.methodNamed? y = some m) (h2 : s.vm.method? m = some meth) (h3 : meth.code = some c) (h4 : c.code = bytes)
    (h5 : (c.maxLocals == mx && c.exceptionTable.isEmpty && decide (c.maxStack ≤ mostOperands) && decide (meth.sig.returnType = rt) && !meth.locks && decide (parseMethodDescriptor y.desc = some meth.sig)) = true) : (Jvm.Cond.code y bytes mx rt).before a s = true := by
  simp only [Bool.and_eq_true, beq_iff_eq, Bool.not_eq_true', decide_eq_true_eq] at h5
  obtain ⟨⟨⟨⟨⟨g1, g2⟩, g3⟩, g4⟩, g5⟩, g6⟩ := h5
  simp [Cond.before, Cond.holds, Cond.value, h1, h2, h3, h4, g1, g2, g3, g4, g5, g6]
def isCode : Jvm.Cond → Bool
  | .code _ _ _ _ => true
  | _ => false
theorem all_split {L : List Jvm.Cond} {P : Jvm.Cond → Bool} (h1 : L.all (fun c => isCode c || P c) = true) (h2 : ∀ c ∈ L.filter isCode, P c = true) : L.all P = true := by
  refine List.all_eq_true.mpr fun c hc => ?_
  have h := List.all_eq_true.mp h1 c hc
  rcases Bool.eq_false_or_eq_true (isCode c) with hi | hi
  · exact h2 c (List.mem_filter.mpr ⟨hc, hi⟩)
  · simpa [hi] using h
set_option maxRecDepth 65536 in
theorem w_c0 : (Jvm.Cond.code x code maxLocals ret).before args0 about1 = true := code_word (m := ⟨1, 1⟩) (meth := k1m1) (c := k1c1) (by decide +kernel) rfl rfl rfl (by decide +kernel)
set_option maxRecDepth 65536 in
theorem w_c1 : (Jvm.Cond.code ({ cls := "com/example/heapscribe/heapscribe/Bmd", name := "type", desc := "(J)Lcom/example/heapscribe/heapscribe/Hprof$BasicType;" } : Jvm.MethodName) prog_1_method_4_code (2 : Nat) (Option.some (Jvm.ClassFile.FieldType.object "com/example/heapscribe/heapscribe/Hprof$BasicType"))).before args0 about1 = true := code_word (m := ⟨2, 2⟩) (meth := k2m2) (c := k2c2) (by decide +kernel) rfl rfl rfl (by decide +kernel)
set_option maxRecDepth 65536 in
theorem w_c2 : (Jvm.Cond.code ({ cls := "com/example/heapscribe/heapscribe/BmdTypePinLaw", name := "expected", desc := "(J)Lcom/example/heapscribe/heapscribe/Hprof$BasicType;" } : Jvm.MethodName) method_3_code (2 : Nat) (Option.some (Jvm.ClassFile.FieldType.object "com/example/heapscribe/heapscribe/Hprof$BasicType"))).before args0 about1 = true := code_word (m := ⟨1, 2⟩) (meth := k1m2) (c := k1c2) (by decide +kernel) rfl rfl rfl (by decide +kernel)
set_option maxRecDepth 65536 in
theorem w_c3 : (Jvm.Cond.code ({ cls := "com/example/heapscribe/heapscribe/Bmd", name := "typeCode", desc := "(Lcom/example/heapscribe/heapscribe/Hprof$BasicType;)I" } : Jvm.MethodName) prog_1_method_3_code (1 : Nat) (Option.some Jvm.ClassFile.FieldType.int)).before args0 about1 = true := code_word (m := ⟨2, 1⟩) (meth := k2m1) (c := k2c1) (by decide +kernel) rfl rfl rfl (by decide +kernel)
set_option maxRecDepth 65536 in
theorem w_c4 : (Jvm.Cond.code ({ cls := "java/lang/Enum", name := "ordinal", desc := "()I" } : Jvm.MethodName) jdk_37_method_2_code (1 : Nat) (Option.some Jvm.ClassFile.FieldType.int)).before args0 about1 = true := code_word (m := ⟨6, 0⟩) (meth := k6m0) (c := k6c0) (by decide +kernel) rfl rfl rfl (by decide +kernel)
def codes1 : List Jvm.Cond := [Jvm.Cond.code x code maxLocals ret, Jvm.Cond.code ({ cls := "com/example/heapscribe/heapscribe/Bmd", name := "type", desc := "(J)Lcom/example/heapscribe/heapscribe/Hprof$BasicType;" } : Jvm.MethodName) prog_1_method_4_code (2 : Nat) (Option.some (Jvm.ClassFile.FieldType.object "com/example/heapscribe/heapscribe/Hprof$BasicType")), Jvm.Cond.code ({ cls := "com/example/heapscribe/heapscribe/BmdTypePinLaw", name := "expected", desc := "(J)Lcom/example/heapscribe/heapscribe/Hprof$BasicType;" } : Jvm.MethodName) method_3_code (2 : Nat) (Option.some (Jvm.ClassFile.FieldType.object "com/example/heapscribe/heapscribe/Hprof$BasicType")), Jvm.Cond.code ({ cls := "com/example/heapscribe/heapscribe/Bmd", name := "typeCode", desc := "(Lcom/example/heapscribe/heapscribe/Hprof$BasicType;)I" } : Jvm.MethodName) prog_1_method_3_code (1 : Nat) (Option.some Jvm.ClassFile.FieldType.int), Jvm.Cond.code ({ cls := "java/lang/Enum", name := "ordinal", desc := "()I" } : Jvm.MethodName) jdk_37_method_2_code (1 : Nat) (Option.some Jvm.ClassFile.FieldType.int)]
set_option maxRecDepth 65536 in
theorem codes_eq : words1.filter isCode = codes1 := rfl
theorem w_codes : ∀ c ∈ words1.filter isCode, c.before args0 about1 = true := by
  rw [codes_eq]
  intro c hc
  simp only [codes1, List.mem_cons, List.not_mem_nil, or_false] at hc
  rcases hc with rfl | rfl | rfl | rfl | rfl
  · exact w_c0
  · exact w_c1
  · exact w_c2
  · exact w_c3
  · exact w_c4
set_option maxRecDepth 65536 in
theorem w_t1 : (words1.take 24).all (fun c => isCode c || c.before args0 about1) = true := by decide +kernel
set_option maxRecDepth 65536 in
theorem w_t2 : ((words1.drop 24).take 24).all (fun c => isCode c || c.before args0 about1) = true := by decide +kernel
set_option maxRecDepth 65536 in
theorem w_t3 : ((words1.drop 24).drop 24).all (fun c => isCode c || c.before args0 about1) = true := by decide +kernel
theorem w_tables : (allAtoms (Jvm.Cond.code x code maxLocals ret :: tables_1)).before args0 about1 = true := by
  rw [allAtoms_all]
  show words1.all (fun c => c.before args0 about1) = true
  refine all_split ?_ w_codes
  rw [← List.take_append_drop 24 words1, List.all_append, w_t1, ← List.take_append_drop 24 (words1.drop 24), List.all_append, w_t2, w_t3]
  rfl
set_option maxRecDepth 65536 in
theorem w_case : (Jvm.Cond.and given_1 narrow_1).before args0 about1 = true := by decide +kernel
theorem w_applies : (headSpec (Jvm.Cond.code x code maxLocals ret :: tables_1) room_1).applies x e0.platform about1 = true :=
  (Spec.applies_iff w_frames).mpr ⟨w_running, w_runnable, w_alone, w_named, w_hears, w_ripe, w_room, w_tables⟩
theorem atStart : AtStart classFile x code maxLocals ret World_1 tables_1 room_1 Calls_1 rest_1 Pre_1 launch0 p0 e0 about1 theMethod args0 below0 :=
  ⟨lists_1, trivial, launch0.admits_env _ _ _, launch0.least_env, fairChoices_fair.cas, fairChoices_fair.clock, w_frames, w_args, w_heap, w_applies, trivial, trivial, w_case⟩
end start1
theorem witness_1 : WitnessClaimed_1 := ⟨start1.p0, start1.e0, start1.about1, start1.theMethod, start1.args0, start1.below0, start1.atStart⟩
end Jvm.Pilot.@@N@@
